import PyProof.Rows.All
import Wide.All
import OpenK.AllK
import Wide.FinOn
import PySem.Challenge.RW_wo0053_01
open PySem PySem.W PySem.Spec PySem.Calls PyProof.Rows
set_option linter.unusedVariables false
set_option Elab.async false
set_option maxRecDepth 100000
set_option maxHeartbeats 8000000
namespace Mine
open PySem.Float64
def uE : Int := 2 ^ 1027
def uU : Int := 2 ^ 1074
theorem uU_eq : uU = 140737488355328 * uE := by decide +kernel
theorem uE_pos : 0 < uE := by decide +kernel
theorem uU_pos : 0 < uU := by decide +kernel
def Fi (x : UInt64) : Prop := ∃ a m e, decode x = .fin a m e
theorem repV (k : Nat) : ∀ q : Nat, q ≤ 2 ^ 53 → ∃ t, V t = q * 2 ^ k := by
  induction k with
  | zero => intro q h; exact ⟨0 * 2 ^ 52 + q, V_at h (.inr rfl)⟩
  | succ k ih =>
    intro q h
    by_cases h2 : 2 ^ 52 ≤ q
    · exact ⟨_, V_at (k := k + 1) h (.inl h2)⟩
    · obtain ⟨t, e⟩ := ih (2 * q) (by grind)
      exact ⟨t, by rw [e, Nat.pow_succ, Nat.mul_comm 2 q, Nat.mul_assoc, Nat.mul_comm 2]⟩
theorem nearN' {W D t : Nat} (hD : 0 < D) (hb : W ≤ D * 2 ^ 1080) (hov : t = infMag ↔ D * ((2 ^ 54 - 1) * 2 ^ 2045) ≤ 2 * W) (ht : t ≤ infMag)
    (hn : t < infMag → ∀ t', dist W (D * V t) ≤ dist W (D * V t') ∧ (V t' ≠ V t → dist W (D * V t) = dist W (D * V t') → t % 2 = 0)) : t < infMag ∧ dist W (D * V t) ≤ D * 2 ^ 1027 := by
  have h1 : t < infMag := by
    rcases Nat.lt_or_eq_of_le ht with h | h
    · exact h
    · have h2 := hov.mp h
      have h3 : D * ((2 ^ 54 - 1) * 2 ^ 2045) ≤ D * (2 * 2 ^ 1080) := by
        refine Nat.le_trans h2 ?_
        rw [Nat.mul_left_comm]
        exact Nat.mul_le_mul_left 2 hb
      exact absurd (Nat.le_of_mul_le_mul_left h3 hD) (by decide +kernel)
  refine ⟨h1, ?_⟩
  have hp : 0 < D * 2 ^ 1027 := Nat.mul_pos hD (Nat.two_pow_pos _)
  have hq : W / (D * 2 ^ 1027) ≤ 2 ^ 53 := by
    refine Nat.div_le_of_le_mul ?_
    rw [Nat.mul_assoc, ← Nat.pow_add]
    exact hb
  obtain ⟨t', e⟩ := repV 1027 _ hq
  refine Nat.le_trans (hn h1 t').1 ?_
  rw [e]
  have h4 : D * (W / (D * 2 ^ 1027) * 2 ^ 1027) = D * 2 ^ 1027 * (W / (D * 2 ^ 1027)) := by
    generalize W / (D * 2 ^ 1027) = q
    generalize 2 ^ 1027 = K
    rw [Nat.mul_comm q K, Nat.mul_assoc]
  rw [h4]
  have h5 := Nat.div_add_mod W (D * 2 ^ 1027)
  have h6 := Nat.mod_lt W hp
  unfold dist
  generalize D * 2 ^ 1027 * (W / (D * 2 ^ 1027)) = A at *
  generalize D * 2 ^ 1027 = B at *
  grind
theorem sgn_dist {a : Bool} {W V : Nat} {B : Nat} (h : dist W V ≤ B) : -(B : Int) ≤ sgn a W - sgn a V ∧ sgn a W - sgn a V ≤ B := by
  unfold dist at h
  unfold sgn
  cases a
  · simp only [Bool.false_eq_true, if_false]; grind
  · simp only [if_true]; grind
theorem near {r : UInt64} {neg : Bool} {W D : Nat} (hD : 0 < D) (h : Right r neg W D) (hb : W ≤ D * 2 ^ 1080) :
    Fi r ∧ -((D : Int) * uE) ≤ sgn neg W - D * val r ∧ sgn neg W - D * val r ≤ D * uE := by
  obtain ⟨t, rfl, ht, hov, hn⟩ := h
  obtain ⟨h1, h2⟩ := nearN' hD hb hov ht hn
  obtain ⟨m, e, hd, _⟩ := decode_pack neg h1
  refine ⟨⟨_, _, _, hd⟩, ?_⟩
  rw [val_pack neg h1]
  have := sgn_dist (a := neg) h2
  rw [Nat.mul_comm D (V t), sgn_mul, Int.mul_comm _ (D : Int)] at this
  have e1 : ((D * 2 ^ 1027 : Nat) : Int) = (D : Int) * uE := by rw [Int.natCast_mul]; congr 1
  rw [e1] at this
  exact this
theorem natAbs_le_64 {z : Int} (h1 : -(64 * uU) ≤ z) (h2 : z ≤ 64 * uU) : z.natAbs ≤ 2 ^ 1080 := by
  have e : (64 * uU) = ((2 ^ 1080 : Nat) : Int) := by decide +kernel
  rw [e] at h1 h2
  generalize (2 ^ 1080 : Nat) = K at *
  grind
theorem sgn_abs (z : Int) : sgn (decide (z < 0)) z.natAbs = z := by
  unfold sgn
  split
  · rename_i h; have := of_decide_eq_true h; grind
  · rename_i h; have : ¬ z < 0 := fun q => h (decide_eq_true q); grind
theorem fi_zero (a : Bool) : Fi (zero a) ∧ val (zero a) = 0 := by
  obtain ⟨m, e, hd, hv⟩ := decode_pack a (t := 0) (by decide)
  exact ⟨⟨_, _, _, hd⟩, by unfold zero; rw [val_pack a (by decide)]; cases a <;> rfl⟩
theorem add_near {x y : UInt64} (hx : Fi x) (hy : Fi y) (h1 : -(64 * uU) ≤ val x + val y) (h2 : val x + val y ≤ 64 * uU) :
    Fi (add x y) ∧ val x + val y - uE ≤ val (add x y) ∧ val (add x y) ≤ val x + val y + uE := by
  obtain ⟨a, m, e, hx⟩ := hx
  obtain ⟨b, k, f, hy⟩ := hy
  obtain ⟨z1, z2⟩ := add_right hx hy
  have hE := uE_pos
  by_cases h0 : val x + val y = 0
  · rw [z1 h0]
    obtain ⟨q1, q2⟩ := fi_zero (a && b)
    refine ⟨q1, ?_⟩
    rw [q2]
    grind
  · have := near (by decide) (z2 h0) (by rw [Nat.one_mul]; exact natAbs_le_64 h1 h2)
    rw [sgn_abs] at this
    refine ⟨this.1, ?_⟩
    have h3 := this.2
    simp only [Int.natCast_one, Int.one_mul] at h3
    grind
theorem fi_neg {y : UInt64} (hy : Fi y) : Fi (neg y) ∧ val (neg y) = - val y := by
  obtain ⟨b, k, f, hy⟩ := hy
  exact ⟨⟨_, _, _, neg_decode hy⟩, neg_val hy⟩
theorem sub_near {x y : UInt64} (hx : Fi x) (hy : Fi y) (h1 : -(64 * uU) ≤ val x - val y) (h2 : val x - val y ≤ 64 * uU) :
    Fi (Float64.sub x y) ∧ val x - val y - uE ≤ val (Float64.sub x y) ∧ val (Float64.sub x y) ≤ val x - val y + uE := by
  obtain ⟨q1, q2⟩ := fi_neg hy
  have := add_near hx q1 (by grind) (by grind)
  unfold Float64.sub
  refine ⟨this.1, ?_⟩
  have := this.2
  grind
theorem sgn_xor (a b : Bool) (m k : Nat) : sgn (a != b) (m * k) = sgn a m * sgn b k := by
  unfold sgn
  cases a <;> cases b <;> simp [Int.mul_neg, Int.neg_mul]
theorem sgn_val {x : UInt64} {a : Bool} {m : Nat} {e : Int} (h : decode x = .fin a m e) : sgn a (val x).natAbs = val x := by rw [val_natAbs h, val_eq h]
theorem natAbs_mul_le {y z B C : Int} (h1 : y.natAbs ≤ B.natAbs) (h2 : z.natAbs ≤ C.natAbs) : y.natAbs * z.natAbs ≤ B.natAbs * C.natAbs := Nat.mul_le_mul h1 h2
theorem mul_near {x y : UInt64} (hx : Fi x) (hy : Fi y) (h : (val x).natAbs * (val y).natAbs ≤ 2 ^ 1074 * 2 ^ 1080) :
    Fi (mul x y) ∧ -(uU * uE) ≤ val x * val y - uU * val (mul x y) ∧ val x * val y - uU * val (mul x y) ≤ uU * uE := by
  obtain ⟨a, m, e, hx⟩ := hx
  obtain ⟨b, k, f, hy⟩ := hy
  have := near (Nat.two_pow_pos _) (mul_right hx hy) h
  rw [sgn_xor, sgn_val hx, sgn_val hy] at this
  exact this
theorem div_near {x y : UInt64} (hx : Fi x) (hy : Fi y) (hp : 0 < val y) (h : (val x).natAbs * 2 ^ 1074 ≤ (val y).natAbs * 2 ^ 1080) :
    Fi (div x y) ∧ -(val y * uE) ≤ val x * uU - val y * val (div x y) ∧ val x * uU - val y * val (div x y) ≤ val y * uE := by
  obtain ⟨a, m, e, hx⟩ := hx
  obtain ⟨b, k, f, hy⟩ := hy
  have hk : k ≠ 0 := by
    rintro rfl
    rw [val_eq hy] at hp
    unfold sgn at hp
    simp at hp
  have hb : b = false := by
    cases b
    · rfl
    · rw [val_eq hy] at hp
      unfold sgn at hp
      simp only [if_true] at hp
      grind
  subst hb
  have := near (by grind) (div_right hx hy hk) h
  have e1 : (((val y).natAbs : Nat) : Int) = val y := by grind
  have e2 : sgn (a != false) ((val x).natAbs * 2 ^ 1074) = val x * uU := by
    rw [show (a != false) = a by cases a <;> rfl, sgn_mul, sgn_val hx]; congr 1
  rw [e1, e2] at this
  exact this
theorem frac_near {a w : Nat} (hw : 0 < w) (h : a * 2 ^ 1074 ≤ w * 2 ^ 1080) (ng : Bool) (hn : ng = false) :
    Fi (ofFrac ng a w) ∧ -((w : Int) * uE) ≤ a * uU - w * val (ofFrac ng a w) ∧ a * uU - w * val (ofFrac ng a w) ≤ w * uE := by
  subst hn
  have := near hw (ofFrac_right (neg := false) (n := a) (d := w) (W := a * 2 ^ 1074) (D := w) hw rfl hw) h
  have e2 : sgn false (a * 2 ^ 1074) = a * uU := by rw [sgn_mul]; rfl
  rw [e2] at this
  exact this
theorem fmod_right {x y : UInt64} {a b : Bool} {m k : Nat} {e f : Int} (hx : decode x = .fin a m e) (hy : decode y = .fin b k f) (hk : k ≠ 0) :
    Right (fmod x y) a ((val x).natAbs % (val y).natAbs) 1 := by
  have he := decode_ge hx
  have hf := decode_ge hy
  have hm : fmod x y = ofBin a ((m * 2 ^ (e - min e f).toNat) % (k * 2 ^ (f - min e f).toNat)) (min e f) := by
    unfold fmod
    rw [hx, hy]
    simp only
    rw [if_neg (by simpa using hk)]
    unfold align sgn
    simp only [Bool.false_eq_true, if_false, Int.toNat_natCast]
  rw [hm, val_natAbs hx, val_natAbs hy]
  unfold ofBin
  refine ofFrac_right (shift_pos _ _ _ (by decide)) ?_ (by decide)
  have h1 := shift_one ((m * 2 ^ (e - min e f).toNat) % (k * 2 ^ (f - min e f).toNat)) (min e f) 1074 (by grind)
  have e1 : (e + 1074).toNat = (e - min e f).toNat + (min e f + 1074).toNat := by grind
  have e2 : (f + 1074).toNat = (f - min e f).toNat + (min e f + 1074).toNat := by grind
  have h2 : (m * 2 ^ (e - min e f).toNat % (k * 2 ^ (f - min e f).toNat)) * 2 ^ (min e f + 1074).toNat = m * 2 ^ (e + 1074).toNat % (k * 2 ^ (f + 1074).toNat) := by
    rw [e1, e2, Nat.pow_add, Nat.pow_add, ← Nat.mul_assoc, ← Nat.mul_assoc, Nat.mul_mod_mul_right]
  rw [← h2]
  refine Eq.trans (Nat.mul_one _) h1
theorem fmod_near {x y : UInt64} {a b : Bool} {m k : Nat} {e f : Int} (hx : decode x = .fin a m e) (hy : decode y = .fin b k f) (hk : k ≠ 0) (hU : val y = uU) :
    Fi (fmod x y) ∧ ∃ j : Int, val x + j * uU - uE ≤ val (fmod x y) ∧ val (fmod x y) ≤ val x + j * uU + uE ∧ -uU - uE ≤ val (fmod x y) ∧ val (fmod x y) ≤ uU + uE := by
  have hy0 : (val y).natAbs = 2 ^ 1074 := by rw [hU]; decide +kernel
  have hr := fmod_right hx hy hk
  have hlt : (val x).natAbs % (val y).natAbs < 2 ^ 1074 := by rw [hy0]; exact Nat.mod_lt _ (Nat.two_pow_pos _)
  have := near (by decide) hr (by rw [Nat.one_mul]; exact Nat.le_trans (Nat.le_of_lt hlt) (by decide +kernel))
  refine ⟨this.1, ?_⟩
  have h3 := this.2
  simp only [Int.natCast_one, Int.one_mul] at h3
  have hU2 : uU = ((2 ^ 1074 : Nat) : Int) := by decide +kernel
  rw [hy0] at hlt h3
  have hd := Nat.div_add_mod (val x).natAbs (2 ^ 1074)
  have hs := sgn_val hx
  rw [hU2]
  generalize (val x).natAbs = n at *
  generalize hK : (2 ^ 1074 : Nat) = K at *
  generalize hq : n / K = q at *
  generalize n % K = r at *
  have hc : ((n : Nat) : Int) = (q : Int) * K + r := by rw [← hd, Int.natCast_add, Int.natCast_mul, Int.mul_comm]
  unfold sgn at hs h3
  cases a
  · simp only [Bool.false_eq_true, if_false] at hs h3
    refine ⟨-(q : Int), ?_⟩
    rw [← hs, hc, Int.neg_mul]
    grind
  · simp only [if_true] at hs h3
    refine ⟨(q : Int), ?_⟩
    rw [← hs, hc]
    grind
def one64 : UInt64 := 4607182418800017408
theorem one_dec : decode one64 = .fin false (2 ^ 52) (-52) := by kernel_rfl
theorem one_val : val one64 = uU := by decide +kernel
theorem lt_iff {x y : UInt64} (hx : Fi x) (hy : Fi y) : (cmp x y == some .lt) = decide (val x < val y) := by
  obtain ⟨a, m, e, hx⟩ := hx
  obtain ⟨b, k, f, hy⟩ := hy
  rw [cmp_right hx hy]
  by_cases h : val x < val y
  · rw [Int.compare_eq_lt.mpr h, decide_eq_true h]; rfl
  · rw [decide_eq_false h]
    rcases Int.lt_trichotomy (val x) (val y) with h2 | h2 | h2
    · exact absurd h2 h
    · rw [Int.compare_eq_eq.mpr h2]; rfl
    · rw [Int.compare_eq_gt.mpr h2]; rfl
theorem eq_iff {x y : UInt64} (hx : Fi x) (hy : Fi y) : (cmp x y == some .eq) = decide (val x = val y) := by
  obtain ⟨a, m, e, hx⟩ := hx
  obtain ⟨b, k, f, hy⟩ := hy
  rw [cmp_right hx hy]
  rcases Int.lt_trichotomy (val x) (val y) with h2 | h2 | h2
  · rw [Int.compare_eq_lt.mpr h2, decide_eq_false (by grind)]; rfl
  · rw [Int.compare_eq_eq.mpr h2, decide_eq_true h2]; rfl
  · rw [Int.compare_eq_gt.mpr h2, decide_eq_false (by grind)]; rfl
theorem isZero_val {x : UInt64} (h : isZero x = true) : Fi x ∧ val x = 0 := by
  unfold isZero at h
  split at h
  · rename_i a e hd
    refine ⟨⟨_, _, _, hd⟩, ?_⟩
    rw [val_eq hd]; unfold sgn; simp
  · cases h
theorem mod_near {x : UInt64} (hx : Fi x) : Fi (divmod x one64).2 ∧ -(2 * uE) ≤ val (divmod x one64).2 ∧ val (divmod x one64).2 ≤ uU + 2 * uE ∧
    ∃ j : Int, val x + j * uU - 2 * uE ≤ val (divmod x one64).2 ∧ val (divmod x one64).2 ≤ val x + j * uU + 2 * uE := by
  obtain ⟨a, m, e, hd⟩ := hx
  obtain ⟨f1, j, f2, f3, f4, f5⟩ := fmod_near hd one_dec (by decide) one_val
  have hE := uE_pos
  have hUE := uU_eq
  by_cases hz : isZero (fmod x one64) = true
  · have e1 : (divmod x one64).2 = copysign (zero false) one64 := by
      unfold divmod
      simp only [hz, if_true]
    have hz2 := (isZero_val hz).2
    have e2 : Fi (copysign (zero false) one64) ∧ val (copysign (zero false) one64) = 0 := by
      have : copysign (zero false) one64 = zero false := by decide +kernel
      rw [this]; exact fi_zero false
    rw [e1, e2.2]
    refine ⟨e2.1, by grind, by grind, j, by grind, by grind⟩
  · have hlt : lt one64 (zero false) = false := by decide +kernel
    have hl2 : lt (fmod x one64) (zero false) = decide (val (fmod x one64) < 0) := by
      unfold lt
      rw [lt_iff f1 (fi_zero false).1, (fi_zero false).2]
    by_cases hn : val (fmod x one64) < 0
    · have e1 : (divmod x one64).2 = add (fmod x one64) one64 := by
        unfold divmod
        simp only [hz, hlt, hl2, decide_eq_true hn, Bool.false_eq_true, if_false, bne_iff_ne, ne_eq, not_false_eq_true, if_true]
      have := add_near f1 ⟨_, _, _, one_dec⟩ (by rw [one_val]; grind) (by rw [one_val]; grind)
      rw [e1]
      rw [one_val] at this
      refine ⟨this.1, by grind, by grind, j + 1, ?_, ?_⟩
      · rw [Int.add_mul]; grind
      · rw [Int.add_mul]; grind
    · have e1 : (divmod x one64).2 = fmod x one64 := by
        unfold divmod
        simp only [hz, hlt, hl2, decide_eq_false hn, Bool.false_eq_true, if_false, bne_self_eq_false]
      rw [e1]
      refine ⟨f1, by grind, by grind, j, by grind, by grind⟩
end Mine

namespace Mine
open PySem.Float64
def vF (m1 m2 hue : UInt64) : UInt64 :=
  if (cmp (divmod hue 4607182418800017408).snd 4595172819793696085 == some Ordering.lt) = true then add m1 (mul (mul (Float64.sub m2 m1) (divmod hue 4607182418800017408).snd) 4618441417868443648)
  else if (cmp (divmod hue 4607182418800017408).snd 4602678819172646912 == some Ordering.lt) = true then m2
  else if (cmp (divmod hue 4607182418800017408).snd 4604180019048437077 == some Ordering.lt) = true then add m1 (mul (mul (Float64.sub m2 m1) (Float64.sub 4604180019048437077 (divmod hue 4607182418800017408).snd)) 4618441417868443648)
  else m1
def m2F (l q : UInt64) : UInt64 := if (cmp l 4602678819172646912 == some Ordering.lt || cmp l 4602678819172646912 == some Ordering.eq) = true then mul l (add 4607182418800017408 q) else Float64.sub (add l q) (mul l q)
def m1F (l q : UInt64) : UInt64 := Float64.sub (mul 4611686018427387904 l) (m2F l q)
end Mine

namespace Mine
open PySem.Float64
theorem le_of_U {z k : Int} (h : uU * z ≤ uU * k) : z ≤ k := Int.le_of_mul_le_mul_left h uU_pos
theorem mul_bnd {a b A B : Int} (ha : -A ≤ a) (ha' : a ≤ A) (hb : -B ≤ b) (hb' : b ≤ B) : -(A * B) ≤ a * b ∧ a * b ≤ A * B := by
  have hA : 0 ≤ A := by grind
  have hB : 0 ≤ B := by grind
  have h := Nat.mul_le_mul (show a.natAbs ≤ A.natAbs by grind) (show b.natAbs ≤ B.natAbs by grind)
  rw [← Int.natAbs_mul, ← Int.natAbs_mul] at h
  have h0 := Int.mul_nonneg hA hB
  generalize a * b = p at *
  generalize A * B = q at *
  grind
theorem mul_near8 {x y : UInt64} (hx : Fi x) (hy : Fi y) (x1 : -(8 * uU) ≤ val x) (x2 : val x ≤ 8 * uU) (y1 : -(8 * uU) ≤ val y) (y2 : val y ≤ 8 * uU) :
    Fi (mul x y) ∧ uU * (-uE) ≤ val x * val y - uU * val (mul x y) ∧ val x * val y - uU * val (mul x y) ≤ uU * uE := by
  have h := mul_near hx hy (by
    have e : (8 * uU).natAbs * (8 * uU).natAbs = 2 ^ 1074 * 2 ^ 1080 := by decide +kernel
    rw [← e]
    exact Nat.mul_le_mul (by grind) (by grind))
  rw [Int.mul_neg]
  exact h
/-- A product with a six. -/
theorem six_near {x y : UInt64} (hx : Fi x) (hy : Fi y) (hv : val y = 6 * uU) (x1 : -(8 * uU) ≤ val x) (x2 : val x ≤ 8 * uU) :
    Fi (mul x y) ∧ 6 * val x - uE ≤ val (mul x y) ∧ val (mul x y) ≤ 6 * val x + uE := by
  have hU := uU_pos
  obtain ⟨q1, q2, q3⟩ := mul_near8 hx hy x1 x2 (by rw [hv]; grind) (by rw [hv]; grind)
  have e : val x * val y - uU * val (mul x y) = uU * (6 * val x - val (mul x y)) := by
    rw [hv, Int.mul_sub, ← Int.mul_assoc, Int.mul_comm (val x * 6), Int.mul_comm (val x) 6]
  rw [e] at q2 q3
  have z1 := le_of_U q2
  have z2 := le_of_U q3
  exact ⟨q1, by grind, by grind⟩
/-- A product with a difference that is D sixty-fourths. -/
theorem part_near {d y : UInt64} {D : Int} (hx : Fi d) (hy : Fi y) (hv : 64 * val d = D * uU) (hD : 0 ≤ D) (hD' : D ≤ 64) (y1 : -(8 * uU) ≤ val y) (y2 : val y ≤ 8 * uU) :
    Fi (mul d y) ∧ D * val y - 64 * uE ≤ 64 * val (mul d y) ∧ 64 * val (mul d y) ≤ D * val y + 64 * uE := by
  have hU := uU_pos
  have hb := mul_bnd (a := D) (b := uU) (A := 64) (B := uU) (by grind) (by grind) (by grind) (by grind)
  obtain ⟨q1, q2, q3⟩ := mul_near8 hx hy (by grind) (by grind) y1 y2
  have e : 64 * (val d * val y - uU * val (mul d y)) = uU * (D * val y - 64 * val (mul d y)) := by
    rw [Int.mul_sub, ← Int.mul_assoc, hv, Int.mul_sub]
    congr 1
    · rw [Int.mul_comm D uU, Int.mul_assoc]
    · rw [Int.mul_left_comm]
  have z1 : uU * (-(64 * uE)) ≤ uU * (D * val y - 64 * val (mul d y)) := by
    rw [← e]
    have : uU * (-(64 * uE)) = 64 * (uU * (-uE)) := by rw [← Int.mul_neg, Int.mul_left_comm]
    rw [this]
    exact Int.mul_le_mul_of_nonneg_left q2 (by decide)
  have z2 : uU * (D * val y - 64 * val (mul d y)) ≤ uU * (64 * uE) := by
    rw [← e, Int.mul_left_comm]
    exact Int.mul_le_mul_of_nonneg_left q3 (by decide)
  have z1 := le_of_U z1
  have z2 := le_of_U z2
  exact ⟨q1, by grind, by grind⟩
theorem fi_of {x : UInt64} (h : isFinite x = true) : Fi x := by
  unfold isFinite at h
  split at h
  · rename_i a m e hd; exact ⟨_, _, _, hd⟩
  · cases h
def sixF : UInt64 := 4618441417868443648
def halfF : UInt64 := 4602678819172646912
def S6 : UInt64 := 4595172819793696085
def T3 : UInt64 := 4604180019048437077
theorem six_val : Fi sixF ∧ val sixF = 6 * uU := ⟨fi_of (by decide +kernel), by decide +kernel⟩
theorem half_val : Fi halfF ∧ 2 * val halfF = uU := ⟨fi_of (by decide +kernel), by decide +kernel⟩
theorem S_val : Fi S6 ∧ uU - 6 * uE ≤ 6 * val S6 ∧ 6 * val S6 ≤ uU + 6 * uE := ⟨fi_of (by decide +kernel), by decide +kernel, by decide +kernel⟩
theorem T_val : Fi T3 ∧ 2 * uU - 3 * uE ≤ 3 * val T3 ∧ 3 * val T3 ≤ 2 * uU + 3 * uE := ⟨fi_of (by decide +kernel), by decide +kernel, by decide +kernel⟩
/-- What a hue h of a full turn gives, as a share of the range. -/
def Share (h C : Int) : Prop := (h < val S6 ∧ C = 6 * h) ∨ (val S6 ≤ h ∧ h < val halfF ∧ C = uU) ∨ (val halfF ≤ h ∧ h < val T3 ∧ C = 6 * (val T3 - h)) ∨ (val T3 ≤ h ∧ C = 0)
structure Shade (m1 m2 : UInt64) (M D : Int) : Prop where
  f1 : Fi m1
  f2 : Fi m2
  fd : Fi (Float64.sub m2 m1)
  e1 : 64 * val m1 = M * uU
  e2 : 64 * val m2 = (M + D) * uU
  ed : 64 * val (Float64.sub m2 m1) = D * uU
  M0 : 0 ≤ M
  D1 : 1 ≤ D
  MD : M + D ≤ 64
theorem v_spec {m1 m2 hue : UInt64} {M D : Int} (sh : Shade m1 m2 M D) (fh : Fi hue) :
    ∃ h C : Int, Fi (vF m1 m2 hue) ∧ -(2 * uE) ≤ h ∧ h ≤ uU + 2 * uE ∧ (∃ j : Int, val hue + j * uU - 2 * uE ≤ h ∧ h ≤ val hue + j * uU + 2 * uE) ∧ Share h C ∧
      M * uU + D * C - 1000 * uE ≤ 64 * val (vF m1 m2 hue) ∧ 64 * val (vF m1 m2 hue) ≤ M * uU + D * C + 1000 * uE := by
  have hE := uE_pos
  have hUE := uU_eq
  have hU := uU_pos
  obtain ⟨g1, g2, g3, j, g4, g5⟩ := mod_near fh
  obtain ⟨s1, s2, s3⟩ := S_val
  obtain ⟨t1, t2, t3⟩ := T_val
  obtain ⟨a1, a2⟩ := half_val
  obtain ⟨x1, x2⟩ := six_val
  obtain ⟨f1, f2, fd, e1, e2, ed, M0, D1, MD⟩ := sh
  have hM := mul_bnd (a := M) (b := uU) (A := 64) (B := uU) (by grind) (by grind) (by grind) (by grind)
  have l1 := lt_iff g1 s1
  have l2 := lt_iff g1 a1
  have l3 := lt_iff g1 t1
  have hv : vF m1 m2 hue = if (cmp (divmod hue one64).snd S6 == some Ordering.lt) = true then add m1 (mul (mul (Float64.sub m2 m1) (divmod hue one64).snd) sixF)
    else if (cmp (divmod hue one64).snd halfF == some Ordering.lt) = true then m2
    else if (cmp (divmod hue one64).snd T3 == some Ordering.lt) = true then add m1 (mul (mul (Float64.sub m2 m1) (Float64.sub T3 (divmod hue one64).snd)) sixF)
    else m1 := rfl
  rw [hv, l1, l2, l3]
  generalize hz : (divmod hue one64).snd = z at *
  refine ⟨val z, ?_⟩
  by_cases c1 : val z < val S6
  · simp only [decide_eq_true c1, if_true]
    refine ⟨6 * val z, ?_⟩
    obtain ⟨p1, p2, p3⟩ := part_near (y := z) fd g1 ed (by grind) (by grind) (by grind) (by grind)
    have hD := mul_bnd (a := D) (b := val z) (A := 64) (B := uU + 2 * uE) (by grind) (by grind) (by grind) (by grind)
    obtain ⟨r1, r2, r3⟩ := six_near p1 x1 x2 (by grind) (by grind)
    obtain ⟨u1, u2, u3⟩ := add_near f1 r1 (by grind) (by grind)
    have e6 : D * (6 * val z) = 6 * (D * val z) := by rw [Int.mul_left_comm]
    rw [e6]
    refine ⟨u1, by grind, by grind, ⟨j, by grind, by grind⟩, .inl ⟨c1, rfl⟩, by grind, by grind⟩
  · simp only [decide_eq_false c1, Bool.false_eq_true, if_false]
    by_cases c2 : val z < val halfF
    · simp only [decide_eq_true c2, if_true]
      refine ⟨uU, f2, by grind, by grind, ⟨j, by grind, by grind⟩, .inr (.inl ⟨by grind, c2, rfl⟩), ?_, ?_⟩
      · rw [e2, Int.add_mul]; grind
      · rw [e2, Int.add_mul]; grind
    · simp only [decide_eq_false c2, Bool.false_eq_true, if_false]
      by_cases c3 : val z < val T3
      · simp only [decide_eq_true c3, if_true]
        refine ⟨6 * (val T3 - val z), ?_⟩
        obtain ⟨w1, w2, w3⟩ := sub_near t1 g1 (by grind) (by grind)
        obtain ⟨p1, p2, p3⟩ := part_near (y := Float64.sub T3 z) fd w1 ed (by grind) (by grind) (by grind) (by grind)
        have hD := mul_bnd (a := D) (b := val (Float64.sub T3 z)) (A := 64) (B := uU + 2 * uE) (by grind) (by grind) (by grind) (by grind)
        have hD2 := mul_bnd (a := D) (b := val (Float64.sub T3 z) - (val T3 - val z)) (A := 64) (B := uE) (by grind) (by grind) (by grind) (by grind)
        rw [Int.mul_sub D] at hD2
        obtain ⟨r1, r2, r3⟩ := six_near p1 x1 x2 (by grind) (by grind)
        obtain ⟨u1, u2, u3⟩ := add_near f1 r1 (by grind) (by grind)
        have e6 : D * (6 * (val T3 - val z)) = 6 * (D * (val T3 - val z)) := by rw [Int.mul_left_comm]
        rw [e6]
        refine ⟨u1, by grind, by grind, ⟨j, by grind, by grind⟩, .inr (.inr (.inl ⟨by grind, c3, rfl⟩)), by grind, by grind⟩
      · simp only [decide_eq_false c3, Bool.false_eq_true, if_false]
        refine ⟨0, f1, by grind, by grind, ⟨j, by grind, by grind⟩, .inr (.inr (.inr ⟨by grind, rfl⟩)), ?_, ?_⟩
        · rw [e1, Int.mul_zero]; grind
        · rw [e1, Int.mul_zero]; grind
end Mine

namespace Mine
open PySem.Float64
def Nr (x y t : Int) : Prop := y - t * uE ≤ x ∧ x ≤ y + t * uE
theorem share_A {h C : Int} (q : Share h C) (h1 : 6 * h ≤ uU + 60 * uE) : 6 * h - 400 * uE ≤ C ∧ C ≤ 6 * h + 400 * uE := by
  have hE := uE_pos
  have hUE := uU_eq
  obtain ⟨s1, s2, s3⟩ := S_val
  obtain ⟨a1, a2⟩ := half_val
  rcases q with ⟨_, rfl⟩ | ⟨_, _, rfl⟩ | ⟨_, _, rfl⟩ | ⟨_, rfl⟩ <;> have := T_val <;> grind
theorem share_B {h C : Int} (q : Share h C) (h1 : uU - 60 * uE ≤ 6 * h) (h2 : 2 * h ≤ uU + 60 * uE) : uU - 400 * uE ≤ C ∧ C ≤ uU + 400 * uE := by
  have hE := uE_pos
  have hUE := uU_eq
  obtain ⟨s1, s2, s3⟩ := S_val
  obtain ⟨a1, a2⟩ := half_val
  rcases q with ⟨_, rfl⟩ | ⟨_, _, rfl⟩ | ⟨_, _, rfl⟩ | ⟨_, rfl⟩ <;> have := T_val <;> grind
theorem share_C {h C : Int} (q : Share h C) (h1 : uU - 60 * uE ≤ 2 * h) (h2 : 3 * h ≤ 2 * uU + 60 * uE) : 4 * uU - 6 * h - 400 * uE ≤ C ∧ C ≤ 4 * uU - 6 * h + 400 * uE := by
  have hE := uE_pos
  have hUE := uU_eq
  obtain ⟨s1, s2, s3⟩ := S_val
  obtain ⟨a1, a2⟩ := half_val
  rcases q with ⟨_, rfl⟩ | ⟨_, _, rfl⟩ | ⟨_, _, rfl⟩ | ⟨_, rfl⟩ <;> have := T_val <;> grind
theorem share_D {h C : Int} (q : Share h C) (h1 : 2 * uU - 60 * uE ≤ 3 * h) : - 400 * uE ≤ C ∧ C ≤ 400 * uE := by
  have hE := uE_pos
  have hUE := uU_eq
  obtain ⟨s1, s2, s3⟩ := S_val
  obtain ⟨a1, a2⟩ := half_val
  rcases q with ⟨_, rfl⟩ | ⟨_, _, rfl⟩ | ⟨_, _, rfl⟩ | ⟨_, rfl⟩ <;> have := T_val <;> grind
theorem turns {k : Int} {lo hi : Int} (h1 : lo * uU - uU < k * uU) (h2 : k * uU < hi * uU + uU) : lo ≤ k ∧ k ≤ hi := by
  have hU := uU_pos
  constructor
  · rcases (show k < lo ∨ lo ≤ k by grind) with h | h
    · have := Int.mul_le_mul_of_nonneg_right (show k ≤ lo - 1 by grind) (Int.le_of_lt hU)
      rw [Int.sub_mul] at this
      grind
    · exact h
  · rcases (show hi < k ∨ k ≤ hi by grind) with h | h
    · have := Int.mul_le_mul_of_nonneg_right (show hi + 1 ≤ k by grind) (Int.le_of_lt hU)
      rw [Int.add_mul] at this
      grind
    · exact h
/-- The three shares by the sixth of the wheel. -/
def Six (g CR CG CB : Int) : Prop :=
  (Nr CR uU 9000 ∧ Nr CG (6 * g) 9000 ∧ Nr CB 0 9000 ∧ 0 ≤ 6 * g + 100 * uE ∧ 6 * g ≤ uU + 100 * uE) ∨ (Nr CR (2 * uU - 6 * g) 9000 ∧ Nr CG uU 9000 ∧ Nr CB 0 9000 ∧ uU ≤ 6 * g + 100 * uE ∧ 6 * g ≤ 2 * uU + 100 * uE) ∨
  (Nr CR 0 9000 ∧ Nr CG uU 9000 ∧ Nr CB (6 * g - 2 * uU) 9000 ∧ 2 * uU ≤ 6 * g + 100 * uE ∧ 6 * g ≤ 3 * uU + 100 * uE) ∨ (Nr CR 0 9000 ∧ Nr CG (4 * uU - 6 * g) 9000 ∧ Nr CB uU 9000 ∧ 3 * uU ≤ 6 * g + 100 * uE ∧ 6 * g ≤ 4 * uU + 100 * uE) ∨
  (Nr CR (6 * g - 4 * uU) 9000 ∧ Nr CG 0 9000 ∧ Nr CB uU 9000 ∧ 4 * uU ≤ 6 * g + 100 * uE ∧ 6 * g ≤ 5 * uU + 100 * uE) ∨ (Nr CR uU 9000 ∧ Nr CG 0 9000 ∧ Nr CB (6 * uU - 6 * g) 9000 ∧ 5 * uU ≤ 6 * g + 100 * uE ∧ 6 * g ≤ 6 * uU + 100 * uE)
theorem sextant {X O r g b CR CG CB jr jg jb : Int} (hO : uU - 3 * uE ≤ 3 * O) (hO' : 3 * O ≤ uU + 3 * uE)
    (r1 : -(2 * uE) ≤ r) (r2 : r ≤ uU + 2 * uE) (r3 : X + O + jr * uU - 3 * uE ≤ r) (r4 : r ≤ X + O + jr * uU + 3 * uE)
    (g1 : -(2 * uE) ≤ g) (g2 : g ≤ uU + 2 * uE) (g3 : X + jg * uU - 3 * uE ≤ g) (g4 : g ≤ X + jg * uU + 3 * uE)
    (b1 : -(2 * uE) ≤ b) (b2 : b ≤ uU + 2 * uE) (b3 : X - O + jb * uU - 3 * uE ≤ b) (b4 : b ≤ X - O + jb * uU + 3 * uE)
    (sr : Share r CR) (sg : Share g CG) (sb : Share b CB) : Six g CR CG CB := by
  have hE := uE_pos
  have hUE := uU_eq
  have kr : (jr - jg) * uU = jr * uU - jg * uU := Int.sub_mul _ _ _
  have kb : (jb - jg) * uU = jb * uU - jg * uU := Int.sub_mul _ _ _
  obtain ⟨k1, k2⟩ := turns (k := jr - jg) (lo := -1) (hi := 0) (by grind) (by grind)
  obtain ⟨k3, k4⟩ := turns (k := jb - jg) (lo := 0) (hi := 1) (by grind) (by grind)
  have hr : r ≤ g + O + 6 * uE ∧ g + O - 6 * uE ≤ r ∨ r ≤ g + O - uU + 6 * uE ∧ g + O - uU - 6 * uE ≤ r := by
    have : jr - jg = 0 ∨ jr - jg = -1 := by grind
    rcases this with h | h <;> rw [h] at kr <;> grind
  have hb : b ≤ g - O + 6 * uE ∧ g - O - 6 * uE ≤ b ∨ b ≤ g - O + uU + 6 * uE ∧ g - O + uU - 6 * uE ≤ b := by
    have : jb - jg = 0 ∨ jb - jg = 1 := by grind
    rcases this with h | h <;> rw [h] at kb <;> grind
  clear r3 r4 g3 g4 b3 b4 kr kb k1 k2 k3 k4
  unfold Six Nr
  by_cases c1 : 6 * g < uU
  · left
    obtain ⟨hr', hr'b⟩ : r ≤ g + O + 6 * uE ∧ g + O - 6 * uE ≤ r := by grind
    obtain ⟨hb', hb'b⟩ : b ≤ g - O + uU + 6 * uE ∧ g - O + uU - 6 * uE ≤ b := by grind
    obtain ⟨q1, q1b⟩ := share_A sg (by grind)
    obtain ⟨q2, q2b⟩ := share_B sr (by grind) (by grind)
    obtain ⟨q3, q3b⟩ := share_D sb (by grind)
    grind
  by_cases c2 : 3 * g < uU
  · right; left
    obtain ⟨hr', hr'b⟩ : r ≤ g + O + 6 * uE ∧ g + O - 6 * uE ≤ r := by grind
    obtain ⟨q1, q1b⟩ := share_B sg (by grind) (by grind)
    obtain ⟨q2, q2b⟩ := share_C sr (by grind) (by grind)
    obtain ⟨q3, q3b⟩ : -(9000 * uE) ≤ CB ∧ CB ≤ 9000 * uE := by
      rcases hb with ⟨hb, hbb⟩ | ⟨hb, hbb⟩
      · obtain ⟨_, _⟩ := share_A sb (by grind)
        grind
      · obtain ⟨_, _⟩ := share_D sb (by grind)
        grind
    grind
  by_cases c3 : 2 * g < uU
  · right; right; left
    obtain ⟨hr', hr'b⟩ : r ≤ g + O + 6 * uE ∧ g + O - 6 * uE ≤ r := by grind
    obtain ⟨q1, q1b⟩ := share_B sg (by grind) (by grind)
    obtain ⟨q2, q2b⟩ := share_D sr (by grind)
    obtain ⟨q3, q3b⟩ : 6 * g - 2 * uU - 9000 * uE ≤ CB ∧ CB ≤ 6 * g - 2 * uU + 9000 * uE := by
      rcases hb with ⟨hb, hbb⟩ | ⟨hb, hbb⟩
      · obtain ⟨_, _⟩ := share_A sb (by grind)
        grind
      · obtain ⟨_, _⟩ := share_D sb (by grind)
        grind
    grind
  by_cases c4 : 3 * g < 2 * uU
  · right; right; right; left
    obtain ⟨q1, q1b⟩ := share_C sg (by grind) (by grind)
    obtain ⟨q2, q2b⟩ : -(9000 * uE) ≤ CR ∧ CR ≤ 9000 * uE := by
      rcases hr with ⟨hr, hrb⟩ | ⟨hr, hrb⟩
      · obtain ⟨_, _⟩ := share_D sr (by grind)
        grind
      · obtain ⟨_, _⟩ := share_A sr (by grind)
        grind
    obtain ⟨hb', hb'b⟩ : b ≤ g - O + 6 * uE ∧ g - O - 6 * uE ≤ b := by grind
    obtain ⟨q3, q3b⟩ := share_B sb (by grind) (by grind)
    grind
  by_cases c5 : 6 * g < 5 * uU
  · right; right; right; right; left
    obtain ⟨q1, q1b⟩ := share_D sg (by grind)
    obtain ⟨q2, q2b⟩ : 6 * g - 4 * uU - 9000 * uE ≤ CR ∧ CR ≤ 6 * g - 4 * uU + 9000 * uE := by
      rcases hr with ⟨hr, hrb⟩ | ⟨hr, hrb⟩
      · obtain ⟨_, _⟩ := share_D sr (by grind)
        grind
      · obtain ⟨_, _⟩ := share_A sr (by grind)
        grind
    obtain ⟨hb', hb'b⟩ : b ≤ g - O + 6 * uE ∧ g - O - 6 * uE ≤ b := by grind
    obtain ⟨q3, q3b⟩ := share_B sb (by grind) (by grind)
    grind
  · right; right; right; right; right
    obtain ⟨q1, q1b⟩ := share_D sg (by grind)
    obtain ⟨hr', hr'b⟩ : r ≤ g + O - uU + 6 * uE ∧ g + O - uU - 6 * uE ≤ r := by grind
    obtain ⟨q2, q2b⟩ := share_B sr (by grind) (by grind)
    obtain ⟨hb', hb'b⟩ : b ≤ g - O + 6 * uE ∧ g - O - 6 * uE ≤ b := by grind
    obtain ⟨q3, q3b⟩ := share_C sb (by grind) (by grind)
    grind
end Mine

namespace Mine
noncomputable def viewP : Program := { Challenge.pw_wo0053_01 with main := { Challenge.pw_wo0053_01.main with body := Challenge.pw_wo0053_01.main.body.take 5 ++ ((Challenge.pw_wo0053_01.main.body.drop 6).take 1 ++ Challenge.pw_wo0053_01.main.body.drop 10) } }
noncomputable abbrev looseL : List Str := [Str.ofString "_Accumulator", Str.ofString "ONE_THIRD", Str.ofString "ONE_SIXTH", Str.ofString "TWO_THIRD"]
noncomputable abbrev litL : List (Str × WData) := [(Str.ofString "ONE_THIRD", WData.float 4599676419421066581), (Str.ofString "ONE_SIXTH", WData.float 4595172819793696085), (Str.ofString "TWO_THIRD", WData.float 4604180019048437077)]
noncomputable abbrev hookP (K : Params → Frag) (as : List Addr) (e : ∀ P, as = (K P).map (·.1)) : Hook := kmHook K as e [140, 147]
noncomputable abbrev seesP (s : Shared) : Bool := xlAt viewP litL s && recOk (RowW.records (OpenRow.toRowW (OpenLaw.row Challenge.rw_wo0053_01))) s
theorem law_said : Challenge.rw_wo0053_01.wellSaid = true := by decide +kernel
theorem row_looks : (chainsOk viewP && opensWell (OpenLaw.row Challenge.rw_wo0053_01).prog && (frees (OpenRow.toRowW (OpenLaw.row Challenge.rw_wo0053_01)) && (OpenLaw.row Challenge.rw_wo0053_01).within.isEmpty)) = true := by decide +kernel
end Mine
local macro_rules | `(tactic| o_law) => `(tactic| refine holds_law Mine.law_said fun said => ?_)
local macro_rules | `(tactic| o_head (kHook $k $a $e)) => `(tactic| (
  refine holds_open (q := Mine.viewP) (loose := Mine.looseL) (Xt := Mine.seesP) (XP := XL Mine.viewP Mine.litL) (Yf := Hook.obs (Mine.hookP $k $a $e)) (Ya := Hook.val (Mine.hookP $k $a $e)) (YP := Hook.says (Mine.hookP $k $a $e)) (N := 3162) ?hl (Hook.of _) (Hook.keeps _) (fun s e => xl_of s (Bool.and_eq_true_iff.mp e).1) XL.keeps (by rfl) (by rfl) (by rfl) (fun s e => recFacts_of (Bool.and_eq_true_iff.mp e).2) (by rfl) (row_said Mine.law_said) Mine.row_looks ⟨rfl, rfl, rfl, rfl, rfl, by decide +kernel⟩ ?hw ?hc
  (case hl => intro w; kernel_rfl)))
namespace Mine
open_top hd for PySem.Challenge.rw_wo0053_01
end Mine

namespace Mine
open Builtin Builtin.ObjectAttr Builtin.Getset_descriptor in
section
variable {prog : Program} {w : World} {A : Around} {E : Value → Shared → Prop} {s : Shared} {K : Frag} {x C : Addr} {ox : Obj} {od : Option Obj} {name : Str}

theorem sub_isList {M : Model} {h : Heap} (X : K.In h) (I : InstAt h x ox C od) (hm : mroIn K C (.type "list") = some true) : Looks M h (isInstance (.ref x) (.type "list")) true :=
  I.type.andThen (looks_mroIn X hm)

theorem check_method {M : Model} {i owner n : String} {self : Value} {rest : List Value} {kw : List (Str × Value)} {Q : Unit → Shared → Prop}
    (hk : builtinKind i = some .method) (hs : splitId i = some (owner, n)) (hi : Looks M s.heap (isInstance self (.type owner)) true) (ha : argsOk i ⟨self :: rest, kw⟩) (q : Q () s) :
    wpAny M A (checkBuiltinCall i ⟨self :: rest, kw⟩) Q E s := by
  simp only [checkBuiltinCall, hk, hs]
  refine wpAny_bind (hi.here ?_)
  simp only [Bool.not_true, Bool.false_eq_true, if_false]
  cases hsig : Manifest.signature? i with
  | none => exact wpAny_pure q
  | some sig =>
    simp only [argsOk, hsig] at ha
    have h2 : Bind.checkArgs i sig ⟨self :: rest, kw⟩ = pure () := ha
    show wpAny M A (Bind.checkArgs i sig ⟨self :: rest, kw⟩) Q E s
    rw [h2]; exact wpAny_pure q

/-- a builtin of list called on an instance of a subclass of list -/
theorem sub_call {id n : String} {b : Builtin} {rest : List Value} {Q : Value → Shared → Prop} (X : K.In s.heap) (I : InstAt s.heap x ox C od) (hm : mroIn K C (.type "list") = some true)
    (hk : builtinKind id = some .method ∨ builtinKind id = some .slot) (hs : splitId id = some ("list", n)) (plain : plainId id = true) (entry : entryFor table id = some b) (ha : argsOk id ⟨.ref x :: rest, []⟩)
    (h : wpAny (model prog w) A.in1 (b ⟨.ref x :: rest, []⟩) (fun fin s' => ∃ v, fin = .done (.ret v) ∧ Q v s') E s) :
    wpAny (model prog w) A (call (.builtin id) (.ref x :: rest)) Q E s := by
  refine wpAny_call (codeAny_call_builtin plain entry ?_)
  have L := sub_isList (M := model prog w) X I hm
  have k : wpAny (model prog w) A.in1 (b ⟨.ref x :: rest, []⟩) (fun fin s' => match fin with | .done f => (match (Except.ok f : Result) with | .ok (.ret v) => Q v s' | .ok _ => False | .error e => E e s') | .again c' => c'.quiet = true ∧ codeAny (model prog w) A c' (fun r s' => match r with | .ok (.ret v) => Q v s' | .ok _ => False | .error e => E e s') s') (fun e s' => E e s') s :=
    wpAny_mono h (fun fin s' z => by obtain ⟨v, rfl, q⟩ := z; exact q) fun _ _ z => z
  rcases hk with hk | hk
  · exact check_method hk hs L ha k
  · exact check_slot hk hs L ha k

theorem canon_list_ga : (Manifest.canonical "list.__getattribute__" != "object.__getattribute__") = false := by decide +kernel

theorem sub_method {pl : Sem Bool} {Q : Value × List Value → Shared → Prop} {f t : Value} (X : K.In s.heap) (I : InstAt s.heap x ox C od) (hga : findIn K (.ref C) "__getattribute__" = some (some (.builtin "list.__getattribute__"))) (hk : findIn K (.ref C) "__getattr__" = some none)
    (hf : findIn K (.ref C) name = some (some f)) (ht : typeIn K f = some t) (htt : (t != .type "function" && t != .type "method_descriptor" && t != .type "wrapper_descriptor") = false) (hs : shadowIn od name = some false) (h : Q (f, [.ref x]) s) :
    wpAny (model prog w) A (getMethod (.ref x) name pl) Q E s := by
  unfold getMethod specialOf
  refine wpAny_bind (wpAny_bind (I.type.here ((looks_findIn X hga).here ?_)))
  dsimp only
  rw [canon_list_ga, if_neg (by decide)]
  refine wpAny_bind (wpAny_bind (I.type.here ((looks_findIn X hk).here ?_)))
  refine wpAny_bind (wpAny_bind (I.type.here ((looks_findIn X hf).here (wpAny_bind ((looks_typeIn X ht).here ?_)))))
  rw [htt, if_neg (by decide)]
  refine wpAny_bind (wpAny_loadPart I.at_ ?_)
  have hd := I.dict
  cases e : ox.dict with
  | none => exact wpAny_bind (wpAny_rule (wpAny_pure h))
  | some dx =>
    cases od with
    | none => rw [e] at hd; exact hd.elim
    | some o =>
      rw [e] at hd
      obtain ⟨r, a, b⟩ := Option.map_eq_some_iff.mp hs
      refine wpAny_bind (wpAny_bind (wpAny_loadPart hd ?_))
      rw [nsLook_of a]
      refine wpAny_pure ?_
      rw [b]
      exact wpAny_bind (wpAny_rule (wpAny_pure h))

theorem sub_getOpen {expr : Bool} {r : Found} {Q : Value → Shared → Prop} (X : K.In s.heap) (I : InstAt s.heap x ox C od) (hm : mroIn K C (.type "list") = some true) (hga : findIn K (.ref C) "__getattribute__" = some (some (.builtin "list.__getattribute__")))
    (hk : findIn K (.ref C) "__getattr__" = some none) (hf : findObj K C od name = some r)
    (h : wpAny (model prog w) A.in1 (match r with | .value v => ret v | .bind g a => bindTo g a (.ref x) (.ref C) | .missing => unsupported "") (fun fin s' => ∃ v, fin = .done (.ret v) ∧ wpAny (model prog w) A (handedOut v) Q E s') (fun _ _ => False) { s with toks := s.toks + 1 }) (hr : r ≠ .missing) :
    wpAny (model prog w) A (getAttr (.ref x) name expr) Q E s := by
  obtain ⟨hh, g, d, t, os⟩ := s
  have L0 := I.type (M := model prog w)
  have L1 := looks_findIn (M := model prog w) X hga
  have L2 := looks_findIn (M := model prog w) X hk
  have L3 := looks_find (M := model prog w) X I hf
  unfold getAttr getAttrBy
  refine wpAny_bind (wpAny_mkText (wpAny_holding (wpAny_bind (L0.at (wpAny_bind (L1.at ?_))))))
  dsimp only
  rw [show (onTheHeap (.ref C) && Value.builtin "list.__getattribute__" == Value.builtin "object.__getattribute__") = false from by rw [show (Value.builtin "list.__getattribute__" == Value.builtin "object.__getattribute__") = false from by decide +kernel, Bool.and_false], if_neg (by decide)]
  unfold getAttrByItsOwn hookBefore
  rw [if_pos (show onTheHeap (.ref C) = true from rfl)]
  refine wpAny_bind (L2.at (wpAny_bind (wpAny_attempt (wpAny_holding ?_))))
  unfold callGetattribute
  rw [show (expr && onTheHeap (Value.builtin "list.__getattribute__")) = false from Bool.and_false _, if_neg (by decide)]
  unfold boundAndCalled
  rw [F.slot_list_getattribute.bind]
  refine wpAny_bind (wpAny_pure ?_)
  show wpAny _ _ (call (.builtin "list.__getattribute__") [.ref x, .str name t]) _ _ _
  refine sub_call (s := ⟨hh, g, d, t + 1, os⟩) X I hm (.inr (by decide +kernel)) (n := "__getattribute__") (by decide +kernel) (by decide +kernel) F.entry_list_ga (F.args_list_getattribute_2 _ _) ?_
  refine wpAny_bind (wpAny_pure (wpAny_bind (wpAny_pure (wpAny_bind (L0.at (wpAny_bind (L3.at ?_)))))))
  cases r with
  | value v => exact wpAny_mono h (fun _ _ z => z) fun _ _ z => z.elim
  | bind g' a => exact wpAny_mono h (fun _ _ z => z) fun _ _ z => z.elim
  | missing => exact absurd rfl hr

theorem sub_getOwn {expr : Bool} {attr : Option Value} {es : List DictEntry} {n : Nat} {v : Value} {Q : Value → Shared → Prop} (X : K.In s.heap) (I : InstAt s.heap x ox C (some (dictOf es n))) (hm : mroIn K C (.type "list") = some true) (hga : findIn K (.ref C) "__getattribute__" = some (some (.builtin "list.__getattribute__")))
    (hk : findIn K (.ref C) "__getattr__" = some none) (hh : hasDictIn K C = true) (ha : findIn K (.ref C) name = some attr) (hn : noGet K attr = true) (hl : getL name es = some (some v)) (hv : handedIn v = true) (h : Q v { s with toks := s.toks + 1 }) :
    wpAny (model prog w) A (getAttr (.ref x) name expr) Q E s :=
  sub_getOpen X I hm hga hk (findObj_own hh ha hn hl) (wpAny_pure ⟨v, rfl, by rw [handedOut_of hv]; exact wpAny_pure h⟩) (by intro e; cases e)
end
end Mine

namespace Mine
noncomputable def lawDef : Stmt := viewP.main.body.getLastD (.Pass ⟨0, 0, 0, 0⟩)
noncomputable def lawBody : List Stmt := match lawDef with
  | .FunctionDef _ _ b _ _ _ _ _ _ _ => b
  | _ => []
noncomputable def lawScope : Scope := match lawDef with
  | .FunctionDef _ _ _ _ _ _ s _ _ _ => s
  | _ => default
noncomputable def forOf (s : Stmt) : List Stmt := match s with
  | .For _ _ b _ _ => b
  | _ => []
noncomputable def forIter (s : Stmt) : Expr := match s with
  | .For _ i _ _ _ => i
  | _ => .Constant .none 0 ⟨0, 0, 0, 0⟩
noncomputable def widthBody : List Stmt := forOf (lawBody.getD 6 (.Pass ⟨0, 0, 0, 0⟩))
noncomputable def spotBody : List Stmt := forOf (widthBody.getD 1 (.Pass ⟨0, 0, 0, 0⟩))
noncomputable def turnBody : List Stmt := forOf (widthBody.getD 2 (.Pass ⟨0, 0, 0, 0⟩))
theorem lawBody_length : lawBody.length = 8 := by rfl
theorem widthBody_length : widthBody.length = 3 := by rfl
theorem spotBody_length : spotBody.length = 4 := by rfl
theorem turnBody_length : turnBody.length = 4 := by rfl
end Mine

namespace Mine
abbrev accO (dx : Addr) (its : List Value) (n : Nat) : Obj := { cls := .ref 178, dict := some dx, data := .seq its.toArray n }
@[irreducible] def epo (a b n : Nat) : Nat := if a == b then n else n + 1
section
variable {prog : Program} {w : World} {A : Around} {E : Value → Shared → Prop} {s : Shared} {h₀ : Heap} {L : Addr} {m : Str → Option Value} {news news' : List (Addr × Obj)} {K : Frag} {x C dx : Addr} {ox : Obj} {od : Option Obj} {name : Str}

theorem upd_mem {d : Addr} {o o' : Obj} {l l' : List (Addr × Obj)} (U : Upd d o o' l l') : (d, o) ∈ l := by
  obtain ⟨pre, post, rfl, rfl, _, _⟩ := U.split; simp
theorem upd_heap {d : Addr} {o o' : Obj} {f : Obj → Obj} {h : Heap} (F : Fr h₀ L h m) (N : News h₀ L h news) (U : Upd d o o' news news') (e : f o = o') (hf : o'.isFreed = false) : Fr h₀ L (h.update d f) m ∧ News h₀ L (h.update d f) news' := by
  obtain ⟨pre, post, rfl, rfl, a, b⟩ := U.split
  exact news_upd F N a b e hf

theorem entry_append : entryFor table "list.append" = some Builtin.«list.append» := entryFor_of_tree (by kernel_rfl)
theorem args_append (a b : Value) : argsOk "list.append" ⟨[a, b], []⟩ := by unfold argsOk; kernel_rfl
theorem acc_append {its : List Value} {n : Nat} {v : Value} {Q : Value → Shared → Prop} (F : Fr h₀ L s.heap m) (X₀ : K.In h₀) (N : News h₀ L s.heap news) (I : InstAt s.heap x (accO dx its n) 178 od) (hm : mroIn K 178 (.type "list") = some true)
    (U : Upd x (accO dx its n) (accO dx (its ++ [v]) (n + 1)) news news') (h : ∀ h', Fr h₀ L h' m → News h₀ L h' news' → Q .none { s with heap := h' }) (hsz : its.length ≤ sizeLine := by size_fits) :
    wpAny (model prog w) A (call (.builtin "list.append") [.ref x, v]) Q E s := by
  refine sub_call (X₀.keeps F.keep) I hm (.inl (by decide +kernel)) (n := "append") (by decide +kernel) (by decide +kernel) entry_append (args_append _ _) ?_
  show wpAny _ _ (updateSeq x (·.push v) >>= fun _ => ret .none) _ _ s
  refine wpAny_bind ?_
  have hx := (N _ (upd_mem U)).1
  obtain ⟨F', N'⟩ := upd_heap (f := Obj.mapSeq (·.push v)) F N U (by simp [Obj.mapSeq]) rfl
  exact wpAny_updateSeq hx rfl (wpAny_pure ⟨.none, rfl, h _ F' N'⟩) (by simpa using hsz)

/-- callSpecial? that finds a built-in slot of list -/
theorem sub_special {M : Model} {id : String} {args : List Value} {Q : Option Value → Shared → Prop} (X : K.In s.heap) (I : InstAt s.heap x ox C od) (hs : findIn K (.ref C) name = some (some (.builtin id))) (hb : ∀ self, bindSpecial (.builtin id) self = pure (.builtin id, [self]))
    (h : wpAny M A (call (.builtin id) (.ref x :: args)) (fun v => Q (some v)) E s) : wpAny M A (callSpecial? (.ref x) name args) Q E s := by
  refine wpAny_bind (wpAny_bind (I.type.here ((looks_findIn X hs).here (wpAny_holding (wpAny_bind ?_)))))
  rw [hb]
  exact wpAny_pure (wpAny_bind (wpAny_mono h (fun _ _ z => wpAny_pure z) fun _ _ z => z))

theorem acc_getOpen {id : String} {v : Value} {Q : Value → Shared → Prop} (X : K.In s.heap) (I : InstAt s.heap x ox C od) (hq : noSeq K C = true) (hs : findIn K (.ref C) "__getitem__" = some (some (.builtin id))) (hb : ∀ self, bindSpecial (.builtin id) self = pure (.builtin id, [self]))
    (h : wpAny (model prog w) A (call (.builtin id) [.ref x, v]) Q E s) : wpAny (model prog w) A (getItem (.ref x) v) Q E s := by
  unfold getItem sequenceKey
  refine wpAny_holding (wpAny_bind (wpAny_bind (I.type.here ?_)))
  refine wpAny_bind ((anyM_none X hq).here ?_)
  rw [if_pos (show (!false) = true from rfl)]
  exact wpAny_pure (wpAny_bind (sub_special X I hs hb (wpAny_mono h (fun _ _ z => wpAny_pure z) fun _ _ z => z)))
theorem acc_setOpen {id : String} {i v : Value} {Q : Unit → Shared → Prop} (X : K.In s.heap) (I : InstAt s.heap x ox C od) (hq : noSeq K C = true) (hs : findIn K (.ref C) "__setitem__" = some (some (.builtin id))) (hb : ∀ self, bindSpecial (.builtin id) self = pure (.builtin id, [self]))
    (h : wpAny (model prog w) A (call (.builtin id) [.ref x, i, v]) (fun _ s' => Q () s') E s) : wpAny (model prog w) A (setItem (.ref x) i v) Q E s := by
  unfold setItem sequenceKey
  refine wpAny_holding (wpAny_bind (wpAny_bind (I.type.here ?_)))
  refine wpAny_bind ((anyM_none X hq).here ?_)
  rw [if_pos (show (!false) = true from rfl)]
  exact wpAny_pure (wpAny_bind (sub_special X I hs hb (wpAny_mono h (fun _ _ z => wpAny_pure z) fun _ _ z => z)))

theorem acc_item {its : List Value} {n : Nat} {k : Int} {t : Tok} {v : Value} {Q : Value → Shared → Prop} (X : K.In s.heap) (I : InstAt s.heap x (accO dx its n) 178 od) (hq : noSeq K 178 = true) (hs : findIn K (.ref 178) "__getitem__" = some (some (.builtin "list.__getitem__")))
    (hm : mroIn K 178 (.type "list") = some true) (h0 : 0 ≤ k) (hfit : k < 2 ^ 63) (hx : its[k.toNat]? = some v) (h : Q v s) : wpAny (model prog w) A (getItem (.ref x) (.int k t)) Q E s := by
  refine acc_getOpen X I hq hs slot_list_getitem.bind ?_
  refine sub_call X I hm (.inl (by decide +kernel)) (n := "__getitem__") (by decide +kernel) (by decide +kernel) entry_list_getitem (args_list_getitem _ _) ?_
  show wpAny _ _ (Builtin.List.listSubscript? (.int k t) >>= _) _ _ s
  refine wpAny_bind (wpAny_listSubscript_int (fitsIndex_of h0 hfit) ?_)
  clear hfit
  obtain ⟨j, rfl⟩ := Int.eq_ofNat_of_zero_le h0
  have hx' : its.toArray[j]? = some v := by simpa using hx
  show wpAny _ _ ((seqItemAt x j >>= fun r => pure (r.map (j, ·))) >>= _) _ _ s
  refine wpAny_bind (wpAny_bind (wpAny_seqItemAt I.at_ rfl (wpAny_pure ?_)))
  rw [hx']
  exact wpAny_pure ⟨v, rfl, h⟩
theorem acc_tail {value slice : Expr} {i : Value} {ops : List Value} {id : String} {Q : Value → Shared → Prop} (X : K.In s.heap) (I : InstAt s.heap x ox C od) (hs : findIn K (.ref C) "__getitem__" = some (some (.builtin id))) (hg : wpAny (model prog w) A (getItem (.ref x) i) Q E s)
    (he : subscripted slice false (.ref x) i = operate ops (getItem (.ref x) i)) : wpAny (model prog w) A (subscriptTail value slice (.ref x) i) Q E s := by
  unfold subscriptTail getitemInPython
  refine wpAny_bind (wpAny_bind (wpAny_bind (I.type.here ((looks_findIn X hs).here ?_))))
  dsimp only
  have fin : wpAny (model prog w) A (subscripted slice false (.ref x) i) (fun r s₃ => wpAny (model prog w) A (letTemporaryGo value (.ref x) r >>= fun _ => pure r) Q E s₃) E s := by
    rw [he]
    exact wpAny_operating (wpAny_mono hg (fun r s₃ h₃ => wpAny_bind (wpAny_letTemporaryGo (wpAny_pure h₃))) fun _ _ x => x)
  first
    | exact wpAny_pure (wpAny_bind fin)
    | exact wpAny_bind (wpAny_pure (wpAny_bind fin))
    | exact wpAny_bind fin
    | exact fin

theorem acc_slice {its : List Value} {n : Nat} {sl : Addr} {vl vu vs : Value} {lo hi st : Option Int} {Q : Value → Shared → Prop} (X : K.In s.heap) (I : InstAt s.heap x (accO dx its n) 178 od) (hq : noSeq K 178 = true) (hs : findIn K (.ref 178) "__getitem__" = some (some (.builtin "list.__getitem__")))
    (hm : mroIn K 178 (.type "list") = some true) (hsl : s.heap.IsSliceOf sl vl vu vs) (pl : IsPart vl lo) (pu : IsPart vu hi) (ps : IsPart vs st) (h0 : st ≠ some 0)
    (h : Q (.ref s.heap.objs.size) { s with heap := s.heap.push { cls := .type "list", data := .seq (slicePick its.toArray lo hi st) } }) (hsz : its.length ≤ sizeLine := by size_fits) : wpAny (model prog w) A (getItem (.ref x) (.ref sl)) Q E s := by
  obtain ⟨os, hos, hcs, hds⟩ := id hsl
  have hTs : s.TypeIs (.ref sl) "slice" := ⟨os, hos, hcs⟩
  refine acc_getOpen X I hq hs slot_list_getitem.bind ?_
  refine sub_call X I hm (.inl (by decide +kernel)) (n := "__getitem__") (by decide +kernel) (by decide +kernel) entry_list_getitem (args_list_getitem _ _) ?_
  show wpAny _ _ (Builtin.List.listSubscript? (.ref sl) >>= _) _ _ s
  refine wpAny_bind ?_
  unfold Builtin.List.listSubscript?
  refine wpAny_bind (wpAny_specialOf hTs slice_no_index ?_)
  simp only [Option.isNone_none, if_true]
  refine wpAny_pure ?_
  show wpAny _ _ (typeOf (.ref sl) >>= _) _ _ s
  refine wpAny_bind (wpAny_typeOf hTs ?_)
  rw [if_neg (by decide)]
  rw [listSliceParts_eq]
  have hstep : ¬ ((rawPart st == rawInt 0) = true) := by
    cases st with
    | none => exact Bool.false_ne_true
    | some c =>
      intro hh
      have : c = 0 := by simpa [rawPart, rawInt] using hh
      exact h0 (by rw [this])
  refine wpAny_bind (wpAny_bind (wpAny_field hos hds (x := vs) rfl (wpAny_bind (wpAny_listPart ps ?_))))
  rw [if_neg hstep]
  refine wpAny_bind (wpAny_field hos hds (x := vl) rfl (wpAny_bind (wpAny_listPart pl ?_)))
  refine wpAny_bind (wpAny_field hos hds (x := vu) rfl (wpAny_bind (wpAny_listPart pu (wpAny_pure ?_))))
  refine wpAny_bind (m := Builtin.List.listItems (.ref x)) ?_
  unfold Builtin.List.listItems
  refine wpAny_bind (wpAny_seqItems I.at_ rfl (wpAny_pure ?_))
  refine wpAny_bind (wpAny_of_eq (sliceIndices_raw lo hi st its.toArray.size h0) ?_)
  exact wpAny_bind (wpAny_newObj_type (wpAny_pure ⟨_, rfl, h⟩) (Nat.le_trans (slicePick_size_le its.toArray lo hi st) (by simpa using hsz)))

theorem acc_setSlice {its new : List Value} {n c : Nat} {sl v : Addr} {vl vu : Value} {lo hi : Option Int} {a b : Nat} {Q : Unit → Shared → Prop} (F : Fr h₀ L s.heap m) (X₀ : K.In h₀) (N : News h₀ L s.heap news) (I : InstAt s.heap x (accO dx its n) 178 od)
    (hq : noSeq K 178 = true) (hs : findIn K (.ref 178) "__setitem__" = some (some (.builtin "list.__setitem__"))) (hm : mroIn K 178 (.type "list") = some true) (hsl : (sl, ({ cls := .type "slice", data := .fields #[vl, vu, .none] } : Obj)) ∈ news)
    (hv : (v, ({ cls := .type "list", data := .seq new.toArray c } : Obj)) ∈ news) (pl : IsPart vl lo) (pu : IsPart vu hi) (hb : sliceBounds lo hi none its.length = ((a : Int), (b : Int), 1)) (hab : a ≤ b) (hbn : b ≤ its.length)
    (U : Upd x (accO dx its n) (accO dx (its.take a ++ new ++ its.drop b) (epo (its.take a ++ new ++ its.drop b).length its.length n)) news news') (h : ∀ h', Fr h₀ L h' m → News h₀ L h' news' → Q () { s with heap := h' }) (hsz : its.length + new.length ≤ sizeLine := by size_fits) :
    wpAny (model prog w) A (setItem (.ref x) (.ref sl) (.ref v)) Q E s := by
  have hvx : (x == v) = false := by
    have e1 := (N _ (upd_mem U)).1
    have e2 := (N _ hv).1
    cases q : (x == v) with
    | false => rfl
    | true =>
      rw [beq_iff_eq.mp q] at e1
      rw [e1] at e2
      exact absurd (congrArg Obj.cls (Option.some.inj e2)) (by simp)
  have hos : s.heap.get? sl = some { cls := .type "slice", data := .fields #[vl, vu, .none] } := (N _ hsl).1
  have hov : s.heap.get? v = some { cls := .type "list", data := .seq new.toArray c } := (N _ hv).1
  have hTs : s.TypeIs (.ref sl) "slice" := ⟨_, hos, rfl⟩
  have hTv : s.TypeIs (.ref v) "list" := ⟨_, hov, rfl⟩
  refine acc_setOpen (X₀.keeps F.keep) I hq hs slot_list_setitem.bind ?_
  refine sub_call (X₀.keeps F.keep) I hm (.inr (by decide +kernel)) (n := "__setitem__") (by decide +kernel) (by decide +kernel) entry_list_setitem (args_list_setitem _ _ _) ?_
  show wpAny _ _ (Builtin.List.listSubscript? (.ref sl) >>= _) _ _ s
  refine wpAny_bind ?_
  unfold Builtin.List.listSubscript?
  refine wpAny_bind (wpAny_specialOf hTs slice_no_index ?_)
  simp only [Option.isNone_none, if_true]
  refine wpAny_pure ?_
  show wpAny _ _ (typeOf (.ref sl) >>= _) _ _ s
  refine wpAny_bind (wpAny_typeOf hTs ?_)
  rw [if_neg (by decide)]
  rw [listSliceParts_eq]
  refine wpAny_bind (wpAny_bind (wpAny_field hos rfl (x := .none) rfl (wpAny_bind (wpAny_listPart .none ?_))))
  rw [if_neg (show ¬ ((rawPart none == rawInt 0) = true) from Bool.false_ne_true)]
  refine wpAny_bind (wpAny_field hos rfl (x := vl) rfl (wpAny_bind (wpAny_listPart pl ?_)))
  refine wpAny_bind (wpAny_field hos rfl (x := vu) rfl (wpAny_bind (wpAny_listPart pu (wpAny_pure ?_))))
  rw [if_neg (show ¬ Builtin.List.listSameRef (.ref x) (.ref v) = true from by show ¬ (x == v) = true; rw [hvx]; exact Bool.false_ne_true)]
  refine wpAny_bind ?_
  unfold Builtin.List.listAllItems
  refine wpAny_bind (wpAny_typeOf hTv ?_)
  rw [if_pos (show ((Value.type "list" == Value.type "list") || (Value.type "list" == Value.type "tuple")) = true from by decide)]
  refine wpAny_listItems hov rfl ?_
  refine wpAny_bind (m := Builtin.List.listItems (.ref x)) (wpAny_listItems I.at_ rfl ?_)
  refine wpAny_bind (wpAny_of_eq (sliceIndices_raw lo hi none its.toArray.size (by simp)) ?_)
  rw [List.size_toArray, hb]
  show wpAny _ _ (if ((1 : Int) == 1) = true then _ else _) _ _ _
  rw [if_pos (by decide)]
  refine wpAny_bind (wpAny_rule ?_)
  rw [if_neg (show ¬ Builtin.List.listTooLong (its.length + new.toArray.size) = true from by simp only [Builtin.List.listTooLong, List.size_toArray, decide_eq_true_eq, sizeLine_eq] at hsz ⊢; omega)]
  have hf : Obj.mapSeq (fun xs => xs.extract 0 (a : Int).toNat ++ new.toArray ++ xs.extract (max (a : Int) (b : Int)).toNat xs.size) (accO dx its n) = accO dx (its.take a ++ new ++ its.drop b) (epo (its.take a ++ new ++ its.drop b).length its.length n) := by
    have e2 : (max (a : Int) (b : Int)).toNat = b := by omega
    simp only [Obj.mapSeq, e2, Int.toNat_natCast]
    have e3 : its.toArray.extract 0 a ++ new.toArray ++ its.toArray.extract b its.toArray.size = (its.take a ++ new ++ its.drop b).toArray := by
      apply Array.toList_inj.mp
      simp
      exact List.take_of_length_le (by simp)
    rw [e3]
    unfold epo
    simp only [List.size_toArray]
  obtain ⟨F', N'⟩ := upd_heap F N U hf rfl
  refine wpAny_bind (m := updateSeq x _) (wpAny_updateSeq I.at_ rfl ?_ (by simp only [List.size_toArray]; rw [sizeLine_eq] at hsz ⊢; omega) (by
    have := congrArg (fun o : Obj => match o.data with | .seq xs _ => xs.size | _ => 0) hf
    simp only [Obj.mapSeq] at this
    rw [this]
    simp only [List.size_toArray, List.length_append, List.length_take, List.length_drop]; rw [sizeLine_eq] at hsz ⊢; omega))
  exact wpAny_bind (wpAny_letGo (wpAny_pure ⟨.none, rfl, h _ F' N'⟩))
end
end Mine

namespace Mine
open Builtin Builtin.ObjectAttr Builtin.Getset_descriptor
section
variable {prog : Program} {w : World} {A : Around} {E : Value → Shared → Prop} {s : Shared} {h₀ : Heap} {L : Addr} {m : Str → Option Value} {news news' : List (Addr × Obj)} {K : Frag} {x C dx : Addr} {ox : Obj} {od : Option Obj} {name : Str}
theorem refuse_list (self : Value) : refuseLoop self "__setattr__" [.ref 178, .type "list", .type "object"] = pure () := by
  rw [refuseLoop_ref]
  kernel_rfl

theorem accI {its : List Value} {n : Nat} {o : Obj} (N : News h₀ L s.heap news) (h1 : (x, accO dx its n) ∈ news) (h2 : (dx, o) ∈ news) : InstAt s.heap x (accO dx its n) 178 (some o) := ⟨(N _ h1).1, rfl, rfl, (N _ h2).1⟩

theorem acc_setattr {its : List Value} {n k k' : Nat} {es es' : List DictEntry} {cd : ClassData} {v : Value} {Q : Unit → Shared → Prop} (F : Fr h₀ L s.heap m) (X₀ : K.In h₀) (N : News h₀ L s.heap news) (I : InstAt s.heap x (accO dx its n) 178 (some (dictOf es k)))
    (hs : findIn K (.ref 178) "__setattr__" = some (some (.builtin "object.__setattr__"))) (hc : clsIn K 178 = some cd) (hmro : cd.mro = [.ref 178, .type "list", .type "object"]) (hcd : cd.hasDict = true) (ht : takerIn K 178 name = some none)
    (hl : (getL name es).isSome = true) (e : (putL name (PyData.keyHash w.params name) (.str name (s.toks + 1)) v es, putN name es k) = (es', k')) (U : Upd dx (dictOf es k) (dictOf es' k') news news') (hz : es'.length ≤ 1000)
    (h : ∀ h', Fr h₀ L h' m → News h₀ L h' news' → Q () { s with heap := h', toks := s.toks + 2 }) :
    wpAny (model prog w) A (setAttr (.ref x) name v) Q E s := by
  have X := X₀.keeps F.keep
  refine set_plain X I hs ?_
  have SF := PySem.F.store_object
  have sub : Looks (model prog w) s.heap (isInstance (.ref x) (.type "object")) true := I.type.andThen (looks_mroIn X (by unfold mroIn; rw [hc, Option.bind_some, hmro]; rfl))
  refine codeAny_call_builtin SF.slot.plain SF.entry (@check_slot (model prog w) _ _ { s with toks := s.toks + 1 } "object.__setattr__" "object" "__setattr__" (.ref x) [.str name s.toks, v] [] _ SF.kind SF.split sub (SF.args (.ref x) (.str name s.toks) v) ?_)
  obtain ⟨attr, ha, hr⟩ := Option.bind_eq_some_iff.mp ht
  have hm : Looks (model prog w) s.heap (mroOf (.ref 178)) cd.mro := (looks_clsIn X hc).andThen .now
  have L3 : Looks (model prog w) s.heap (storeTaker? attr) none := by
    cases attr with
    | none => exact .now
    | some a =>
      obtain ⟨b, hb, hb'⟩ := Option.map_eq_some_iff.mp hr
      cases b with
      | true => cases hb'
      | false => exact (looks_takesIn X hb).andThen .now
  have LT := I.type (M := model prog w)
  have LF := looks_findIn (M := model prog w) X ha
  rw [osa_eq, refuse_eq]
  have keep : ∀ (b : Addr) (o : Obj), s.heap.get? b = some o → ({ s with toks := s.toks + 1 } : Shared).heap.get? b = some o := fun _ _ e => e
  refine wpAny_bind (wpAny_bind (LT _ _ _ _ keep (wpAny_bind (hm _ _ _ _ keep ?_))))
  rw [hmro, refuse_list]
  refine wpAny_pure (wpAny_bind (LT _ _ _ _ keep (wpAny_bind (LF _ _ _ _ keep (wpAny_bind (L3 _ _ _ _ keep ?_))))))
  dsimp only
  -- the store into the instance's dict
  obtain ⟨pre, post, rfl, rfl, h1, h2⟩ := U.split
  obtain ⟨e1, e2⟩ := Prod.mk.inj e
  have ep : Obj.putName name (PyData.keyHash w.params name) (.str name (s.toks + 1)) v (dictOf es k) = dictOf es' k' := by rw [putName_dict, e1, e2]
  obtain ⟨U1, U2⟩ := news_upd (f := Obj.putName name (PyData.keyHash w.params name) (.str name (s.toks + 1)) v) F N h1 h2 ep rfl
  have D : s.heap.get? dx = some (dictOf es k) := (N (dx, dictOf es k) (by simp)).1
  have D' := (U2 (dx, dictOf es' k') (by simp)).1
  have hx := I.at_
  refine wpAny_bind (wpAny_pure (wpAny_bind (wpAny_bind (wpAny_loadPart (s := { s with toks := s.toks + 1 }) hx (wpAny_bind (looks_clsIn X hc _ _ _ _ keep ?_))))))
  rw [hcd]
  refine wpAny_pure (a := some dx) (wpAny_bind (wpAny_pure (wpAny_bind ?_)))
  unfold nsSet
  refine wpAny_bind (wpAny_bind (wpAny_askSetting (wpAny_pure (wpAny_bind (wpAny_mkText (wpAny_bind (wpAny_loadPart D ?_)))))))
  dsimp only
  have c : (!es.toArray.any (·.key.isStr name) && es.toArray.any (·.refKey)) = false := by
    rw [← Array.any_toList, ← Array.any_toList]
    unfold getL at hl
    split at hl
    · rename_i en he
      rw [List.any_eq_true.mpr ⟨en, List.mem_of_find?_eq_some he, List.find?_some he⟩]; rfl
    · split at hl
      · cases hl
      · rename_i z; rw [Bool.not_eq_true] at z; rw [z, Bool.and_false]
  rw [aRefKeyMayBeTheName_at, c]
  refine wpAny_updatePart D ?_
  refine wpAny_bind (wpAny_lookBehind D' (pastItsLine_dict (by rw [List.size_toArray, sizeLine_eq]; omega)) ?_)
  exact wpAny_pure (h _ U1 U2)
end
end Mine

namespace Mine
section
variable {prog : Program} {w : World} {A : Around} {E : Value → Shared → Prop} {s : Shared} {h₀ : Heap} {L : Addr} {m : Str → Option Value} {news news' : List (Addr × Obj)} {K : Frag} {x dx : Addr} {name : Str} {its : List Value} {n k k' : Nat} {es es' : List DictEntry}
theorem accK_method {pl : Sem Bool} {Q : Value × List Value → Shared → Prop} {f t : Value} (F : Fr h₀ L s.heap m) (X₀ : K.In h₀) (N : News h₀ L s.heap news) (h1 : (x, accO dx its n) ∈ news) (h2 : (dx, dictOf es k) ∈ news)
    (hga : findIn K (.ref 178) "__getattribute__" = some (some (.builtin "list.__getattribute__"))) (hk : findIn K (.ref 178) "__getattr__" = some none) (hf : findIn K (.ref 178) name = some (some f)) (ht : typeIn K f = some t)
    (htt : (t != .type "function" && t != .type "method_descriptor" && t != .type "wrapper_descriptor") = false) (hl : getL name es = some none) (h : Q (f, [.ref x]) s) : wpAny (model prog w) A (getMethod (.ref x) name pl) Q E s :=
  sub_method (X₀.keeps F.keep) (accI N h1 h2) hga hk hf ht htt (by show (lookIn name (dictOf es k)).map _ = _; rw [lookIn_dict, hl]; rfl) h
theorem accK_append {v : Value} {o : Obj} {Q : Value → Shared → Prop} (F : Fr h₀ L s.heap m) (X₀ : K.In h₀) (N : News h₀ L s.heap news) (h2 : (dx, o) ∈ news) (hm : mroIn K 178 (.type "list") = some true)
    (U : Upd x (accO dx its n) (accO dx (its ++ [v]) (n + 1)) news news') (h : ∀ h', Fr h₀ L h' m → News h₀ L h' news' → Q .none { s with heap := h' }) (hsz : its.length ≤ sizeLine) :
    wpAny (model prog w) A (call (.builtin "list.append") [.ref x, v]) Q E s := acc_append F X₀ N (accI N (upd_mem U) h2) hm U h hsz
theorem accK_get {expr : Bool} {attr : Option Value} {v : Value} {Q : Value → Shared → Prop} (F : Fr h₀ L s.heap m) (X₀ : K.In h₀) (N : News h₀ L s.heap news) (h1 : (x, accO dx its n) ∈ news) (h2 : (dx, dictOf es k) ∈ news)
    (hm : mroIn K 178 (.type "list") = some true) (hga : findIn K (.ref 178) "__getattribute__" = some (some (.builtin "list.__getattribute__"))) (hk : findIn K (.ref 178) "__getattr__" = some none) (hh : hasDictIn K 178 = true)
    (ha : findIn K (.ref 178) name = some attr) (hn : noGet K attr = true) (hl : getL name es = some (some v)) (hv : handedIn v = true) (h : Q v { s with toks := s.toks + 1 }) :
    wpAny (model prog w) A (getAttr (.ref x) name expr) Q E s := sub_getOwn (X₀.keeps F.keep) (accI N h1 h2) hm hga hk hh ha hn hl hv h
theorem accK_set {cd : ClassData} {v : Value} {Q : Unit → Shared → Prop} (F : Fr h₀ L s.heap m) (X₀ : K.In h₀) (N : News h₀ L s.heap news) (h1 : (x, accO dx its n) ∈ news) (h2 : (dx, dictOf es k) ∈ news)
    (hs : findIn K (.ref 178) "__setattr__" = some (some (.builtin "object.__setattr__"))) (hc : clsIn K 178 = some cd) (hmro : cd.mro = [.ref 178, .type "list", .type "object"]) (hcd : cd.hasDict = true) (ht : takerIn K 178 name = some none)
    (hl : (getL name es).isSome = true) (e : (putL name (PyData.keyHash w.params name) (.str name (s.toks + 1)) v es, putN name es k) = (es', k')) (U : Upd dx (dictOf es k) (dictOf es' k') news news') (hz : es'.length ≤ 1000)
    (h : ∀ h', Fr h₀ L h' m → News h₀ L h' news' → Q () { s with heap := h', toks := s.toks + 2 }) : wpAny (model prog w) A (setAttr (.ref x) name v) Q E s :=
  acc_setattr F X₀ N (accI N h1 h2) hs hc hmro hcd ht hl e U hz h
theorem accK_len {o : Obj} {f : Addr} {Q : Value → Shared → Prop} (F : Fr h₀ L s.heap m) (X₀ : K.In h₀) (N : News h₀ L s.heap news) (h1 : (x, accO dx its n) ∈ news) (h2 : (dx, o) ∈ news) (hs : findIn K (.ref 178) "__len__" = some (some (.ref f))) (hf : isFn K (.ref f) = true)
    (h : wpAny (model prog w) A.in1 (call (.ref f) [.ref x]) (PySem.W.LenBack Q) E s) : wpAny (model prog w) A (call (.builtin "len") [.ref x]) Q E s := len_K F X₀ (accI N h1 h2) hs hf h
theorem accK_item {o : Obj} {i : Int} {t : Tok} {v : Value} {value slice : PySem.Expr} {Q : Value → Shared → Prop} (F : Fr h₀ L s.heap m) (X₀ : K.In h₀) (N : News h₀ L s.heap news) (h1 : (x, accO dx its n) ∈ news) (h2 : (dx, o) ∈ news)
    (hq : noSeq K 178 = true) (hs : findIn K (.ref 178) "__getitem__" = some (some (.builtin "list.__getitem__"))) (hm : mroIn K 178 (.type "list") = some true) (h0 : 0 ≤ i) (hfit : i < 2 ^ 63) (hx : its[i.toNat]? = some v) (h : Q v s)
    (he : subscripted slice false (.ref x) (.int i t) = operate [.ref x, .int i t] (getItem (.ref x) (.int i t)) := by with_unfolding_all rfl) :
    wpAny (model prog w) A (subscriptTail value slice (.ref x) (.int i t)) Q E s :=
  acc_tail (X₀.keeps F.keep) (accI N h1 h2) hs (acc_item (X₀.keeps F.keep) (accI N h1 h2) hq hs hm h0 hfit hx h) he
theorem accK_slice {hh : Heap} {gg : Array GenState} {dd : Drawn} {tk : Nat} {oo : OsState} {o : Obj} {vl vu : Value} {lo hi : Option Int} {r : List Value} {value slice : PySem.Expr} {Q : Value → Shared → Prop} (F : Fr h₀ L hh m) (X₀ : K.In h₀) (N : News h₀ L hh news) (h1 : (x, accO dx its n) ∈ news) (h2 : (dx, o) ∈ news)
    (hq : noSeq K 178 = true) (hs : findIn K (.ref 178) "__getitem__" = some (some (.builtin "list.__getitem__"))) (hm : mroIn K 178 (.type "list") = some true) (pl : IsPart vl lo) (pu : IsPart vu hi)
    (hr : slicePick its.toArray lo hi none = r.toArray) (hsz : its.length ≤ sizeLine) (h : ∀ l h', Fr h₀ L h' m → News h₀ L h' ((l, listOf r.toArray 0) :: news) → (∀ p ∈ news, p.1 < l) → Q (.ref l) ⟨h', gg, dd, tk, oo⟩)
    (he : ∀ sl, subscripted slice false (.ref x) (.ref sl) = operate [.ref sl, .ref x] (getItem (.ref x) (.ref sl)) := by intro sl; with_unfolding_all rfl) :
    wpAny (model prog w) A (subscriptTail value slice (.ref x) (.ref hh.objs.size)) Q E ⟨hh.push { cls := .type "slice", data := .fields #[vl, vu, .none] }, gg, dd, tk, oo⟩ := by
  have F1 : Fr h₀ L (hh.push { cls := .type "slice", data := .fields #[vl, vu, .none] }) m := F.push _
  have N1 : News h₀ L (hh.push { cls := .type "slice", data := .fields #[vl, vu, .none] }) news := fun p hp => ⟨Heap.get?_push_of_some _ (N p hp).1, (N p hp).2⟩
  refine acc_tail (X₀.keeps F1.keep) (accI N1 h1 h2) hs (acc_slice (X₀.keeps F1.keep) (accI N1 h1 h2) hq hs hm (Heap.IsSliceOf.new ..) pl pu .none (by simp) ?_ hsz) (he _)
  rw [hr]
  refine h _ _ (F1.push _) (N1.push F1 _) fun p hp => Heap.lt_size (N1 p hp).1
theorem accK_setSlice {hh : Heap} {gg : Array GenState} {dd : Drawn} {tk : Nat} {oo : OsState} {o : Obj} {new its' : List Value} {c : Nat} {v : Addr} {vl vu : Value} {lo hi : Option Int} {a b : Nat} {Q : Unit → Shared → Prop} (F : Fr h₀ L hh m) (X₀ : K.In h₀) (N : News h₀ L hh news) (h1 : (x, accO dx its n) ∈ news) (h2 : (dx, o) ∈ news)
    (hq : noSeq K 178 = true) (hs : findIn K (.ref 178) "__setitem__" = some (some (.builtin "list.__setitem__"))) (hm : mroIn K 178 (.type "list") = some true)
    (hv : (v, ({ cls := .type "list", data := .seq new.toArray c } : Obj)) ∈ news) (pl : IsPart vl lo) (pu : IsPart vu hi) (hb : sliceBounds lo hi none its.length = ((a : Int), (b : Int), 1) ∧ a ≤ b ∧ b ≤ its.length ∧ its' = its.take a ++ new ++ its.drop b)
    (U : Upd x (accO dx its n) (accO dx its' (epo its'.length its.length n)) news news') (hsz : its.length + new.length ≤ sizeLine) (h : ∀ h', Fr h₀ L h' m → News h₀ L h' news' → Q () ⟨h', gg, dd, tk, oo⟩) :
    wpAny (model prog w) A (setItem (.ref x) (.ref hh.objs.size) (.ref v)) Q E ⟨hh.push { cls := .type "slice", data := .fields #[vl, vu, .none] }, gg, dd, tk, oo⟩ := by
  obtain ⟨hb, hab, hbn, rfl⟩ := hb
  have F1 : Fr h₀ L (hh.push { cls := .type "slice", data := .fields #[vl, vu, .none] }) m := F.push _
  have N1 := N.push F { cls := .type "slice", data := .fields #[vl, vu, .none] }
  exact acc_setSlice F1 X₀ N1 (accI N1 (.tail _ h1) (.tail _ h2)) hq hs hm (List.Mem.head _) (.tail _ hv) pl pu hb hab hbn (.tail (Nat.ne_of_gt (Heap.lt_size (N _ h1).1)) U) (fun h' F' N' => h h' F' fun p hp => N' p (.tail _ hp)) hsz
theorem accPick (its : List Value) (i : Nat) : slicePick its.toArray (some (i : Int)) none none = (its.drop i).toArray := slicePick_from' _ _
theorem accB_all (its new : List Value) : sliceBounds none none none its.length = (((0 : Nat) : Int), (its.length : Int), 1) ∧ 0 ≤ its.length ∧ its.length ≤ its.length ∧ new = its.take 0 ++ new ++ its.drop its.length := by
  refine ⟨?_, Nat.zero_le _, Nat.le_refl _, by simp⟩
  simp [sliceBounds]
theorem accB_del (its : List Value) (i : Nat) (h : i ≤ its.length) : sliceBounds (some (i : Int)) none none its.length = ((i : Int), (its.length : Int), 1) ∧ i ≤ its.length ∧ its.length ≤ its.length ∧ its.take i = its.take i ++ [] ++ its.drop its.length := by
  refine ⟨?_, h, Nat.le_refl _, by simp⟩
  simp only [sliceBounds, Option.getD_none]
  rw [if_neg (by omega : ¬ ((i : Int) < 0))]
  simp; omega
end
abbrev accE (w : World) (t1 t2 : Tok) : List DictEntry := [⟨PyData.keyHash w.params (Str.ofString "_initial_size"), .str (Str.ofString "_initial_size") t1, .int 0 t2⟩]
abbrev tupO (u v : Value) : Obj := { cls := .type "tuple", data := .seq #[u, v] }
theorem A0 {p0 q : Prop} (h : p0 ∧ q) : p0 := h.1
theorem A1 {p0 p1 q : Prop} (h : p0 ∧ p1 ∧ q) : p1 := h.2.1
theorem A2 {p0 p1 p2 q : Prop} (h : p0 ∧ p1 ∧ p2 ∧ q) : p2 := h.2.2.1
theorem A3 {p0 p1 p2 p3 q : Prop} (h : p0 ∧ p1 ∧ p2 ∧ p3 ∧ q) : p3 := h.2.2.2.1
theorem A4 {p0 p1 p2 p3 p4 q : Prop} (h : p0 ∧ p1 ∧ p2 ∧ p3 ∧ p4 ∧ q) : p4 := h.2.2.2.2.1
theorem A5 {p0 p1 p2 p3 p4 p5 q : Prop} (h : p0 ∧ p1 ∧ p2 ∧ p3 ∧ p4 ∧ p5 ∧ q) : p5 := h.2.2.2.2.2.1
theorem A6 {p0 p1 p2 p3 p4 p5 p6 q : Prop} (h : p0 ∧ p1 ∧ p2 ∧ p3 ∧ p4 ∧ p5 ∧ p6 ∧ q) : p6 := h.2.2.2.2.2.2.1
theorem A7 {p0 p1 p2 p3 p4 p5 p6 p7 q : Prop} (h : p0 ∧ p1 ∧ p2 ∧ p3 ∧ p4 ∧ p5 ∧ p6 ∧ p7 ∧ q) : p7 := h.2.2.2.2.2.2.2.1
theorem A8 {p0 p1 p2 p3 p4 p5 p6 p7 p8 q : Prop} (h : p0 ∧ p1 ∧ p2 ∧ p3 ∧ p4 ∧ p5 ∧ p6 ∧ p7 ∧ p8 ∧ q) : p8 := h.2.2.2.2.2.2.2.2.1
theorem A9 {p0 p1 p2 p3 p4 p5 p6 p7 p8 p9 q : Prop} (h : p0 ∧ p1 ∧ p2 ∧ p3 ∧ p4 ∧ p5 ∧ p6 ∧ p7 ∧ p8 ∧ p9 ∧ q) : p9 := h.2.2.2.2.2.2.2.2.2.1
theorem A10 {p0 p1 p2 p3 p4 p5 p6 p7 p8 p9 p10 q : Prop} (h : p0 ∧ p1 ∧ p2 ∧ p3 ∧ p4 ∧ p5 ∧ p6 ∧ p7 ∧ p8 ∧ p9 ∧ p10 ∧ q) : p10 := h.2.2.2.2.2.2.2.2.2.2.1
theorem A11 {p0 p1 p2 p3 p4 p5 p6 p7 p8 p9 p10 p11 q : Prop} (h : p0 ∧ p1 ∧ p2 ∧ p3 ∧ p4 ∧ p5 ∧ p6 ∧ p7 ∧ p8 ∧ p9 ∧ p10 ∧ p11 ∧ q) : p11 := h.2.2.2.2.2.2.2.2.2.2.2.1
theorem A12 {p0 p1 p2 p3 p4 p5 p6 p7 p8 p9 p10 p11 p12 q : Prop} (h : p0 ∧ p1 ∧ p2 ∧ p3 ∧ p4 ∧ p5 ∧ p6 ∧ p7 ∧ p8 ∧ p9 ∧ p10 ∧ p11 ∧ p12 ∧ q) : p12 := h.2.2.2.2.2.2.2.2.2.2.2.2.1
theorem roomOf {a b u n : Nat} (h : u + b < n) (e : a ≤ b) : u + a < n := Nat.lt_of_le_of_lt (Nat.add_le_add_left e u) h
theorem roomOf0 {b u n : Nat} (h : u + b < n) : u < n := Nat.lt_of_le_of_lt (Nat.le_add_right u b) h
end Mine

namespace Mine
open PySem.Flt
def ltF (x y : UInt64) : Bool := Float64.cmp x y == some Ordering.lt
def mx3 (a b c : UInt64) : UInt64 := if ltF a b = true then (if ltF b c = true then c else b) else if ltF a c = true then c else a
def mn3 (a b c : UInt64) : UInt64 := if ltF b a = true then (if ltF c b = true then c else b) else if ltF c a = true then c else a
def rngF (r g b : UInt64) : UInt64 := Float64.sub (mx3 r g b) (mn3 r g b)
def offF (r g b x : UInt64) : UInt64 := Float64.div (Float64.sub (mx3 r g b) x) (rngF r g b)
def hueH (r g b : UInt64) : UInt64 :=
  if (Float64.cmp r (mx3 r g b) == some Ordering.eq) = true then Float64.sub (offF r g b b) (offF r g b g)
  else if (Float64.cmp g (mx3 r g b) == some Ordering.eq) = true then Float64.sub (Float64.add 4611686018427387904 (offF r g b r)) (offF r g b b)
  else Float64.sub (Float64.add 4616189618054758400 (offF r g b g)) (offF r g b r)
def hueF (r g b : UInt64) : UInt64 := (Float64.divmod (Float64.div (hueH r g b) 4618441417868443648) 4607182418800017408).snd
section
variable {prog : Program} {w : World} {A : Around} {E : Value → Shared → Prop} {s : Shared} {Q : Value → Shared → Prop} {x y z : UInt64} {t u v : Tok} {h₀ : Heap} {L : Addr} {m : Str → Option Value} {news : List (Addr × Obj)}
theorem max3_ff (hh : A.handled = none) (F : Fr h₀ L s.heap m) (N : News h₀ L s.heap news)
    (h : ∀ h' tk q, Fr h₀ L h' m → News h₀ L h' news → Q (.float (mx3 x y z) q) { s with heap := h', toks := tk }) :
    wpAny (model prog w) A (call (.builtin "max") [.float x t, .float y u, .float z v]) Q E s := by
  have hn : ∀ d ∈ #[Value.float x t, Value.float y u, Value.float z v], NumV d := by simp [NumV.float]
  have hT : (s.heap.push { cls := .type "tuple", data := .seq #[.float x t, .float y u, .float z v] }).IsTuple s.heap.objs.size #[.float x t, .float y u, .float z v] := ⟨_, Heap.get?_push_size _ rfl, rfl, 0, rfl⟩
  have hsz : (s.heap.push { cls := .type "tuple", data := .seq #[.float x t, .float y u, .float z v] }).objs.size = s.heap.objs.size + 1 := Heap.size_push ..
  refine call_max_three (wpAny_pyIter_tuple hT ⟨_, [_, s.heap.objs.size], [_], _, _, _, _, rfl, Walks.tuple (A := A.in1) hh _ s.heap.objs.size (by rw [hsz]; exact Nat.ne_of_lt (Nat.lt_succ_self _)) _, ⟨⟨_, Heap.get?_push_size _ rfl, rfl, rfl⟩, hT.push _⟩, fun d hd => ?_, by simp, cmpOf_gt _ hn, fun r h' tk hP hk => ?_⟩)
  · show d < ((s.heap.push _).push _).objs.size
    rw [Heap.size_push, hsz]
    simp only [List.mem_cons, List.not_mem_nil, or_false] at hd
    rcases hd with rfl | rfl
    · rw [hsz]; exact Nat.lt_succ_self _
    · exact Nat.lt_succ_of_lt (Nat.lt_succ_self _)
  · have hold : ∀ d o, s.heap.get? d = some o → h'.get? d = some o := fun d o e => by
      refine hk d o (fun hm => ?_) (Heap.get?_push_of_some _ (Heap.get?_push_of_some _ e))
      have e1 := List.mem_singleton.mp hm
      have := Heap.lt_size e
      rw [e1, hsz] at this
      exact Nat.lt_irrefl _ (Nat.lt_of_succ_lt this)
    have key := fun q => h h' tk q (F.grownK hold) (N.grown hold)
    have hx : ∃ q, r = .float (mx3 x y z) q := by
      unfold mx3 ltF
      simp only [List.size_toArray, List.length_cons, List.length_nil, argBest, Array.getD_eq_getD_getElem?] at hP
      by_cases c1 : (Float64.cmp x y == some Ordering.lt) = true <;> by_cases c2 : (Float64.cmp y z == some Ordering.lt) = true <;> by_cases c3 : (Float64.cmp x z == some Ordering.lt) = true <;> simp [ltV, c1, c2, c3] at hP ⊢ <;> exact ⟨_, hP.symm⟩
    obtain ⟨q, rfl⟩ := hx
    exact key q
theorem min3_ff (hh : A.handled = none) (F : Fr h₀ L s.heap m) (N : News h₀ L s.heap news)
    (h : ∀ h' tk q, Fr h₀ L h' m → News h₀ L h' news → Q (.float (mn3 x y z) q) { s with heap := h', toks := tk }) :
    wpAny (model prog w) A (call (.builtin "min") [.float x t, .float y u, .float z v]) Q E s := by
  have hn : ∀ d ∈ #[Value.float x t, Value.float y u, Value.float z v], NumV d := by simp [NumV.float]
  have hT : (s.heap.push { cls := .type "tuple", data := .seq #[.float x t, .float y u, .float z v] }).IsTuple s.heap.objs.size #[.float x t, .float y u, .float z v] := ⟨_, Heap.get?_push_size _ rfl, rfl, 0, rfl⟩
  have hsz : (s.heap.push { cls := .type "tuple", data := .seq #[.float x t, .float y u, .float z v] }).objs.size = s.heap.objs.size + 1 := Heap.size_push ..
  refine call_min_three (wpAny_pyIter_tuple hT ⟨_, [_, s.heap.objs.size], [_], _, _, _, _, rfl, Walks.tuple (A := A.in1) hh _ s.heap.objs.size (by rw [hsz]; exact Nat.ne_of_lt (Nat.lt_succ_self _)) _, ⟨⟨_, Heap.get?_push_size _ rfl, rfl, rfl⟩, hT.push _⟩, fun d hd => ?_, by simp, cmpOf_lt _ hn, fun r h' tk hP hk => ?_⟩)
  · show d < ((s.heap.push _).push _).objs.size
    rw [Heap.size_push, hsz]
    simp only [List.mem_cons, List.not_mem_nil, or_false] at hd
    rcases hd with rfl | rfl
    · rw [hsz]; exact Nat.lt_succ_self _
    · exact Nat.lt_succ_of_lt (Nat.lt_succ_self _)
  · have hold : ∀ d o, s.heap.get? d = some o → h'.get? d = some o := fun d o e => by
      refine hk d o (fun hm => ?_) (Heap.get?_push_of_some _ (Heap.get?_push_of_some _ e))
      have e1 := List.mem_singleton.mp hm
      have := Heap.lt_size e
      rw [e1, hsz] at this
      exact Nat.lt_irrefl _ (Nat.lt_of_succ_lt this)
    have key := fun q => h h' tk q (F.grownK hold) (N.grown hold)
    have hx : ∃ q, r = .float (mn3 x y z) q := by
      unfold mn3 ltF
      simp only [List.size_toArray, List.length_cons, List.length_nil, argBest, Array.getD_eq_getD_getElem?] at hP
      by_cases c1 : (Float64.cmp y x == some Ordering.lt) = true <;> by_cases c2 : (Float64.cmp z y == some Ordering.lt) = true <;> by_cases c3 : (Float64.cmp z x == some Ordering.lt) = true <;> simp [ltV, c1, c2, c3] at hP ⊢ <;> exact ⟨_, hP.symm⟩
    obtain ⟨q, rfl⟩ := hx
    exact key q
end
end Mine

namespace Mine
open PySem.Float64
theorem ltF_iff {x y : UInt64} (hx : Fi x) (hy : Fi y) : ltF x y = decide (val x < val y) := lt_iff hx hy
theorem mx3_spec {r g b : UInt64} (fr : Fi r) (fg : Fi g) (fb : Fi b) : Fi (mx3 r g b) ∧ val r ≤ val (mx3 r g b) ∧ val g ≤ val (mx3 r g b) ∧ val b ≤ val (mx3 r g b) ∧
    (val (mx3 r g b) = val r ∨ val (mx3 r g b) = val g ∨ val (mx3 r g b) = val b) := by
  unfold mx3
  rw [ltF_iff fr fg, ltF_iff fg fb, ltF_iff fr fb]
  simp only [decide_eq_true_eq]
  split <;> split
  · exact ⟨fb, by lia, by lia, by lia, .inr (.inr rfl)⟩
  · exact ⟨fg, by lia, by lia, by lia, .inr (.inl rfl)⟩
  · exact ⟨fb, by lia, by lia, by lia, .inr (.inr rfl)⟩
  · exact ⟨fr, by lia, by lia, by lia, .inl rfl⟩
theorem mn3_spec {r g b : UInt64} (fr : Fi r) (fg : Fi g) (fb : Fi b) : Fi (mn3 r g b) ∧ val (mn3 r g b) ≤ val r ∧ val (mn3 r g b) ≤ val g ∧ val (mn3 r g b) ≤ val b ∧
    (val (mn3 r g b) = val r ∨ val (mn3 r g b) = val g ∨ val (mn3 r g b) = val b) := by
  unfold mn3
  rw [ltF_iff fg fr, ltF_iff fb fg, ltF_iff fb fr]
  simp only [decide_eq_true_eq]
  split <;> split
  · exact ⟨fb, by lia, by lia, by lia, .inr (.inr rfl)⟩
  · exact ⟨fg, by lia, by lia, by lia, .inr (.inl rfl)⟩
  · exact ⟨fb, by lia, by lia, by lia, .inr (.inr rfl)⟩
  · exact ⟨fr, by lia, by lia, by lia, .inl rfl⟩
theorem six_bounds {g CR CG CB : Int} (h : Six g CR CG CB) : (-(10000 * uE) ≤ CR ∧ CR ≤ uU + 10000 * uE) ∧ (-(10000 * uE) ≤ CG ∧ CG ≤ uU + 10000 * uE) ∧ (-(10000 * uE) ≤ CB ∧ CB ≤ uU + 10000 * uE) ∧
    (uU - 10000 * uE ≤ CR ∨ uU - 10000 * uE ≤ CG ∨ uU - 10000 * uE ≤ CB) ∧ (CR ≤ 10000 * uE ∨ CG ≤ 10000 * uE ∨ CB ≤ 10000 * uE) := by
  have hE := uE_pos
  have hUE := uU_eq
  unfold Six Nr at h
  rcases h with ⟨⟨a1, a2⟩, ⟨b1, b2⟩, ⟨c1, c2⟩, d1, d2⟩ | ⟨⟨a1, a2⟩, ⟨b1, b2⟩, ⟨c1, c2⟩, d1, d2⟩ | ⟨⟨a1, a2⟩, ⟨b1, b2⟩, ⟨c1, c2⟩, d1, d2⟩ | ⟨⟨a1, a2⟩, ⟨b1, b2⟩, ⟨c1, c2⟩, d1, d2⟩ | ⟨⟨a1, a2⟩, ⟨b1, b2⟩, ⟨c1, c2⟩, d1, d2⟩ | ⟨⟨a1, a2⟩, ⟨b1, b2⟩, ⟨c1, c2⟩, d1, d2⟩ <;> refine ⟨by lia, by lia, by lia, by lia, by lia⟩
/-- A channel: its worth and its share. -/
structure Chan (M D : Int) (x : UInt64) (C : Int) : Prop where
  f : Fi x
  lo : M * uU + D * C - 1000 * uE ≤ 64 * val x
  hi : 64 * val x ≤ M * uU + D * C + 1000 * uE
theorem le_of_D {D z k : Int} (hD : 1 ≤ D) (hk : 0 ≤ k) (h : D * z ≤ k) : z ≤ k := by
  rcases (show z ≤ 0 ∨ 0 ≤ z by lia) with c | c
  · lia
  · have := Int.mul_le_mul_of_nonneg_right hD c
    lia
theorem mul_le_D {D a b : Int} (hD : 0 ≤ D) (h : a ≤ b) : D * a ≤ D * b := Int.mul_le_mul_of_nonneg_left h hD
/-- The greatest and the least channel, and their range. -/
theorem range_spec {r g b : UInt64} {M D g0 CR CG CB : Int} (M0 : 0 ≤ M) (D1 : 1 ≤ D) (MD : M + D ≤ 64) (sx : Six g0 CR CG CB) (cr : Chan M D r CR) (cg : Chan M D g CG) (cb : Chan M D b CB) :
    Fi (rngF r g b) ∧ D * uU - 1500000 * uE ≤ 64 * val (rngF r g b) ∧ 64 * val (rngF r g b) ≤ D * uU + 1500000 * uE ∧
    val (mx3 r g b) - val (mn3 r g b) - uE ≤ val (rngF r g b) ∧ val (rngF r g b) ≤ val (mx3 r g b) - val (mn3 r g b) + uE ∧
    M * uU + D * uU - 700000 * uE ≤ 64 * val (mx3 r g b) ∧ 64 * val (mx3 r g b) ≤ M * uU + D * uU + 700000 * uE ∧
    M * uU - 700000 * uE ≤ 64 * val (mn3 r g b) ∧ 64 * val (mn3 r g b) ≤ M * uU + 700000 * uE := by
  have hE := uE_pos
  have hUE := uU_eq
  have hU := uU_pos
  obtain ⟨⟨R1, R2⟩, ⟨G1, G2⟩, ⟨B1, B2⟩, top, low⟩ := six_bounds sx
  obtain ⟨fr, r1, r2⟩ := cr
  obtain ⟨fg, g1, g2⟩ := cg
  obtain ⟨fb, b1, b2⟩ := cb
  obtain ⟨x1, x2, x3, x4, x5⟩ := mx3_spec fr fg fb
  obtain ⟨n1, n2, n3, n4, n5⟩ := mn3_spec fr fg fb
  have D0 : 0 ≤ D := by lia
  have eU : ∀ k : Int, D * (uU + k * uE) = D * uU + k * (D * uE) := fun k => by rw [Int.mul_add, Int.mul_left_comm]
  have eM : ∀ k : Int, D * (uU - k * uE) = D * uU - k * (D * uE) := fun k => by rw [Int.mul_sub, Int.mul_left_comm]
  have e0 : ∀ k : Int, D * (k * uE) = k * (D * uE) := fun k => by rw [Int.mul_left_comm]
  have e1 : ∀ k : Int, D * (-(k * uE)) = -(k * (D * uE)) := fun k => by rw [Int.mul_neg, Int.mul_left_comm]
  have hDE := mul_bnd (a := D) (b := uE) (A := 64) (B := uE) (by lia) (by lia) (by lia) (by lia)
  have hDE0 := Int.mul_nonneg D0 (Int.le_of_lt hE)
  have hM := mul_bnd (a := M) (b := uU) (A := 64) (B := uU) (by lia) (by lia) (by lia) (by lia)
  have hM0 := Int.mul_nonneg M0 (Int.le_of_lt hU)
  have hDU := mul_bnd (a := D) (b := uU) (A := 64) (B := uU) (by lia) (by lia) (by lia) (by lia)
  have pR1 := mul_le_D D0 R1
  have pR2 := mul_le_D D0 R2
  have pG1 := mul_le_D D0 G1
  have pG2 := mul_le_D D0 G2
  have pB1 := mul_le_D D0 B1
  have pB2 := mul_le_D D0 B2
  rw [e1] at pR1 pG1 pB1
  rw [eU] at pR2 pG2 pB2
  have htop : D * uU - 10000 * (D * uE) ≤ D * CR ∨ D * uU - 10000 * (D * uE) ≤ D * CG ∨ D * uU - 10000 * (D * uE) ≤ D * CB := by
    rw [← eM]
    rcases top with h | h | h
    · exact .inl (mul_le_D D0 h)
    · exact .inr (.inl (mul_le_D D0 h))
    · exact .inr (.inr (mul_le_D D0 h))
  have hlow : D * CR ≤ 10000 * (D * uE) ∨ D * CG ≤ 10000 * (D * uE) ∨ D * CB ≤ 10000 * (D * uE) := by
    rw [← e0]
    rcases low with h | h | h
    · exact .inl (mul_le_D D0 h)
    · exact .inr (.inl (mul_le_D D0 h))
    · exact .inr (.inr (mul_le_D D0 h))
  clear eU eM e0 e1 R1 R2 G1 G2 B1 B2 top low sx
  generalize D * CR = PR at *
  generalize D * CG = PG at *
  generalize D * CB = PB at *
  generalize D * uE = PE at *
  generalize D * uU = PU at *
  generalize M * uU = MU at *
  have v1 : MU + PU - 700000 * uE ≤ 64 * val (mx3 r g b) ∧ 64 * val (mx3 r g b) ≤ MU + PU + 700000 * uE := by
    clear n1 n2 n3 n4 n5 hlow
    constructor
    · rcases htop with h | h | h <;> lia
    · rcases x5 with h | h | h <;> lia
  have v2 : MU - 700000 * uE ≤ 64 * val (mn3 r g b) ∧ 64 * val (mn3 r g b) ≤ MU + 700000 * uE := by
    clear x1 x2 x3 x4 x5 htop
    constructor
    · rcases n5 with h | h | h <;> lia
    · rcases hlow with h | h | h <;> lia
  clear x2 x3 x4 x5 n2 n3 n4 n5 htop hlow
  have s := sub_near x1 n1 (by lia) (by lia)
  unfold rngF
  refine ⟨s.1, by lia, by lia, by lia, by lia, by lia, by lia, by lia, by lia⟩
/-- The way of one channel from the greatest, in ranges. -/
theorem off_spec {r g b x : UInt64} {M D g0 CR CG CB C : Int} (M0 : 0 ≤ M) (D1 : 1 ≤ D) (MD : M + D ≤ 64) (sx : Six g0 CR CG CB) (cr : Chan M D r CR) (cg : Chan M D g CG) (cb : Chan M D b CB) (cx : Chan M D x C)
    (hx1 : val (mn3 r g b) ≤ val x) (hx2 : val x ≤ val (mx3 r g b)) :
    Fi (offF r g b x) ∧ uU - C - 4000000 * uE ≤ val (offF r g b x) ∧ val (offF r g b x) ≤ uU - C + 4000000 * uE ∧ -(300 * uE) ≤ val (offF r g b x) ∧ val (offF r g b x) ≤ uU + 300 * uE := by
  have hE := uE_pos
  have hUE := uU_eq
  have hU := uU_pos
  obtain ⟨g1, g2, g3, g4, g5, g6, g7, g8, g9⟩ := range_spec M0 D1 MD sx cr cg cb
  have x1 := (mx3_spec cr.f cg.f cb.f).1
  obtain ⟨fx, c1, c2⟩ := cx
  have D0 : 0 ≤ D := by lia
  have hM := mul_bnd (a := M) (b := uU) (A := 64) (B := uU) (by lia) (by lia) (by lia) (by lia)
  have hDU := mul_bnd (a := D) (b := uU) (A := 64) (B := uU) (by lia) (by lia) (by lia) (by lia)
  have hDU1 := Int.mul_le_mul_of_nonneg_right D1 (Int.le_of_lt hU)
  rw [Int.one_mul] at hDU1
  obtain ⟨n1, n2, n3⟩ := sub_near x1 fx (by lia) (by lia)
  have hoff : offF r g b x = Float64.div (Float64.sub (mx3 r g b) x) (rngF r g b) := rfl
  generalize hn : Float64.sub (mx3 r g b) x = n at *
  generalize hR : rngF r g b = R at *
  generalize val (mx3 r g b) = V at *
  generalize val (mn3 r g b) = v at *
  have hR0 : uU ≤ 128 * val R := by lia
  have q0 := div_near n1 g1 (by lia) (by
    have e : (2 : Nat) ^ 1080 = 64 * 2 ^ 1074 := by decide +kernel
    rw [e, ← Nat.mul_assoc]
    exact Nat.mul_le_mul_right _ (by lia))
  obtain ⟨q1, q2, q3⟩ := q0
  rw [← hoff] at q1 q2 q3
  generalize offF r g b x = q at *
  have hRp : 0 < val R := by lia
  have z1 : val R * val q ≤ val R * (uU + 300 * uE) := by
    have h1 : val n * uU ≤ (val R + 2 * uE) * uU := Int.mul_le_mul_of_nonneg_right (by lia) (Int.le_of_lt hU)
    have h2 : uE * uU ≤ uE * (128 * val R) := Int.mul_le_mul_of_nonneg_left hR0 (Int.le_of_lt hE)
    have e1 : (val R + 2 * uE) * uU = val R * uU + 2 * (uE * uU) := by rw [Int.add_mul, Int.mul_assoc]
    have e2 : uE * (128 * val R) = 128 * (val R * uE) := by rw [Int.mul_left_comm, Int.mul_comm uE]
    have e3 : val R * (uU + 300 * uE) = val R * uU + 300 * (val R * uE) := by rw [Int.mul_add, Int.mul_left_comm]
    rw [e3]
    rw [e1] at h1
    rw [e2] at h2
    have h3 := Int.mul_nonneg (Int.le_of_lt hRp) (Int.le_of_lt hE)
    lia
  have z2 : val R * (-(300 * uE)) ≤ val R * val q := by
    have h1 : (-uE) * uU ≤ val n * uU := Int.mul_le_mul_of_nonneg_right (by lia) (Int.le_of_lt hU)
    have h2 : uE * uU ≤ uE * (128 * val R) := Int.mul_le_mul_of_nonneg_left hR0 (Int.le_of_lt hE)
    have e2 : uE * (128 * val R) = 128 * (val R * uE) := by rw [Int.mul_left_comm, Int.mul_comm uE]
    have e3 : val R * (-(300 * uE)) = -(300 * (val R * uE)) := by rw [Int.mul_neg, Int.mul_left_comm]
    rw [e3]
    rw [Int.neg_mul] at h1
    rw [e2] at h2
    have h3 := Int.mul_nonneg (Int.le_of_lt hRp) (Int.le_of_lt hE)
    lia
  have y1 := Int.le_of_mul_le_mul_left z1 hRp
  have y2 := Int.le_of_mul_le_mul_left z2 hRp
  clear z1 z2
  -- D (q - (U - C)) is small
  have hη := mul_bnd (a := val q) (b := 64 * val R - D * uU) (A := 2 * uU) (B := 1500000 * uE) (by lia) (by lia) (by lia) (by lia)
  have eη : val q * (64 * val R - D * uU) = 64 * (val R * val q) - uU * (D * val q) := by
    rw [Int.mul_sub, Int.mul_left_comm, Int.mul_comm (val q) (val R)]
    congr 1
    rw [Int.mul_left_comm, Int.mul_comm (val q) uU, ← Int.mul_assoc, Int.mul_comm D uU, Int.mul_assoc]
  have eK : 2 * uU * (1500000 * uE) = 3000000 * (uU * uE) := by
    rw [Int.mul_assoc, Int.mul_left_comm uU, ← Int.mul_assoc]
    rfl
  rw [eη, eK] at hη
  have hRE : val R * uE ≤ 2 * (uU * uE) := by
    have : val R * uE ≤ (2 * uU) * uE := Int.mul_le_mul_of_nonneg_right (by lia) (Int.le_of_lt hE)
    rw [Int.mul_assoc] at this
    exact this
  have hn1 : uU * (D * uU - D * C - 702000 * uE) ≤ uU * (64 * val n) := Int.mul_le_mul_of_nonneg_left (by lia) (Int.le_of_lt hU)
  have hn2 : uU * (64 * val n) ≤ uU * (D * uU - D * C + 702000 * uE) := Int.mul_le_mul_of_nonneg_left (by lia) (Int.le_of_lt hU)
  have en : uU * (64 * val n) = 64 * (val n * uU) := by rw [Int.mul_left_comm, Int.mul_comm uU]
  have e4 : uU * (D * uU - D * C - 702000 * uE) = uU * (D * uU - D * C) - 702000 * (uU * uE) := by rw [Int.mul_sub, Int.mul_left_comm uU 702000]
  have e5 : uU * (D * uU - D * C + 702000 * uE) = uU * (D * uU - D * C) + 702000 * (uU * uE) := by rw [Int.mul_add, Int.mul_left_comm uU 702000]
  rw [en] at hn1 hn2
  rw [e4] at hn1
  rw [e5] at hn2
  have eC : D * (val q - (uU - C)) = D * val q - (D * uU - D * C) := by rw [Int.mul_sub, Int.mul_sub]
  have w1 : uU * (D * val q) - uU * (D * uU - D * C) ≤ 4000000 * (uU * uE) := by lia
  have w2 : -(4000000 * (uU * uE)) ≤ uU * (D * val q) - uU * (D * uU - D * C) := by lia
  have w3 : D * (val q - (uU - C)) ≤ 4000000 * uE := le_of_U (by rw [eC, Int.mul_sub uU, Int.mul_left_comm uU 4000000]; exact w1)
  have w4 : D * (-(val q - (uU - C))) ≤ 4000000 * uE := le_of_U (by rw [Int.mul_neg, Int.mul_neg, eC, Int.mul_sub uU, Int.mul_left_comm uU 4000000]; lia)
  have w5 := le_of_D D1 (by lia) w3
  have w6 := le_of_D D1 (by lia) w4
  exact ⟨q1, by lia, by lia, y2, y1⟩
end Mine

namespace Mine
open PySem.Float64
def twoF : UInt64 := 4611686018427387904
def fourF : UInt64 := 4616189618054758400
theorem two_val : Fi twoF ∧ val twoF = 2 * uU := ⟨fi_of (by decide +kernel), by decide +kernel⟩
theorem four_val : Fi fourF ∧ val fourF = 4 * uU := ⟨fi_of (by decide +kernel), by decide +kernel⟩
/-- From the worth of the greatest to its share. -/
theorem top_share {x : UInt64} {M D C V : Int} (D1 : 1 ≤ D) (cx : Chan M D x C) (h : val x = V) (hV : M * uU + D * uU - 700000 * uE ≤ 64 * V) : uU - 701000 * uE ≤ C := by
  have hE := uE_pos
  obtain ⟨fx, c1, c2⟩ := cx
  have e : D * (uU - C) = D * uU - D * C := Int.mul_sub _ _ _
  have := le_of_D (z := uU - C) (k := 701000 * uE) D1 (by lia) (by rw [e]; lia)
  lia
theorem six_r {g0 CR CG CB v : Int} (sx : Six g0 CR CG CB) (top : uU - 701000 * uE ≤ CR) (e1 : CG - CB - 9000000 * uE ≤ v) (e2 : v ≤ CG - CB + 9000000 * uE) : (6 * g0 - 10000000 * uE ≤ v ∧ v ≤ 6 * g0 + 10000000 * uE) ∨ (6 * g0 - 6 * uU - 10000000 * uE ≤ v ∧ v ≤ 6 * g0 - 6 * uU + 10000000 * uE) := by
  have hE := uE_pos
  have hUE := uU_eq
  unfold Six Nr at sx
  rcases sx with ⟨⟨_, _⟩, ⟨_, _⟩, ⟨_, _⟩, _, _⟩ | ⟨⟨_, _⟩, ⟨_, _⟩, ⟨_, _⟩, _, _⟩ | ⟨⟨_, _⟩, ⟨_, _⟩, ⟨_, _⟩, _, _⟩ | ⟨⟨_, _⟩, ⟨_, _⟩, ⟨_, _⟩, _, _⟩ | ⟨⟨_, _⟩, ⟨_, _⟩, ⟨_, _⟩, _, _⟩ | ⟨⟨_, _⟩, ⟨_, _⟩, ⟨_, _⟩, _, _⟩ <;> lia
theorem six_g {g0 CR CG CB v : Int} (sx : Six g0 CR CG CB) (top : uU - 701000 * uE ≤ CG) (e1 : 2 * uU + CB - CR - 9000000 * uE ≤ v) (e2 : v ≤ 2 * uU + CB - CR + 9000000 * uE) : (6 * g0 - 10000000 * uE ≤ v ∧ v ≤ 6 * g0 + 10000000 * uE) ∨ (6 * g0 - 6 * uU - 10000000 * uE ≤ v ∧ v ≤ 6 * g0 - 6 * uU + 10000000 * uE) := by
  have hE := uE_pos
  have hUE := uU_eq
  unfold Six Nr at sx
  rcases sx with ⟨⟨_, _⟩, ⟨_, _⟩, ⟨_, _⟩, _, _⟩ | ⟨⟨_, _⟩, ⟨_, _⟩, ⟨_, _⟩, _, _⟩ | ⟨⟨_, _⟩, ⟨_, _⟩, ⟨_, _⟩, _, _⟩ | ⟨⟨_, _⟩, ⟨_, _⟩, ⟨_, _⟩, _, _⟩ | ⟨⟨_, _⟩, ⟨_, _⟩, ⟨_, _⟩, _, _⟩ | ⟨⟨_, _⟩, ⟨_, _⟩, ⟨_, _⟩, _, _⟩ <;> lia
theorem six_b {g0 CR CG CB v : Int} (sx : Six g0 CR CG CB) (top : uU - 701000 * uE ≤ CB) (e1 : 4 * uU + CR - CG - 9000000 * uE ≤ v) (e2 : v ≤ 4 * uU + CR - CG + 9000000 * uE) : (6 * g0 - 10000000 * uE ≤ v ∧ v ≤ 6 * g0 + 10000000 * uE) ∨ (6 * g0 - 6 * uU - 10000000 * uE ≤ v ∧ v ≤ 6 * g0 - 6 * uU + 10000000 * uE) := by
  have hE := uE_pos
  have hUE := uU_eq
  unfold Six Nr at sx
  rcases sx with ⟨⟨_, _⟩, ⟨_, _⟩, ⟨_, _⟩, _, _⟩ | ⟨⟨_, _⟩, ⟨_, _⟩, ⟨_, _⟩, _, _⟩ | ⟨⟨_, _⟩, ⟨_, _⟩, ⟨_, _⟩, _, _⟩ | ⟨⟨_, _⟩, ⟨_, _⟩, ⟨_, _⟩, _, _⟩ | ⟨⟨_, _⟩, ⟨_, _⟩, ⟨_, _⟩, _, _⟩ | ⟨⟨_, _⟩, ⟨_, _⟩, ⟨_, _⟩, _, _⟩ <;> lia
theorem hueH_spec {r g b : UInt64} {M D g0 CR CG CB : Int} (M0 : 0 ≤ M) (D1 : 1 ≤ D) (MD : M + D ≤ 64) (sx : Six g0 CR CG CB) (cr : Chan M D r CR) (cg : Chan M D g CG) (cb : Chan M D b CB) :
    Fi (hueH r g b) ∧ ((6 * g0 - 10000000 * uE ≤ val (hueH r g b) ∧ val (hueH r g b) ≤ 6 * g0 + 10000000 * uE) ∨ (6 * g0 - 6 * uU - 10000000 * uE ≤ val (hueH r g b) ∧ val (hueH r g b) ≤ 6 * g0 - 6 * uU + 10000000 * uE)) := by
  have hE := uE_pos
  have hUE := uU_eq
  have hU := uU_pos
  obtain ⟨x1, x2, x3, x4, x5⟩ := mx3_spec cr.f cg.f cb.f
  obtain ⟨n1, n2, n3, n4, n5⟩ := mn3_spec cr.f cg.f cb.f
  obtain ⟨_, _, _, _, _, g6, _, _, _⟩ := range_spec M0 D1 MD sx cr cg cb
  obtain ⟨fr, r1, r2, r3, r4⟩ := off_spec M0 D1 MD sx cr cg cb cr n2 x2
  obtain ⟨fg, g1, g2, g3, g4⟩ := off_spec M0 D1 MD sx cr cg cb cg n3 x3
  obtain ⟨fb, b1, b2, b3, b4⟩ := off_spec M0 D1 MD sx cr cg cb cb n4 x4
  have hv : hueH r g b = if (cmp r (mx3 r g b) == some Ordering.eq) = true then Float64.sub (offF r g b b) (offF r g b g)
      else if (cmp g (mx3 r g b) == some Ordering.eq) = true then Float64.sub (Float64.add twoF (offF r g b r)) (offF r g b b)
      else Float64.sub (Float64.add fourF (offF r g b g)) (offF r g b r) := rfl
  obtain ⟨t1, t2⟩ := two_val
  obtain ⟨f1, f2⟩ := four_val
  rw [hv, eq_iff cr.f x1, eq_iff cg.f x1]
  simp only [decide_eq_true_eq]
  have topR : val r = val (mx3 r g b) → _ := fun h => top_share D1 cr h g6
  have topG : val g = val (mx3 r g b) → _ := fun h => top_share D1 cg h g6
  have topB : val b = val (mx3 r g b) → _ := fun h => top_share D1 cb h g6
  generalize offF r g b r = qr at *
  generalize offF r g b g = qg at *
  generalize offF r g b b = qb at *
  generalize val (mx3 r g b) = V at *
  clear n1 n2 n3 n4 n5 x2 x3 x4 cr cg cb g6 hv
  split
  · rename_i h
    have := topR h
    obtain ⟨s1, s2, s3⟩ := sub_near fb fg (by lia) (by lia)
    refine ⟨s1, ?_⟩
    exact six_r sx this (by lia) (by lia)
  · rename_i hr
    split
    · rename_i h
      have := topG h
      obtain ⟨a1, a2, a3⟩ := add_near t1 fr (by lia) (by lia)
      obtain ⟨s1, s2, s3⟩ := sub_near a1 fb (by lia) (by lia)
      refine ⟨s1, ?_⟩
      exact six_g sx this (by lia) (by lia)
    · rename_i hg
      have := topB (by lia)
      obtain ⟨a1, a2, a3⟩ := add_near f1 fg (by lia) (by lia)
      obtain ⟨s1, s2, s3⟩ := sub_near a1 fr (by lia) (by lia)
      refine ⟨s1, ?_⟩
      exact six_b sx this (by lia) (by lia)
theorem sixth_near {x : UInt64} (hx : Fi x) (h1 : -(60 * uU) ≤ val x) (h2 : val x ≤ 60 * uU) : Fi (Float64.div x sixF) ∧ val x - 6 * uE ≤ 6 * val (Float64.div x sixF) ∧ 6 * val (Float64.div x sixF) ≤ val x + 6 * uE := by
  have hU := uU_pos
  obtain ⟨x1, x2⟩ := six_val
  obtain ⟨q1, q2, q3⟩ := div_near hx x1 (by lia) (by
    have e : (2 : Nat) ^ 1080 = 64 * 2 ^ 1074 := by decide +kernel
    rw [e, ← Nat.mul_assoc]
    exact Nat.mul_le_mul_right _ (by lia))
  rw [x2] at q2 q3
  have e1 : val x * uU - 6 * uU * val (Float64.div x sixF) = uU * (val x - 6 * val (Float64.div x sixF)) := by
    rw [Int.mul_sub, Int.mul_comm (val x), Int.mul_assoc, Int.mul_left_comm 6]
  have e2 : 6 * uU * uE = uU * (6 * uE) := by rw [Int.mul_assoc, Int.mul_left_comm]
  rw [e1, e2] at q2 q3
  rw [← Int.mul_neg] at q2
  have z1 := le_of_U q2
  have z2 := le_of_U q3
  exact ⟨q1, by lia, by lia⟩
def thirdF : UInt64 := 4599676419421066581
theorem third_val : Fi thirdF ∧ uU - 3 * uE ≤ 3 * val thirdF ∧ 3 * val thirdF ≤ uU + 3 * uE := ⟨fi_of (by decide +kernel), by decide +kernel, by decide +kernel⟩
/-- The hue that is told is the hue that was painted, up to whole turns. -/
theorem hue_spec {m1 m2 x : UInt64} {M D : Int} (sh : Shade m1 m2 M D) (fx : Fi x) (h1 : -uU ≤ val x) (h2 : val x ≤ 3 * uU) :
    Fi (hueF (vF m1 m2 (Float64.add x thirdF)) (vF m1 m2 x) (vF m1 m2 (Float64.sub x thirdF))) ∧
    -(2 * uE) ≤ val (hueF (vF m1 m2 (Float64.add x thirdF)) (vF m1 m2 x) (vF m1 m2 (Float64.sub x thirdF))) ∧ val (hueF (vF m1 m2 (Float64.add x thirdF)) (vF m1 m2 x) (vF m1 m2 (Float64.sub x thirdF))) ≤ uU + 2 * uE ∧
    (∃ j : Int, val x + j * uU - 3000000 * uE ≤ val (hueF (vF m1 m2 (Float64.add x thirdF)) (vF m1 m2 x) (vF m1 m2 (Float64.sub x thirdF))) ∧ val (hueF (vF m1 m2 (Float64.add x thirdF)) (vF m1 m2 x) (vF m1 m2 (Float64.sub x thirdF))) ≤ val x + j * uU + 3000000 * uE) ∧
    val (mn3 (vF m1 m2 (Float64.add x thirdF)) (vF m1 m2 x) (vF m1 m2 (Float64.sub x thirdF))) < val (mx3 (vF m1 m2 (Float64.add x thirdF)) (vF m1 m2 x) (vF m1 m2 (Float64.sub x thirdF))) ∧
    0 < val (mx3 (vF m1 m2 (Float64.add x thirdF)) (vF m1 m2 x) (vF m1 m2 (Float64.sub x thirdF))) ∧ 0 < val (rngF (vF m1 m2 (Float64.add x thirdF)) (vF m1 m2 x) (vF m1 m2 (Float64.sub x thirdF))) ∧
    Fi (vF m1 m2 (Float64.add x thirdF)) ∧ Fi (vF m1 m2 x) ∧ Fi (vF m1 m2 (Float64.sub x thirdF)) := by
  have hE := uE_pos
  have hUE := uU_eq
  have hU := uU_pos
  obtain ⟨o1, o2, o3⟩ := third_val
  obtain ⟨a1, a2, a3⟩ := add_near fx o1 (by lia) (by lia)
  obtain ⟨d1, d2, d3⟩ := sub_near fx o1 (by lia) (by lia)
  obtain ⟨r, CR, fr, rl, rh, ⟨jr, r1, r2⟩, sr, cr1, cr2⟩ := v_spec sh a1
  obtain ⟨g, CG, fg, gl, gh, ⟨jg, g1, g2⟩, sg, cg1, cg2⟩ := v_spec sh fx
  obtain ⟨b, CB, fb, bl, bh, ⟨jb, b1, b2⟩, sb, cb1, cb2⟩ := v_spec sh d1
  have sx := sextant (X := val x) (O := val thirdF) o2 o3 rl rh (jr := jr) (by lia) (by lia) gl gh (jg := jg) (by lia) (by lia) bl bh (jb := jb) (by lia) (by lia) sr sg sb
  have M0 := sh.M0
  have D1 := sh.D1
  have MD := sh.MD
  have hDU1 := Int.mul_le_mul_of_nonneg_right D1 (Int.le_of_lt hU)
  have hMU0 := Int.mul_nonneg M0 (Int.le_of_lt hU)
  rw [Int.one_mul] at hDU1
  obtain ⟨h1, h2⟩ := hueH_spec M0 D1 MD sx ⟨fr, cr1, cr2⟩ ⟨fg, cg1, cg2⟩ ⟨fb, cb1, cb2⟩
  obtain ⟨z1, z2, z3, z4, z5, z6, z7, z8, z9⟩ := range_spec M0 D1 MD sx ⟨fr, cr1, cr2⟩ ⟨fg, cg1, cg2⟩ ⟨fb, cb1, cb2⟩
  have hv : ∀ r g b, hueF r g b = (divmod (Float64.div (hueH r g b) sixF) one64).snd := fun _ _ _ => rfl
  rw [hv]
  generalize vF m1 m2 (Float64.add x thirdF) = cR at *
  generalize vF m1 m2 x = cG at *
  generalize vF m1 m2 (Float64.sub x thirdF) = cB at *
  obtain ⟨w1, w2, w3⟩ := sixth_near h1 (by lia) (by lia)
  obtain ⟨m1, m2, m3, j, m4, m5⟩ := mod_near w1
  refine ⟨m1, m2, m3, ?_, by lia, by lia, by lia, fr, fg, fb⟩
  rcases h2 with ⟨h2, h3⟩ | ⟨h2, h3⟩
  · refine ⟨j + jg, ?_, ?_⟩ <;> rw [Int.add_mul] <;> lia
  · refine ⟨j + jg - 1, ?_, ?_⟩ <;> rw [Int.sub_mul, Int.add_mul] <;> lia
end Mine

namespace Mine
open PySem.Float64
def lF (i : Int) : UInt64 := Float64.div (Float64.ofInt i) 4625196817309499392
def qF (i : Int) : UInt64 := Float64.div (Float64.ofInt i) 4616189618054758400
def shadeOk (l q : UInt64) (M D : Int) : Bool :=
  isFinite (m1F l q) && isFinite (m2F l q) && isFinite (Float64.sub (m2F l q) (m1F l q)) && decide (64 * val (m1F l q) = M * uU) && decide (64 * val (m2F l q) = (M + D) * uU) && decide (64 * val (Float64.sub (m2F l q) (m1F l q)) = D * uU) && decide (0 ≤ M) && decide (1 ≤ D) && decide (M + D ≤ 64)
    && (cmp q 0 == some Ordering.eq) == false
def shM (i j : Int) : Int := if i ≤ 8 then i * (4 - j) else 4 * i - 16 * j + i * j
def shD (i j : Int) : Int := if i ≤ 8 then 2 * i * j else 2 * j * (16 - i)
theorem shades : ∀ i : Fin 15, ∀ j : Fin 4, shadeOk (lF (i.val + 1 : Nat)) (qF (j.val + 1 : Nat)) (shM (i.val + 1 : Nat) (j.val + 1 : Nat)) (shD (i.val + 1 : Nat) (j.val + 1 : Nat)) = true := by decide +kernel
theorem shade_of {i j : Int} (h1 : 1 ≤ i) (h2 : i ≤ 15) (h3 : 1 ≤ j) (h4 : j ≤ 4) :
    Shade (m1F (lF i) (qF j)) (m2F (lF i) (qF j)) (shM i j) (shD i j) ∧ (cmp (qF j) 0 == some Ordering.eq) = false := by
  have h := shades ⟨(i - 1).toNat, by lia⟩ ⟨(j - 1).toNat, by lia⟩
  dsimp only at h
  rw [show (((i - 1).toNat + 1 : Nat) : Int) = i by lia, show (((j - 1).toNat + 1 : Nat) : Int) = j by lia] at h
  unfold shadeOk at h
  simp only [Bool.and_eq_true, decide_eq_true_eq, beq_iff_eq] at h
  obtain ⟨⟨⟨⟨⟨⟨⟨⟨⟨a1, a2⟩, a3⟩, a4⟩, a5⟩, a6⟩, a7⟩, a8⟩, a9⟩, a10⟩ := h
  exact ⟨⟨fi_of a1, fi_of a2, fi_of a3, a4, a5, a6, a7, a8, a9⟩, a10⟩
theorem widths : ∀ i : Fin 31, isFinite (ofInt (i.val : Nat)) = true ∧ val (ofInt (i.val : Nat)) = (i.val : Int) * uU := by decide +kernel
theorem width_of {w : Int} (h1 : 0 ≤ w) (h2 : w ≤ 30) : Fi (ofInt w) ∧ val (ofInt w) = w * uU := by
  have h := widths ⟨w.toNat, by lia⟩
  dsimp only at h
  rw [show ((w.toNat : Nat) : Int) = w by lia] at h
  exact ⟨fi_of h.1, h.2⟩
theorem trunc_spec {y : UInt64} {N : Int} (hy : Fi y) (h0 : 0 < val y) (hN : 0 ≤ N) (h1 : N * uU ≤ val y) (h2 : val y < N * uU + uU) : Flt.toInt Float64.truncOf y = N := by
  obtain ⟨a, m, e, hd⟩ := hy
  have hge := decode_ge hd
  have ha : a = false := by
    cases a
    · rfl
    · rw [val_eq hd] at h0
      unfold sgn at h0
      simp only [if_true] at h0
      lia
  subst ha
  have hval : val y = ((m * 2 ^ (e + 1074).toNat : Nat) : Int) := by rw [val_eq hd]; rfl
  have hU2 : uU = ((2 ^ 1074 : Nat) : Int) := by decide +kernel
  unfold Flt.toInt
  rw [hd]
  show truncOf false m e = N
  unfold truncOf floorOf
  simp only [Bool.false_eq_true, if_false]
  have hs : sgn false m = (m : Int) := rfl
  rw [hs]
  obtain ⟨n, rfl⟩ := Int.eq_ofNat_of_zero_le hN
  rw [hval, hU2] at h1 h2
  have h1' : n * 2 ^ 1074 ≤ m * 2 ^ (e + 1074).toNat := by exact_mod_cast h1
  have h2' : m * 2 ^ (e + 1074).toNat < (n + 1) * 2 ^ 1074 := by
    rw [Nat.add_mul, Nat.one_mul]; exact_mod_cast h2
  clear h1 h2 hval h0 hU2
  split
  · rename_i he
    have e1 : (e + 1074).toNat = e.toNat + 1074 := by lia
    rw [e1, Nat.pow_add, ← Nat.mul_assoc] at h1' h2'
    have p : 0 < 2 ^ 1074 := Nat.two_pow_pos _
    have q1 := Nat.le_of_mul_le_mul_right h1' p
    have q2 := Nat.lt_of_mul_lt_mul_right h2'
    have : m * 2 ^ e.toNat = n := by lia
    rw [← this]
    simp
  · rename_i he
    have e1 : (1074 : Nat) = (-e).toNat + (e + 1074).toNat := by lia
    generalize hk : (e + 1074).toNat = k at *
    generalize hj : (-e).toNat = j at *
    rw [e1, Nat.pow_add, ← Nat.mul_assoc] at h1' h2'
    have p : 0 < 2 ^ k := Nat.two_pow_pos _
    have q1 := Nat.le_of_mul_le_mul_right h1' p
    have q2 := Nat.lt_of_mul_lt_mul_right h2'
    have pj : 0 < 2 ^ j := Nat.two_pow_pos _
    have : m / 2 ^ j = n := by
      apply Nat.div_eq_of_lt_le
      · exact q1
      · exact q2
    rw [← this, Int.fdiv_eq_ediv_of_nonneg _ (by exact_mod_cast Nat.zero_le _)]
    simp
def hueOf (a w i j : Int) : UInt64 :=
  let x := ofFrac (decide (a < 0) != decide (w < 0)) a.natAbs w.natAbs
  hueF (vF (m1F (lF i) (qF j)) (m2F (lF i) (qF j)) (Float64.add x thirdF)) (vF (m1F (lF i) (qF j)) (m2F (lF i) (qF j)) x) (vF (m1F (lF i) (qF j)) (m2F (lF i) (qF j)) (Float64.sub x thirdF))
theorem stop_pre {a w i j : Int} (h0 : 0 ≤ a) (h1 : a < 2 * w) (h2 : 12 ≤ w) (h3 : w ≤ 30) (hi : 1 ≤ i) (hi' : i ≤ 15) (hj : 1 ≤ j) (hj' : j ≤ 4) {x r g b : UInt64} (hx : x = ofFrac (decide (a < 0) != decide (w < 0)) a.natAbs w.natAbs)
    (hr : r = vF (m1F (lF i) (qF j)) (m2F (lF i) (qF j)) (Float64.add x thirdF)) (hg : g = vF (m1F (lF i) (qF j)) (m2F (lF i) (qF j)) x) (hb : b = vF (m1F (lF i) (qF j)) (m2F (lF i) (qF j)) (Float64.sub x thirdF)) :
    (cmp (mn3 r g b) (mx3 r g b) == some Ordering.eq) = false ∧ ¬isZero (mx3 r g b) = true ∧ ¬isZero (Float64.sub (mx3 r g b) (mn3 r g b)) = true := by
  have hE := uE_pos
  have hUE := uU_eq
  have hU := uU_pos
  obtain ⟨sh, _⟩ := shade_of hi hi' hj hj'
  have ha : (a.natAbs : Int) = a := by lia
  have hw : (w.natAbs : Int) = w := by lia
  have hsg : (decide (a < 0) != decide (w < 0)) = false := by rw [decide_eq_false (by lia), decide_eq_false (by lia)]; rfl
  obtain ⟨f1, f2, f3⟩ := frac_near (a := a.natAbs) (w := w.natAbs) (by lia) (by
    have e : (2 : Nat) ^ 1080 = 64 * 2 ^ 1074 := by decide +kernel
    rw [e, ← Nat.mul_assoc]
    exact Nat.mul_le_mul_right _ (by lia)) _ hsg
  rw [ha, hw] at f2 f3
  rw [← hx] at f1 f2 f3
  have hau : 0 ≤ a * uU := Int.mul_nonneg h0 (Int.le_of_lt hU)
  have hau2 : a * uU ≤ (2 * w) * uU := Int.mul_le_mul_of_nonneg_right (by lia) (Int.le_of_lt hU)
  have hwp : 0 < w := by lia
  have h5 : w * uE ≤ w * uU := Int.mul_le_mul_of_nonneg_left (by lia) (by lia)
  have x1 : -uU ≤ val x := by
    refine Int.le_of_mul_le_mul_left (a := w) ?_ hwp
    rw [Int.mul_neg]
    lia
  have x2 : val x ≤ 3 * uU := by
    refine Int.le_of_mul_le_mul_left (a := w) ?_ hwp
    rw [Int.mul_assoc] at hau2
    rw [Int.mul_left_comm]
    lia
  obtain ⟨_, _, _, _, q1, q2, q3, g1, g2, g3⟩ := hue_spec sh f1 x1 x2
  rw [← hr, ← hg, ← hb] at q1 q2 q3
  rw [← hr] at g1
  rw [← hg] at g2
  rw [← hb] at g3
  refine ⟨?_, fun h => ?_, fun h => ?_⟩
  · rw [eq_iff (mn3_spec g1 g2 g3).1 (mx3_spec g1 g2 g3).1, decide_eq_false (by lia)]
  · have := (isZero_val h).2; lia
  · have := (isZero_val h).2
    unfold rngF at q3
    lia
theorem near_turn {w res X J : Int} (h1 : X + J * uU - 3000000 * uE ≤ res) (h2 : res ≤ X + J * uU + 3000000 * uE) (hw : 1 ≤ w) (hw2 : w ≤ 30) :
    w * X + (J * w) * uU - 90000000 * uE ≤ w * res ∧ w * res ≤ w * X + (J * w) * uU + 90000000 * uE := by
  have hE := uE_pos
  have e : w * (res - X - J * uU) = w * res - w * X - (J * w) * uU := by
    rw [Int.mul_sub, Int.mul_sub, Int.mul_comm J w, Int.mul_assoc]
  have := mul_bnd (a := w) (b := res - X - J * uU) (A := 30) (B := 3000000 * uE) (by lia) (by lia) (by lia) (by lia)
  rw [e] at this
  lia
theorem stop_spec {a w i j : Int} (h0 : 0 ≤ a) (h1 : a < 2 * w) (h2 : 12 ≤ w) (h3 : w ≤ 30) (hi : 1 ≤ i) (hi' : i ≤ 15) (hj : 1 ≤ j) (hj' : j ≤ 4) :
    Fi (Float64.add (Float64.mul (hueOf a w i j) (ofInt w)) halfF) ∧ (Flt.toInt Float64.truncOf (Float64.add (Float64.mul (hueOf a w i j) (ofInt w)) halfF)).fmod w = a.fmod w ∧
    0 ≤ Flt.toInt Float64.truncOf (Float64.add (Float64.mul (hueOf a w i j) (ofInt w)) halfF) ∧ Flt.toInt Float64.truncOf (Float64.add (Float64.mul (hueOf a w i j) (ofInt w)) halfF) ≤ 100 := by
  have hE := uE_pos
  have hUE := uU_eq
  have hU := uU_pos
  obtain ⟨w1, w2⟩ := width_of (w := w) (by lia) h3
  obtain ⟨sh, _⟩ := shade_of hi hi' hj hj'
  have ha : (a.natAbs : Int) = a := by lia
  have hw : (w.natAbs : Int) = w := by lia
  have hsg : (decide (a < 0) != decide (w < 0)) = false := by rw [decide_eq_false (by lia), decide_eq_false (by lia)]; rfl
  obtain ⟨f1, f2, f3⟩ := frac_near (a := a.natAbs) (w := w.natAbs) (by lia) (by
    have e : (2 : Nat) ^ 1080 = 64 * 2 ^ 1074 := by decide +kernel
    rw [e, ← Nat.mul_assoc]
    exact Nat.mul_le_mul_right _ (by lia)) _ hsg
  rw [ha, hw] at f2 f3
  have hx : ∀ k : Int, w * (k * uU) = (w * k) * uU := fun k => by rw [Int.mul_assoc]
  unfold hueOf
  dsimp only
  generalize ofFrac (decide (a < 0) != decide (w < 0)) a.natAbs w.natAbs = x at *
  have hau : 0 ≤ a * uU := Int.mul_nonneg h0 (Int.le_of_lt hU)
  have hau2 : a * uU ≤ (2 * w) * uU := Int.mul_le_mul_of_nonneg_right (by lia) (Int.le_of_lt hU)
  have hwp : 0 < w := by lia
  have x1 : -uU ≤ val x := by
    refine Int.le_of_mul_le_mul_left (a := w) ?_ hwp
    have h5 : w * uE ≤ w * uU := Int.mul_le_mul_of_nonneg_left (by lia) (by lia)
    rw [Int.mul_neg]
    lia
  have x2 : val x ≤ 3 * uU := by
    refine Int.le_of_mul_le_mul_left (a := w) ?_ hwp
    have h5 : w * uE ≤ w * uU := Int.mul_le_mul_of_nonneg_left (by lia) (by lia)
    rw [Int.mul_assoc] at hau2
    rw [Int.mul_left_comm]
    lia
  obtain ⟨p1, p2, p3, ⟨J, p4, p5⟩, _⟩ := hue_spec sh f1 x1 x2
  generalize hueF _ _ _ = res at *
  obtain ⟨t1, t2⟩ := near_turn p4 p5 (w := w) (by lia) h3
  have hmul : Fi (Float64.mul res (ofInt w)) ∧ w * val res - uE ≤ val (Float64.mul res (ofInt w)) ∧ val (Float64.mul res (ofInt w)) ≤ w * val res + uE := by
    obtain ⟨q1, q2, q3⟩ := mul_near p1 w1 (by
      have e : (2 * uU).natAbs * (32 * uU).natAbs = 2 ^ 1074 * 2 ^ 1080 := by decide +kernel
      rw [← e]
      have hwu : w * uU ≤ 30 * uU := Int.mul_le_mul_of_nonneg_right h3 (Int.le_of_lt hU)
      have hwu0 : 0 ≤ w * uU := Int.mul_nonneg (by lia) (Int.le_of_lt hU)
      rw [w2]
      exact Nat.mul_le_mul (by lia) (by lia))
    have e : val res * val (ofInt w) - uU * val (Float64.mul res (ofInt w)) = uU * (w * val res - val (Float64.mul res (ofInt w))) := by
      rw [w2, Int.mul_sub, ← Int.mul_assoc, Int.mul_comm (val res * w), Int.mul_comm (val res) w]
    rw [e] at q2 q3
    rw [← Int.mul_neg] at q2
    have z1 := le_of_U q2
    have z2 := le_of_U q3
    exact ⟨q1, by lia, by lia⟩
  obtain ⟨m1, m2, m3⟩ := hmul
  obtain ⟨b1, b2⟩ := half_val
  have hwr := mul_bnd (a := w) (b := val res) (A := 30) (B := 2 * uU) (by lia) (by lia) (by lia) (by lia)
  obtain ⟨y1, y2, y3⟩ := add_near m1 b1 (by lia) (by lia)
  generalize Float64.add (Float64.mul res (ofInt w)) halfF = y at *
  have hwE : w * uE ≤ 30 * uE := Int.mul_le_mul_of_nonneg_right h3 (Int.le_of_lt hE)
  have hNU : (a + J * w) * uU = a * uU + (J * w) * uU := Int.add_mul _ _ _
  have hlow : w * (-(2 * uE)) ≤ w * val res := Int.mul_le_mul_of_nonneg_left p2 (by lia)
  have hlow2 : w * (-(2 * uE)) = -(2 * (w * uE)) := by rw [Int.mul_neg, Int.mul_left_comm]
  rw [hlow2] at hlow
  obtain ⟨n1, n2⟩ := turns (k := a + J * w) (lo := 0) (hi := 100) (by lia) (by lia)
  have ht := trunc_spec (N := a + J * w) y1 (by lia) n1 (by lia) (by lia)
  rw [ht]
  refine ⟨y1, ?_, n1, n2⟩
  rw [Int.fmod_eq_emod_of_nonneg _ (by lia), Int.fmod_eq_emod_of_nonneg _ (by lia), Int.add_mul_emod_self_right]
end Mine

namespace Mine
open Builtin Builtin.List in
section
structure MakesL (M : Model) (h : Heap) (C : Addr) : Prop where
  obj : ∃ oc od cd sl, h.get? C = some ⟨oc, od, .cls cd, sl⟩ ∧ cd.abstract = false ∧ cd.hasDel = false ∧ cd.mro.isEmpty = false
  made : Looks M h (Bind.madeBy (.ref C)) (some "list.__new__")
  base : Looks M h (Bind.staticBase (.ref C)) (.ref C)
  self : Looks M h (isSubtype (.ref C) (.ref C)) true
  top : Looks M h (isSubtype (.ref C) (.type "list")) true
  call : Looks M h (specialOf (.ref C) "__call__") (some (.builtin "type.__call__"))
  typ : Looks M h (isInstance (.ref C) (.type "type")) true
  isT : Looks M h (PySem.isType (.ref C)) true
theorem makesL_of {K : Frag} {M : Model} {h : Heap} (X : K.In h) {C : Addr} {oc : Value} {od : Option Addr} {cd : ClassData} {sl : Array (Option Value)} (ho : K.lookup C = some ⟨oc, od, .cls cd, sl⟩) (e1 : cd.abstract = false) (e2 : cd.hasDel = false) (e3 : (sl.toList[4]?).join = some (.builtin "list.__new__")) (e4 : cd.mro.isEmpty = false)
    (e5 : mroIn K C (.ref C) = some true) (e6 : mroIn K C (.type "list") = some true) (e7 : specialIn K (.ref C) "__call__" = some (some (.builtin "type.__call__"))) (e8 : instIn K (.ref C) (.type "type") = some true) : MakesL M h C := by
    have hc : clsIn K C = some cd := by unfold clsIn; rw [ho]
    have hm : Looks M h (mroOf (.ref C)) cd.mro := (looks_clsIn X hc).andThen .now
    obtain ⟨c, l, hl⟩ : ∃ c l, cd.mro = c :: l := by cases q : cd.mro with | nil => rw [q] at e4; cases e4 | cons c l => exact ⟨c, l, rfl⟩
    have made : Looks M h (Bind.madeBy (.ref C)) (some "list.__new__") := by
      intro A Q E s k q
      unfold Bind.madeBy
      refine wpAny_bind (hm A _ E s k ?_)
      rw [hl, List.forIn_cons]
      refine wpAny_bind (wpAny_bind (wpAny_bind (wpAny_bind (wpAny_loadPart (k _ _ (X _ _ ho)) (wpAny_pure ?_)))))
      dsimp only
      rw [← Array.getElem?_toList, e3]
      exact wpAny_pure (wpAny_pure (wpAny_pure q))
    refine ⟨⟨oc, od, cd, sl, X _ _ ho, e1, e2, e4⟩, made, ?_, looks_mroIn X e5, looks_mroIn X e6, looks_specialIn X e7, looks_instIn X e8, ?_⟩
    · intro A Q E s k q
      unfold Bind.staticBase
      refine wpAny_bind (hm A _ E s k ?_)
      rw [hl, List.forIn_cons]
      exact wpAny_bind (wpAny_bind (wpAny_bind (made A _ E s k (wpAny_pure (wpAny_pure (wpAny_pure q))))))
    · intro A Q E s k q
      unfold PySem.isType
      exact wpAny_bind (wpAny_loadPart (k _ _ (X _ _ ho)) (wpAny_pure q))

abbrev instL (C dx : Addr) : Obj := { cls := .ref C, dict := some dx, data := .seq #[] 0 }
theorem ln_sig : Manifest.signature? "list.__new__" = some ((Manifest.signature? "list.__new__").get (by decide +kernel)) := by simp
theorem ln_args (C : Addr) (a : Value) : Bind.checkArgs "list.__new__" ((Manifest.signature? "list.__new__").get (by decide +kernel)) ⟨[.ref C, a], []⟩ = pure () := by kernel_rfl
theorem ln_kind : builtinKind "list.__new__" = some .builtinFn := by decide +kernel
theorem ln_split : splitId "list.__new__" = some ("list", "__new__") := by decide +kernel
variable {prog : Program} {w : World} {A : Around} {K : Frag} {C : Addr} {R : Result → Shared → Prop} {h : Heap} {g : Array GenState} {d : Drawn} {t : Nat} {os : OsState}
theorem newL {a : Value} (Y : MakesL (model prog w) h C)
    (hq : R (.ok (.ret (.ref (h.objs.size + 1)))) ⟨(h.push emptyDict).push (instL C h.objs.size), g, d, t, os⟩) :
    codeAny (model prog w) A (.call (.builtin "list.__new__") ⟨[.ref C, a], []⟩) R ⟨h, g, d, t, os⟩ := by
  obtain ⟨⟨oc, od, cd, sl, hC, e1, e2, e4⟩, made, base, self, top, call, typ, isT⟩ := Y
  refine codeAny_call_builtin_code (Code.quiet_builtin _ (by decide +kernel)) ?_
  simp only [checkBuiltinCall, ln_kind, ln_split]
  rw [ln_sig]
  dsimp only
  rw [ln_args]
  repeat (first | simp only [bne_self_eq_false, Bool.false_eq_true, if_false, Bool.not_true] | lk)
  refine codeAny_builtin_stack F.entry_list_new rfl fun p st => ?_
  have hown := owner_list_new
  simp only [hown]
  repeat (first | simp only [bne_self_eq_false, Bool.false_eq_true, if_false, Bool.not_true] | lk)
  refine wpAny_load (Heap.get?_push_of_some _ (Heap.get?_push_of_some _ hC)) (wpAny_pure ?_)
  rw [e2]
  refine wpAny_pure (wpAny_pure ?_)
  rw [Heap.size_push]
  exact hq

theorem makeL_core {a init : Value} (Y : MakesL (model prog w) h C) (hi : Looks (model prog w) h (typeLookup (.ref C) "__init__") (some init))
    (hb : ∀ self, Looks (model prog w) h (bindSpecial init self) (init, [self]))
    (hq : codeAny (model prog w) (A.under (.builtin "type.__call__" ⟨[.ref C, a], []⟩)) (.call init ⟨[.ref (h.objs.size + 1), a], []⟩) (InitBack (h.objs.size + 1) R) ⟨(h.push emptyDict).push (instL C h.objs.size), g, d, t, os⟩) :
    codeAny (model prog w) A (.call (.ref C) ⟨[a], []⟩) R ⟨h, g, d, t, os⟩ := by
  have Y' := Y
  obtain ⟨⟨oc, od, cd, sl, hC, e1, e2, e4⟩, made, base, self, top, call, typ, isT⟩ := Y
  refine codeAny_of_tree ?_
  show wpAny _ _ (callAny (.ref C) _) _ _ _
  refine nd_load hC ?_
  show wpAny _ _ (callAny.viaDunder (.ref C) _) _ _ _
  unfold callAny.viaDunder
  refine wpAny_bind (call.at ?_)
  dsimp only
  rw [tc_bind]
  refine wpAny_bind (wpAny_pure (wpAny_bind (wpAny_pure ?_)))
  refine wpAny_pure (a := Fin.again (.call (.builtin "type.__call__") ⟨[.ref C, a], []⟩)) (And.intro rfl ?_)
  refine codeAny_call_builtin_at (Code.quiet_builtin _ (by decide +kernel)) entry_typeCall (check_slot tc_kind tc_split typ (tc_args _ _ _) ?_)
  unfold Builtin.«type.__call__»
  have hm : Looks (model prog w) h (mroOf (.ref C)) cd.mro := ((Looks.ld (part := none) hC).andThen .now).andThen .now
  repeat (first | simp only [e4, Bool.false_eq_true, if_false] | with_reducible refine wpAny_call ?_ | lk)
  refine newL Y' ?_
  have k : ∀ b o, h.get? b = some o → ((h.push emptyDict).push (instL C h.objs.size)).get? b = some o := fun b o e => Heap.get?_push_of_some _ (Heap.get?_push_of_some _ e)
  have hx : ((h.push emptyDict).push (instL C h.objs.size)).get? (h.objs.size + 1) = some (instL C h.objs.size) := by heap_get
  have t1 : Looks (model prog w) ((h.push emptyDict).push (instL C h.objs.size)) (typeOf (.ref (h.objs.size + 1))) (.ref C) := (Looks.ld hx).andThen .now
  have s1 := self.keeps k
  have i1 := hi.keeps k
  have b1 := (hb (.ref (h.objs.size + 1))).keeps k
  unfold isInstance callSpecial? specialOf
  repeat (first | with_reducible refine wpAny_call ?_ | lk)
  refine codeAny_mono hq fun r s' z => ?_
  rcases r with e | (v | _ | _ | _) <;> first | exact z | exact z.elim | skip
  obtain ⟨rfl, z⟩ := z
  exact wpAny_pure (wpAny_pure z)
end
section
variable {prog : Program} {w : World} {A : Around} {E : Value → Shared → Prop} {K : Frag} {C x : Addr} {s : Shared} {h₀ : Heap} {L : Addr} {m : Str → Option Value} {news : List (Addr × Obj)} {Q : Value → Shared → Prop}
theorem callL {a : Value} {fI : Addr} (F : Fr h₀ L s.heap m) (X₀ : K.In h₀) (N : News h₀ L s.heap news) (hm : MakesL (model prog w) s.heap 178)
    (hi : findIn K (.ref 178) "__init__" = some (some (.ref fI))) (hf : isFn K (.ref fI) = true)
    (h : ∀ x dx h', Fr h₀ L h' m → News h₀ L h' ((x, accO dx [] 0) :: (dx, dictOf [] 0) :: news) → (∀ p ∈ news, p.1 < dx) → dx < x →
      codeAny (model prog w) (A.under (.builtin "type.__call__" ⟨[.ref 178, a], []⟩)) (.call (.ref fI) ⟨[.ref x, a], []⟩) (InitBack x fun r s' => match r with | .ok (.ret v) => Q v s' | .ok _ => False | .error e => E e s') { s with heap := h' }) :
    wpAny (model prog w) A (call (.ref 178) [a] []) Q E s := by
  have X := X₀.keeps F.keep
  refine wpAny_call ?_
  obtain ⟨hh, g, d, t, os⟩ := s
  refine makeL_core hm (looks_findIn X hi) (fun self => bind_fn X self (beq_iff_eq.mp hf)) (h _ hh.objs.size _ ((F.push _).push _) ?_ (fun p hp => Heap.lt_size (N p hp).1) (Nat.lt_succ_self _))
  have := (N.push F emptyDict).push (F.push _) (instL 178 hh.objs.size)
  rwa [Heap.size_push] at this
end
end Mine

namespace Mine
open PySem.F
section
variable {prog : Program} {w : World} {A : Around} {E : Value → Shared → Prop} {h : Heap} {g : Array GenState} {d : Drawn} {t : Nat} {os : OsState} {x : Addr}
theorem mdg_slot : Slot "method_descriptor" "__get__" "method_descriptor.__get__" :=
  .of (owner := "method_descriptor") (n := "__get__") (by rw [typeLookup_type, builtinLookup_eq_fast]; kernel_rfl) (by decide +kernel) (by decide +kernel) (by decide +kernel)
    (by first | exact .inl (by decide +kernel) | exact .inr (by decide +kernel)) (by rw [isSubtype_type]; kernel_rfl)
theorem mdg_entry : entryFor table "method_descriptor.__get__" = some Builtin.«method_descriptor.__get__» := entryFor_of_tree (by kernel_rfl)
theorem mdg_args (a b c : Value) : argsOk "method_descriptor.__get__" ⟨[a, b, c], []⟩ := by unfold argsOk; kernel_rfl
theorem wdg_slot : Slot "wrapper_descriptor" "__get__" "wrapper_descriptor.__get__" :=
  .of (owner := "wrapper_descriptor") (n := "__get__") (by rw [typeLookup_type, builtinLookup_eq_fast]; kernel_rfl) (by decide +kernel) (by decide +kernel) (by decide +kernel)
    (by first | exact .inl (by decide +kernel) | exact .inr (by decide +kernel)) (by rw [isSubtype_type]; kernel_rfl)
theorem wdg_entry : entryFor table "wrapper_descriptor.__get__" = some Builtin.«wrapper_descriptor.__get__» := entryFor_of_tree (by kernel_rfl)
theorem wdg_args (a b c : Value) : argsOk "wrapper_descriptor.__get__" ⟨[a, b, c], []⟩ := by unfold argsOk; kernel_rfl

abbrev bndO (T id : String) (x : Addr) : Obj := { cls := .type T, data := .fields #[.builtin id, .ref x] }
def check_pop (x : Addr) : Sem Unit := do
  let (name, cls) ← (pure (("pop" : Str), Value.type "list") : Sem (Str × Value))
  if !(← isInstance (.ref x) cls) then
    rule "descr.get.wrong-instance"
    raiseError "TypeError" s!"descriptor '{name.toString}' for '{← typeName cls}' objects doesn't apply to a '{← typeNameOf (.ref x)}' object"
theorem pop_get {c : Addr} {Q : Value → Shared → Prop} (sub : Looks (model prog w) h (isInstance (.ref x) (.type "list")) true) (hq : Q (.ref h.objs.size) ⟨h.push (bndO "builtin_function_or_method" "list.pop" x), g, d, t, os⟩) :
    wpAny (model prog w) A (call (.builtin "method_descriptor.__get__") [.builtin "list.pop", .ref x, .ref c]) Q E ⟨h, g, d, t, os⟩ := by
  refine wpAny_call_entry mdg_slot (show (⟨h, g, d, t, os⟩ : Shared).TypeIs (.builtin "list.pop") "method_descriptor" from F.type_list_pop) mdg_entry ?_ (mdg_args _ _ _)
  unfold Builtin.«method_descriptor.__get__»
  refine wpAny_bind (wpAny_of_eq (a := (.builtin "list.pop", some (.ref x), some (.ref c))) rfl ?_)
  dsimp only
  rw [if_neg (by decide +kernel)]
  refine wpAny_bind (m := check_pop x) ?_
  unfold check_pop
  refine wpAny_bind (wpAny_pure (wpAny_bind (sub.here ?_)))
  rw [if_neg (by decide)]
  refine wpAny_pure ?_
  exact wpAny_bind (wpAny_newObj_type (wpAny_pure ⟨_, rfl, hq⟩) (by size_fits))
def check_len (x : Addr) : Sem Unit := do
  let (name, cls) ← (pure (("__len__" : Str), Value.type "list") : Sem (Str × Value))
  if !(← isInstance (.ref x) cls) then
    rule "descr.get.wrong-instance"
    raiseError "TypeError" s!"descriptor '{name.toString}' for '{← typeName cls}' objects doesn't apply to a '{← typeNameOf (.ref x)}' object"
theorem len_type : typeOf (.builtin "list.__len__") = pure (.type "wrapper_descriptor") := by show builtinType _ = _; rw [builtinType_eq_fast]; kernel_rfl
theorem len_get {c : Addr} {Q : Value → Shared → Prop} (sub : Looks (model prog w) h (isInstance (.ref x) (.type "list")) true) (hq : Q (.ref h.objs.size) ⟨h.push (bndO "method-wrapper" "list.__len__" x), g, d, t, os⟩) :
    wpAny (model prog w) A (call (.builtin "wrapper_descriptor.__get__") [.builtin "list.__len__", .ref x, .ref c]) Q E ⟨h, g, d, t, os⟩ := by
  refine wpAny_call_entry wdg_slot (show (⟨h, g, d, t, os⟩ : Shared).TypeIs (.builtin "list.__len__") "wrapper_descriptor" from len_type) wdg_entry ?_ (wdg_args _ _ _)
  unfold Builtin.«wrapper_descriptor.__get__»
  refine wpAny_bind (wpAny_of_eq (a := (.builtin "list.__len__", some (.ref x), some (.ref c))) rfl ?_)
  dsimp only
  refine wpAny_bind (m := check_len x) ?_
  unfold check_len
  refine wpAny_bind (wpAny_pure (wpAny_bind (sub.here ?_)))
  rw [if_neg (by decide)]
  refine wpAny_pure ?_
  exact wpAny_bind (wpAny_newObj_type (wpAny_pure ⟨_, rfl, hq⟩) (by size_fits))
def check_init (x : Addr) : Sem Unit := do
  let (name, cls) ← (pure (("__init__" : Str), Value.type "list") : Sem (Str × Value))
  if !(← isInstance (.ref x) cls) then
    rule "descr.get.wrong-instance"
    raiseError "TypeError" s!"descriptor '{name.toString}' for '{← typeName cls}' objects doesn't apply to a '{← typeNameOf (.ref x)}' object"
theorem init_type : typeOf (.builtin "list.__init__") = pure (.type "wrapper_descriptor") := by show builtinType _ = _; rw [builtinType_eq_fast]; kernel_rfl
theorem init_get {c : Addr} {Q : Value → Shared → Prop} (sub : Looks (model prog w) h (isInstance (.ref x) (.type "list")) true) (hq : Q (.ref h.objs.size) ⟨h.push (bndO "method-wrapper" "list.__init__" x), g, d, t, os⟩) :
    wpAny (model prog w) A (call (.builtin "wrapper_descriptor.__get__") [.builtin "list.__init__", .ref x, .ref c]) Q E ⟨h, g, d, t, os⟩ := by
  refine wpAny_call_entry wdg_slot (show (⟨h, g, d, t, os⟩ : Shared).TypeIs (.builtin "list.__init__") "wrapper_descriptor" from init_type) wdg_entry ?_ (wdg_args _ _ _)
  unfold Builtin.«wrapper_descriptor.__get__»
  refine wpAny_bind (wpAny_of_eq (a := (.builtin "list.__init__", some (.ref x), some (.ref c))) rfl ?_)
  dsimp only
  refine wpAny_bind (m := check_init x) ?_
  unfold check_init
  refine wpAny_bind (wpAny_pure (wpAny_bind (sub.here ?_)))
  rw [if_neg (by decide)]
  refine wpAny_pure ?_
  exact wpAny_bind (wpAny_newObj_type (wpAny_pure ⟨_, rfl, hq⟩) (by size_fits))

theorem sup_ga {so D C : Addr} {a : Value} {T gid : String} {l₀ l : List Value} {K : Frag} {name : Str} {tk : Tok} {o : Obj} {Q : Fin → Shared → Prop}
    (hso : h.get? so = some { cls := .type "super", dict := none, data := .fields #[.ref D, .ref x, .ref C], slots := #[] }) (hno : Looks (model prog w) h (opaqueClassAbove (.ref C)) none)
    (hC : Looks (model prog w) h (mroOf (.ref C)) l₀) (hl : (l₀.dropWhile (· != .ref D)).drop 1 = l) (X : K.In h)
    (hf : alongIn K name l = some (some a)) (hT : typeOf a = pure (.type T)) (hlk : typeLookup (.type T) "__get__" = pure (some (.builtin gid))) (hxC : x ≠ C) (hn : (name == ("__class__" : Str)) = false)
    (hg : ∀ A (Q : Value → Shared → Prop), Q (.ref h.objs.size) ⟨h.push o, g, d, t, os⟩ → wpAny (model prog w) A (call (.builtin gid) [a, .ref x, .ref C]) Q E ⟨h, g, d, t, os⟩)
    (hq : Q (.done (.ret (.ref h.objs.size))) ⟨h.push o, g, d, t, os⟩) :
    wpAny (model prog w) A (Builtin.«super.__getattribute__» ⟨[.ref so, .str name tk], []⟩) Q E ⟨h, g, d, t, os⟩ := by
  have hne : (Value.ref x == Value.ref C) = false := by simp [hxC]
  have hdt : ({ cls := .type "super", dict := none, data := .fields #[.ref D, .ref x, .ref C], slots := #[] } : Obj).data = .fields #[.ref D, .ref x, .ref C] := rfl
  have f0 : (#[.ref D, .ref x, .ref C] : Array Value)[0]? = some (.ref D) := rfl
  have f1 : (#[.ref D, .ref x, .ref C] : Array Value)[1]? = some (.ref x) := rfl
  have f2 : (#[.ref D, .ref x, .ref C] : Array Value)[2]? = some (.ref C) := rfl
  unfold Builtin.«super.__getattribute__»
  repeat (first
    | (with_reducible refine wpAny_field hso hdt f0 ?_) | (with_reducible refine wpAny_field hso hdt f1 ?_) | (with_reducible refine wpAny_field hso hdt f2 ?_)
    | (with_reducible refine ks_wpAny_notOpaque hno ?_)
    | (with_reducible refine Looks.at hC ?_; rw [hl])
    | (refine ks_forIn_along X (fun _ _ => rfl) rfl ?_ hf)
    | (with_reducible refine wpAny_of_eq hT ?_)
    | (with_reducible refine wpAny_of_eq hlk ?_)
    | (with_reducible refine hg _ _ ?_)
    | (simp only [hn, hne, Bool.or_false, Bool.false_eq_true, if_false])
    | wp_step
    | dsimp only)
  all_goals exact hq
theorem sup_method {so D C : Addr} {a : Value} {T gid : String} {l₀ l : List Value} {K : Frag} {name : Str} {pl : Sem Bool} {o : Obj} {Q : Value × List Value → Shared → Prop}
    (hso : h.get? so = some { cls := .type "super", dict := none, data := .fields #[.ref D, .ref x, .ref C], slots := #[] }) (hno : Looks (model prog w) h (opaqueClassAbove (.ref C)) none)
    (hC : Looks (model prog w) h (mroOf (.ref C)) l₀) (hl : (l₀.dropWhile (· != .ref D)).drop 1 = l) (X : K.In h)
    (hf : alongIn K name l = some (some a)) (hT : typeOf a = pure (.type T)) (hlk : typeLookup (.type T) "__get__" = pure (some (.builtin gid))) (hxC : x ≠ C) (hn : (name == ("__class__" : Str)) = false)
    (hg : ∀ A (Q : Value → Shared → Prop) t, Q (.ref h.objs.size) ⟨h.push o, g, d, t, os⟩ → wpAny (model prog w) A (call (.builtin gid) [a, .ref x, .ref C]) Q (fun _ _ => False) ⟨h, g, d, t, os⟩)
    (hq : Q (.ref h.objs.size, []) ⟨h.push o, g, d, t + 1, os⟩) :
    wpAny (model prog w) A (getMethod (.ref so) name pl) Q E ⟨h, g, d, t, os⟩ := by
  have hlk' := F.ks_slot_super_ga.lookup
  have hcan := F.ks_canon_super_ga
  have hTs : ∀ t', (⟨h, g, d, t', os⟩ : Shared).TypeIs (.ref so) "super" := fun _ => ⟨_, hso, rfl⟩
  unfold getMethod
  refine wpAny_bind (wpAny_specialOf (hTs _) hlk' ?_)
  show wpAny _ _ (if (Manifest.canonical "super.__getattribute__" != "object.__getattribute__") = true then _ else _) _ _ _
  rw [if_pos hcan]
  unfold getAttr getAttrBy
  refine wpAny_bind (wpAny_bind (wpAny_mkText (wpAny_holding (wpAny_bind (wpAny_typeOf (hTs _) (wpAny_bind (wpAny_of_eq hlk' ?_)))))))
  show wpAny _ _ (getAttrByItsOwn (.ref so) (.str name t) (.type "super") (.builtin "super.__getattribute__") true false) _ _ _
  unfold getAttrByItsOwn hookBefore callGetattribute boundAndCalled
  refine wpAny_bind (wpAny_of_eq (show (if onTheHeap (.type "super") then typeLookup (.type "super") "__getattr__" else pure none) = pure none from rfl) ?_)
  refine wpAny_bind (wpAny_attempt (wpAny_holding ?_))
  show wpAny _ _ (bindSpecial (.builtin "super.__getattribute__") (.ref so) >>= _) _ _ _
  refine wpAny_bind (wpAny_of_eq (F.ks_slot_super_ga.bind _) ?_)
  refine wpAny_mono (Q := fun v s' => v = .ref h.objs.size ∧ s' = ⟨h.push o, g, d, t + 1, os⟩) (E := fun _ _ => False)
    (wpAny_call_entry F.ks_slot_super_ga (hTs _) F.ks_entry_super_ga (sup_ga hso hno hC hl X hf hT hlk hxC hn (fun A Q q => hg A Q _ q) ⟨_, rfl, rfl, rfl⟩) (F.ks_gaArgs_super _ _)) (fun v s' hv => ?_) fun _ _ z => z.elim
  obtain ⟨rfl, rfl⟩ := hv
  exact wpAny_pure (wpAny_pure hq)
end
end Mine

namespace Mine
section
variable {prog : Program} {w : World} {A : Around} {E : Value → Shared → Prop} {s : Shared} {h₀ : Heap} {L : Addr} {m : Str → Option Value} {news news' : List (Addr × Obj)} {K : Frag} {x dx q : Addr} {its : List Value} {n : Nat} {o : Obj} {T id : String}
theorem bnd_looks {M : Model} {h : Heap} (hq : h.get? q = some (bndO T id x)) (hT : (Value.type T != .type "method") = true ∧ (Value.type T == .type "builtin_function_or_method" || Value.type T == .type "method-wrapper") = true) : Looks M h (keeperOf (.ref q)) .machine := by
  refine (Looks.ld (part := none) hq).andThen ?_
  show Looks M h (if (Value.type T != .type "method") = true then pure (if (Value.type T == .type "builtin_function_or_method" || Value.type T == .type "method-wrapper") = true then Keeper.machine else .caller) else _) _
  rw [if_pos hT.1, if_pos hT.2]
  exact .now
theorem bnd_callWith {M : Model} {env : Env} {pos : Pos} {Q : Value → Shared → Prop} (N : News h₀ L s.heap news) (hq : (q, bndO T id x) ∈ news) (hT : (Value.type T != .type "method") = true ∧ (Value.type T == .type "builtin_function_or_method" || Value.type T == .type "method-wrapper") = true)
    (h : wpAny M A (call (.ref q) []) Q E s) : wpAny M A (callWith pos (.ref q) [] (backTo pos (starEach [] env)) []) Q E s :=
  callWith_of (P := fun h => h.get? q = some (bndO T id x)) rfl (fun h e => ⟨.machine, .inr (.inl rfl), bnd_looks e hT⟩) (evalArgs_nil3 ⟨(N _ hq).1, h⟩)

theorem bnd_call {b : Builtin} {Q : Value → Shared → Prop} (hq : s.heap.get? q = some (bndO T id x)) (hT : (Value.type T != .type "method") = true ∧ (Value.type T == .type "builtin_function_or_method" || Value.type T == .type "method-wrapper") = true) (entry : entryFor table id = some b) (plain : plainId id = true)
    (hck : ∀ (A : Around) (E : Value → Shared → Prop) (Q : Unit → Shared → Prop), Q () s → wpAny (model prog w) A (checkBoundCall id ⟨[.ref x], []⟩) Q E s)
    (h : wpAny (model prog w) A.in1 (b ⟨[.ref x], []⟩) (fun fin s' => ∃ v, fin = .done (.ret v) ∧ Q v s') E s) : wpAny (model prog w) A (call (.ref q) []) Q E s := by
  refine wpAny_call (codeAny_of_tree ?_)
  show wpAny _ _ (callAny (.ref q) _) _ _ _
  refine nd_load hq ?_
  show wpAny _ _ (if (Value.type T == .type "method" || Value.type T == .type "builtin_function_or_method" || Value.type T == .type "method-wrapper") = true then _ else _) _ _ _
  rw [if_pos (by rw [Bool.or_assoc, hT.2, Bool.or_true])]
  show wpAny _ _ (if (Value.type T != .type "method") = true then (checkBoundCall id ⟨[.ref x], []⟩ >>= fun _ => again (.builtin id ⟨[.ref x], []⟩)) else _) _ _ _
  rw [if_pos hT.1]
  refine wpAny_bind (hck _ _ _ ?_)
  refine wpAny_pure (a := Fin.again _) ⟨plainId_quiet plain _, codeAny_builtin entry ?_⟩
  rw [Around.under_plainId plain]
  exact wpAny_mono h (fun fin s' z => by obtain ⟨v, rfl, q⟩ := z; exact q) fun _ _ z => z

theorem ck_len (A : Around) (E : Value → Shared → Prop) (Q : Unit → Shared → Prop) (h : Q () s) : wpAny (model prog w) A (checkBoundCall "list.__len__" ⟨[.ref x], []⟩) Q E s := by
  rw [show checkBoundCall "list.__len__" ⟨[.ref x], []⟩ = pure () from by kernel_rfl]
  exact wpAny_pure h
theorem ck_init (A : Around) (E : Value → Shared → Prop) (Q : Unit → Shared → Prop) (h : Q () s) : wpAny (model prog w) A (checkBoundCall "list.__init__" ⟨[.ref x], []⟩) Q E s := by
  rw [show checkBoundCall "list.__init__" ⟨[.ref x], []⟩ = pure () from by kernel_rfl]
  exact wpAny_pure h
end
end Mine

namespace Mine
section
variable {prog : Program} {w : World} {A : Around} {E : Value → Shared → Prop} {s : Shared} {h₀ : Heap} {L : Addr} {m : Str → Option Value} {news news' : List (Addr × Obj)} {K : Frag} {x dx q so : Addr} {its : List Value} {n : Nat} {o : Obj} {T id : String} {od : Option Obj}
theorem len_run {Q : Value → Shared → Prop} (hx : s.heap.get? x = some (accO dx its n)) (h : Q (.int (its.length : Nat) s.toks) { s with toks := s.toks + 1 }) :
    wpAny (model prog w) A (Builtin.«list.__len__» ⟨[.ref x], []⟩) (fun fin s' => ∃ v, fin = .done (.ret v) ∧ Q v s') E s := by
  unfold Builtin.«list.__len__»
  refine wpAny_bind (wpAny_of_eq (a := (.ref x, [])) rfl ?_)
  refine wpAny_bind (m := seqSize x) ?_
  unfold seqSize
  refine wpAny_bind (wpAny_loadPart hx (wpAny_pure ?_))
  refine wpAny_bind (wpAny_mkInt (wpAny_pure ⟨_, rfl, ?_⟩))
  rw [List.size_toArray]
  exact h
theorem init_run {Q : Value → Shared → Prop} (F : Fr h₀ L s.heap m) (N : News h₀ L s.heap news) (U : Upd x (accO dx its n) (accO dx [] (epo 0 its.length n)) news news') (hsz : its.length ≤ sizeLine)
    (h : ∀ h', Fr h₀ L h' m → News h₀ L h' news' → Q .none { s with heap := h' }) :
    wpAny (model prog w) A (Builtin.«list.__init__» ⟨[.ref x], []⟩) (fun fin s' => ∃ v, fin = .done (.ret v) ∧ Q v s') E s := by
  have hx : s.heap.get? x = some (accO dx its n) := (N _ (upd_mem U)).1
  unfold Builtin.«list.__init__»
  have hf : Obj.mapSeq (fun _ => #[]) (accO dx its n) = accO dx [] (epo 0 its.length n) := by simp [Obj.mapSeq, epo]
  obtain ⟨F', N'⟩ := upd_heap F N U hf rfl
  simp only [List.isEmpty_nil, Bool.not_true, Bool.false_eq_true, if_false, List.length_nil]
  rw [if_neg (by decide)]
  refine wpAny_bind (m := Builtin.List.listItems (.ref x)) (wpAny_listItems hx rfl ?_)
  refine wpAny_bind (m := updateSeq x _) (wpAny_updateSeq hx rfl ?_ (by simpa using hsz) (by simp))
  exact wpAny_bind (wpAny_letGo (wpAny_pure ⟨.none, rfl, h _ F' N'⟩))
theorem pop_run {p : List Value} {y : Value} {Q : Value → Shared → Prop} (F : Fr h₀ L s.heap m) (N : News h₀ L s.heap news) (e : its = p ++ [y]) (U : Upd x (accO dx its n) (accO dx p (n + 1)) news news') (hsz : its.length ≤ sizeLine)
    (h : ∀ h', Fr h₀ L h' m → News h₀ L h' news' → Q y { s with heap := h' }) :
    wpAny (model prog w) A (Builtin.«list.pop» ⟨[.ref x], []⟩) (fun fin s' => ∃ v, fin = .done (.ret v) ∧ Q v s') E s := by
  subst e
  have hx : s.heap.get? x = some (accO dx (p ++ [y]) n) := (N _ (upd_mem U)).1
  unfold Builtin.«list.pop»
  have hf : Obj.mapSeq (fun xs => xs.eraseIdxIfInBounds p.length) (accO dx (p ++ [y]) n) = accO dx p (n + 1) := by
    have e0 : (p ++ [y]).toArray.eraseIdxIfInBounds p.length = p.toArray := by rw [kl_erase p [] y, List.append_nil]
    show ({ cls := .ref 178, dict := some dx, data := .seq ((p ++ [y]).toArray.eraseIdxIfInBounds p.length) (if ((p ++ [y]).toArray.eraseIdxIfInBounds p.length).size == (p ++ [y]).toArray.size then n else n + 1) } : Obj) = _
    simp only [e0]
    simp
  obtain ⟨F', N'⟩ := upd_heap F N U hf rfl
  refine wpAny_bind (wpAny_of_eq (a := (.ref x, [])) rfl ?_)
  dsimp only
  refine wpAny_bind (wpAny_pure ?_)
  rw [if_neg (by decide)]
  refine wpAny_bind (m := Builtin.List.listItems (.ref x)) (wpAny_listItems hx rfl ?_)
  rw [if_neg (by simp)]
  have e1 : ((seqIndex? (-1) (p ++ [y]).toArray.size).bind fun k => (p ++ [y]).toArray[k]?.map (k, ·)) = some (p.length, y) := by
    have : seqIndex? (-1) (p ++ [y]).toArray.size = some p.length := by
      simp only [seqIndex?, List.size_toArray, List.length_append, List.length_cons, List.length_nil]
      rw [if_pos (show (-1 : Int) < 0 by decide)]
      rw [if_pos (by simp only [Bool.and_eq_true, decide_eq_true_eq]; omega)]
      congr 1
      omega
    rw [this]
    simp
  rw [e1]
  refine wpAny_bind (m := updateSeq x _) (wpAny_updateSeq hx rfl (wpAny_pure ⟨y, rfl, h _ F' N'⟩) (by simpa using hsz) (by
    have e0 : (p ++ [y]).toArray.eraseIdxIfInBounds p.length = p.toArray := by rw [kl_erase p [] y, List.append_nil]
    show ((p ++ [y]).toArray.eraseIdxIfInBounds p.length).size ≤ sizeLine + 1
    rw [e0]; simp at hsz ⊢; omega))
theorem ck_args (x : Addr) : (Manifest.signature? "list.pop").map (fun sig => Bind.checkArgs "list.pop" { sig with full := s!"{(Str.ofString "_Accumulator").toString}.{Bind.lastOf "list.pop"}" } ⟨[.ref x], []⟩) = some (pure ()) := by kernel_rfl
theorem ck_pop (A : Around) (E : Value → Shared → Prop) (Q : Unit → Shared → Prop) {cd : ClassData} (X : K.In s.heap) (I : InstAt s.heap x (accO dx its n) 178 od) (hm : mroIn K 178 (.type "module") = some false) (hc : clsIn K 178 = some cd) (hqn : cd.qualname = Str.ofString "_Accumulator") (hct : typeIn K (.ref 178) = some (.type "type")) (h : Q () s) :
    wpAny (model prog w) A (checkBoundCall "list.pop" ⟨[.ref x], []⟩) Q E s := by
  unfold checkBoundCall
  cases hs : Manifest.signature? "list.pop" with
  | none => exact wpAny_pure h
  | some sig =>
    have hk : builtinKind "list.pop" = some .method := by decide +kernel
    dsimp only
    rw [hk]
    dsimp only
    rw [if_neg (by decide)]
    have L1 : Looks (model prog w) s.heap (isInstance (.ref x) (.type "module")) false := I.type.andThen (looks_mroIn X hm)
    refine wpAny_bind (L1.here ?_)
    rw [if_neg (by decide +kernel)]
    have ha : Bind.checkArgs "list.pop" { sig with full := s!"{(Str.ofString "_Accumulator").toString}.{Bind.lastOf "list.pop"}" } ⟨[.ref x], []⟩ = pure () := by
      have := ck_args x
      rw [hs] at this
      exact Option.some.inj this
    have L2 : Looks (model prog w) s.heap (isType (.ref x)) false := (Looks.ld I.at_).andThen .now
    refine wpAny_bind (L2.here ?_)
    rw [if_neg (by decide)]
    have LT := I.type (M := model prog w)
    refine wpAny_bind (LT.here ?_)
    dsimp only
    refine wpAny_bind ((looks_clsIn X hc).here ?_)
    refine wpAny_bind ((looks_typeIn X hct).here ?_)
    rw [if_pos (by decide)]
    rw [hqn, ha]
    exact wpAny_pure h
end
end Mine

namespace Mine
section
variable {prog : Program} {w : World} {A : Around} {E : Value → Shared → Prop} {s : Shared} {h₀ : Heap} {L : Addr} {m : Str → Option Value} {news news' : List (Addr × Obj)} {K : Frag} {x dx q so : Addr} {its : List Value} {n : Nat} {o : Obj} {cd : ClassData}
theorem accK_sup {name : Str} {a : Value} {T gid : String} {ob : Obj} {pl : Sem Bool} {Q : Value × List Value → Shared → Prop} (F : Fr h₀ L s.heap m) (X₀ : K.In h₀) (N : News h₀ L s.heap news) (hso : (so, ks_superObj 178 x 178) ∈ news) (h1 : (x, accO dx its n) ∈ news) (h2 : (dx, o) ∈ news)
    (ho : nsIn K cStatics "thirdparty.any" = some none) (hc : clsIn K 178 = some cd) (hm : ks_superIn K 178 178 name = some (some a)) (hT : typeOf a = pure (.type T)) (hlk : typeLookup (.type T) "__get__" = pure (some (.builtin gid))) (hn : (name == ("__class__" : Str)) = false) (hob : ob.isFreed = false)
    (hg : ∀ A (Q : Value → Shared → Prop) t, Q (.ref s.heap.objs.size) ⟨s.heap.push ob, s.gens, s.drawn, t, s.os⟩ → wpAny (model prog w) A (call (.builtin gid) [a, .ref x, .ref 178]) Q (fun _ _ => False) ⟨s.heap, s.gens, s.drawn, t, s.os⟩)
    (h : ∀ q h', Fr h₀ L h' m → News h₀ L h' ((q, ob) :: news) → (∀ p ∈ news, p.1 < q) → Q (.ref q, []) { s with heap := h', toks := s.toks + 1 }) : wpAny (model prog w) A (getMethod (.ref so) name pl) Q E s := by
  have X : K.In s.heap := X₀.keeps F.keep
  have I := accI N h1 h2
  have hxC := ks_ne X I hc
  unfold ks_superIn at hm
  rw [hc] at hm
  obtain ⟨hh, g, d, t, os⟩ := s
  refine sup_method (N _ hso).1 (looks_opaque X ho) (l₀ := cd.mro) (fun A Q E s k q => wpAny_bind ((looks_clsIn X hc) A _ E s k (wpAny_pure q))) rfl X hm hT hlk hxC hn hg ?_
  obtain ⟨F', N', l'⟩ := ks_newsPush (s := ⟨hh, g, d, t, os⟩) (o := ob) F N rfl (Heap.get?_push_at rfl hob) (fun b o e => Heap.get?_push_of_some _ e)
  exact h _ _ F' N' l'
theorem accK_supPop {pl : Sem Bool} {Q : Value × List Value → Shared → Prop} (F : Fr h₀ L s.heap m) (X₀ : K.In h₀) (N : News h₀ L s.heap news) (hso : (so, ks_superObj 178 x 178) ∈ news) (h1 : (x, accO dx its n) ∈ news) (h2 : (dx, o) ∈ news)
    (ho : nsIn K cStatics "thirdparty.any" = some none) (hc : clsIn K 178 = some cd) (hm : ks_superIn K 178 178 (Str.ofString "pop") = some (some (.builtin "list.pop"))) (hl : mroIn K 178 (.type "list") = some true)
    (h : ∀ q h', Fr h₀ L h' m → News h₀ L h' ((q, bndO "builtin_function_or_method" "list.pop" x) :: news) → (∀ p ∈ news, p.1 < q) → Q (.ref q, []) { s with heap := h', toks := s.toks + 1 }) : wpAny (model prog w) A (getMethod (.ref so) (Str.ofString "pop") pl) Q E s :=
  accK_sup F X₀ N hso h1 h2 ho hc hm PySem.F.type_list_pop mdg_slot.lookup (by decide +kernel) rfl (fun A Q t q => pop_get (sub_isList (X₀.keeps F.keep) (accI N h1 h2) hl) q) h
theorem accK_supLen {pl : Sem Bool} {Q : Value × List Value → Shared → Prop} (F : Fr h₀ L s.heap m) (X₀ : K.In h₀) (N : News h₀ L s.heap news) (hso : (so, ks_superObj 178 x 178) ∈ news) (h1 : (x, accO dx its n) ∈ news) (h2 : (dx, o) ∈ news)
    (ho : nsIn K cStatics "thirdparty.any" = some none) (hc : clsIn K 178 = some cd) (hm : ks_superIn K 178 178 (Str.ofString "__len__") = some (some (.builtin "list.__len__"))) (hl : mroIn K 178 (.type "list") = some true)
    (h : ∀ q h', Fr h₀ L h' m → News h₀ L h' ((q, bndO "method-wrapper" "list.__len__" x) :: news) → (∀ p ∈ news, p.1 < q) → Q (.ref q, []) { s with heap := h', toks := s.toks + 1 }) : wpAny (model prog w) A (getMethod (.ref so) (Str.ofString "__len__") pl) Q E s :=
  accK_sup F X₀ N hso h1 h2 ho hc hm len_type wdg_slot.lookup (by decide +kernel) rfl (fun A Q t q => len_get (sub_isList (X₀.keeps F.keep) (accI N h1 h2) hl) q) h
theorem accK_supInit {pl : Sem Bool} {Q : Value × List Value → Shared → Prop} (F : Fr h₀ L s.heap m) (X₀ : K.In h₀) (N : News h₀ L s.heap news) (hso : (so, ks_superObj 178 x 178) ∈ news) (h1 : (x, accO dx its n) ∈ news) (h2 : (dx, o) ∈ news)
    (ho : nsIn K cStatics "thirdparty.any" = some none) (hc : clsIn K 178 = some cd) (hm : ks_superIn K 178 178 (Str.ofString "__init__") = some (some (.builtin "list.__init__"))) (hl : mroIn K 178 (.type "list") = some true)
    (h : ∀ q h', Fr h₀ L h' m → News h₀ L h' ((q, bndO "method-wrapper" "list.__init__" x) :: news) → (∀ p ∈ news, p.1 < q) → Q (.ref q, []) { s with heap := h', toks := s.toks + 1 }) : wpAny (model prog w) A (getMethod (.ref so) (Str.ofString "__init__") pl) Q E s :=
  accK_sup F X₀ N hso h1 h2 ho hc hm init_type wdg_slot.lookup (by decide +kernel) rfl (fun A Q t q => init_get (sub_isList (X₀.keeps F.keep) (accI N h1 h2) hl) q) h

theorem bt1 : (Value.type "method-wrapper" != .type "method") = true ∧ (Value.type "method-wrapper" == .type "builtin_function_or_method" || Value.type "method-wrapper" == .type "method-wrapper") = true := by decide
theorem bt2 : (Value.type "builtin_function_or_method" != .type "method") = true ∧ (Value.type "builtin_function_or_method" == .type "builtin_function_or_method" || Value.type "builtin_function_or_method" == .type "method-wrapper") = true := by decide
theorem entry_len' : entryFor table "list.__len__" = some Builtin.«list.__len__» := entryFor_of_tree (by kernel_rfl)
theorem entry_init' : entryFor table "list.__init__" = some Builtin.«list.__init__» := entryFor_of_tree (by kernel_rfl)

theorem callLen {env : Env} {pos : Pos} {Q : Value → Shared → Prop} (N : News h₀ L s.heap news) (hq : (q, bndO "method-wrapper" "list.__len__" x) ∈ news) (h1 : (x, accO dx its n) ∈ news) (h : Q (.int (its.length : Nat) s.toks) { s with toks := s.toks + 1 }) :
    wpAny (model prog w) A (callWith pos (.ref q) [] (backTo pos (starEach [] env)) []) Q E s :=
  bnd_callWith N hq bt1 (bnd_call (N _ hq).1 bt1 entry_len' (by decide +kernel) (fun A E Q q => ck_len A E Q q) (len_run (N _ h1).1 h))
theorem callInit {env : Env} {pos : Pos} {Q : Value → Shared → Prop} (F : Fr h₀ L s.heap m) (N : News h₀ L s.heap news) (hq : (q, bndO "method-wrapper" "list.__init__" x) ∈ news) (U : Upd x (accO dx its n) (accO dx [] (epo 0 its.length n)) news news') (hsz : its.length ≤ sizeLine)
    (h : ∀ h', Fr h₀ L h' m → News h₀ L h' news' → Q .none { s with heap := h' }) :
    wpAny (model prog w) A (callWith pos (.ref q) [] (backTo pos (starEach [] env)) []) Q E s :=
  bnd_callWith N hq bt1 (bnd_call (N _ hq).1 bt1 entry_init' (by decide +kernel) (fun A E Q q => ck_init A E Q q) (init_run F N U hsz h))
theorem callPop {env : Env} {pos : Pos} {p : List Value} {y : Value} {Q : Value → Shared → Prop} (F : Fr h₀ L s.heap m) (X₀ : K.In h₀) (N : News h₀ L s.heap news) (hq : (q, bndO "builtin_function_or_method" "list.pop" x) ∈ news) (h2 : (dx, o) ∈ news) (hm : mroIn K 178 (.type "module") = some false) (hc : clsIn K 178 = some cd) (hqn : cd.qualname = Str.ofString "_Accumulator") (hct : typeIn K (.ref 178) = some (.type "type"))
    (e : its = p ++ [y]) (U : Upd x (accO dx its n) (accO dx p (n + 1)) news news') (hsz : its.length ≤ sizeLine) (h : ∀ h', Fr h₀ L h' m → News h₀ L h' news' → Q y { s with heap := h' }) :
    wpAny (model prog w) A (callWith pos (.ref q) [] (backTo pos (starEach [] env)) []) Q E s :=
  bnd_callWith N hq bt2 (bnd_call (N _ hq).1 bt2 PySem.F.entry_list_pop (by decide +kernel) (fun A E Q q => ck_pop A E Q (X₀.keeps F.keep) (accI N (upd_mem U) h2) hm hc hqn hct q) (pop_run F N e U hsz h))
end
end Mine

namespace Mine
open Sem (wp)
section
variable {prog : Program} {w : World} {A : Around} {E : Value → Shared → Prop} {s : Shared} {K : Frag} {x dx C : Addr} {ox : Obj} {od : Option Obj} {its : List Value} {n : Nat}
/-- a list's data at an address, whatever its class -/
def SeqAt (h : Heap) (a : Addr) (items : Array Value) : Prop := ∃ o n, h.get? a = some o ∧ o.data = .seq items n
theorem SeqAt.at {h h' : Heap} {a : Addr} {items : Array Value} (x : SeqAt h a items) (e : ∀ o, h.get? a = some o → h'.get? a = some o) : SeqAt h' a items := let ⟨o, n, ho, hd⟩ := x; ⟨o, n, e _ ho, hd⟩

theorem seq_next {it l : Addr} {i : Nat} {items : Array Value} {v : Value} {Q : Option Value → Shared → Prop} (hit : s.heap.IsListIter it l i) (hl : SeqAt s.heap l items) (hx : items[i]? = some v)
    (hQ : ∀ h', h'.IsListIter it l (i + 1) → Heap.SameBut it s.heap h' → Q (some v) { s with heap := h' }) : wpAny (model prog w) A (pyNext (.ref it)) Q E s := by
  obtain ⟨o, ho, hc, hd⟩ := id hit
  obtain ⟨ol, nl, hol, hdl⟩ := hl
  unfold pyNext
  refine wpAny_bind (wpAny_attempt (wpAny_callSpecial?_slot (name := Str.ofString "__next__") hit.typeIs slot_listiter_next (wpAny_call_entry slot_listiter_next hit.typeIs entry_listiter_next ?_ (args_listiter_next _))))
  show wpAny _ _ (field (.ref it) 0 >>= _) _ _ s
  refine wpAny_bind (wpAny_field ho hd (x := .ref l) rfl ?_)
  rw [if_neg (show ¬ ((Value.ref l == Value.none) = true) from Bool.false_ne_true)]
  refine wpAny_bind (wpAny_field ho hd (x := .int i 0) rfl ?_)
  refine wpAny_bind (m := seqItems? (.ref l)) (wpAny_seqItems hol hdl ?_)
  simp only [Int.toNat_natCast, hx]
  refine wpAny_bind (wpAny_setField ho hd (by simp) (wpAny_pure ⟨v, rfl, wpAny_pure (hQ _ ?_ (Heap.SameBut.update ..))⟩))
  exact ⟨_, Heap.get?_update_self _ ho (Obj.isFreed_of_fields (Obj.data_mapFields hd _)), (Obj.cls_mapFields ..).trans hc, by rw [Obj.data_mapFields hd]; simp [rawInt]⟩

theorem seq_end {it l : Addr} {i : Nat} {items : Array Value} {Q : Option Value → Shared → Prop} (hh : A.handled = none) (hit : s.heap.IsListIter it l i) (hl : SeqAt s.heap l items) (hx : items[i]? = none)
    (hQ : ∀ h', Heap.ExtBut it s.heap h' → Q none { s with heap := h' }) : wpAny (model prog w) A (pyNext (.ref it)) Q E s := by
  obtain ⟨o, ho, hc, hd⟩ := id hit
  obtain ⟨ol, nl, hol, hdl⟩ := hl
  unfold pyNext
  refine wpAny_bind (wpAny_attempt (wpAny_callSpecial?_slot (name := Str.ofString "__next__") hit.typeIs slot_listiter_next (wpAny_call_entry slot_listiter_next hit.typeIs entry_listiter_next ?_ (args_listiter_next _))))
  show wpAny _ _ (field (.ref it) 0 >>= _) _ _ s
  refine wpAny_bind (wpAny_field ho hd (x := .ref l) rfl ?_)
  rw [if_neg (show ¬ ((Value.ref l == Value.none) = true) from Bool.false_ne_true)]
  refine wpAny_bind (wpAny_field ho hd (x := .int i 0) rfl ?_)
  refine wpAny_bind (m := seqItems? (.ref l)) (wpAny_seqItems hol hdl ?_)
  simp only [Int.toNat_natCast, hx]
  refine wpAny_bind (wpAny_rule (wpAny_bind (wpAny_setField ho hd (by simp) ?_)))
  refine wpAny_bind (m := newExc (.type "StopIteration") []) ?_
  simp only [newExc, newTuple]
  refine wpAny_bind (wpAny_newObj_type ?_ (by size_fits))
  refine wpAny_bind (m := firstArgMember _ _) (wpAny_of_eq (a := Value.none) (by first | rfl | (simp only [firstArgMember]; rfl)) ?_)
  refine wpAny_newObj_type ?_ (by size_fits)
  simp only [raiseNew]
  refine wpAny_bind (wpAny_handled ?_)
  rw [show A.in1.handled = none from hh]
  refine wpAny_bind (wpAny_pure (wpAny_throw ?_))
  refine wpAny_bind (wpAny_isInstance (T := "StopIteration") (b := true) ⟨_, Heap.get?_push_size _ rfl, rfl⟩ isSubtype_stop ?_)
  exact wpAny_pure (hQ _ (((Heap.SameBut.update ..).extBut.push _).push _))

theorem acc_iter {Q : Value → Shared → Prop} (X : K.In s.heap) (I : InstAt s.heap x ox C od) (hm : mroIn K C (.type "list") = some true) (hs : findIn K (.ref C) "__iter__" = some (some (.builtin "list.__iter__")))
    (hQ : Q (.ref s.heap.objs.size) { s with heap := s.heap.push { cls := .type "list_iterator", data := .fields #[.ref x, .int 0 0] } }) : wpAny (model prog w) A (pyIter (.ref x)) Q E s := by
  unfold pyIter specialOf
  refine wpAny_bind (wpAny_bind (I.type.here ((looks_findIn X hs).here ?_)))
  show wpAny _ A (callSpecialIfBoundUnlessNone? (.ref x) "__iter__" _ >>= _) Q E s
  unfold callSpecialIfBoundUnlessNone? bindSpecialIfBound? specialOf
  refine wpAny_bind (wpAny_holding (wpAny_bind (wpAny_bind (wpAny_bind (I.type.here ((looks_findIn X hs).here ?_))))))
  have call1 : wpAny (model prog w) A (call (.builtin "list.__iter__") [.ref x]) (fun it s' => wpAny (model prog w) A (specialOf it "__next__" >>= fun r => match r with
      | none => (do rule "iter.non-iterator"; raiseError "TypeError" s!"iter() returned non-iterator of type '{← typeNameOf it}'")
      | some _ => pure it) Q E s') E s := by
    refine sub_call X I hm (.inr (by decide +kernel)) (n := "__iter__") (by decide +kernel) (by decide +kernel) entry_list_iter (args_list_iter _) ?_
    show wpAny _ _ (do ret (← newFields "list_iterator" [.ref x, rawInt 0])) _ _ s
    refine wpAny_bind (wpAny_newObj_type (wpAny_pure ⟨_, rfl, ?_⟩))
    exact wpAny_bind (wpAny_specialOf (T := "list_iterator") ⟨_, Heap.get?_push_size _ rfl, rfl⟩ slot_listiter_next.lookup (wpAny_pure hQ))
  dsimp only
  rw [slot_list_iter.bind]
  refine wpAny_bind (wpAny_askSetting (wpAny_ite ?_))
  split
  · refine wpAny_bind (wpAny_pure (wpAny_pure ?_))
    dsimp only
    rw [if_neg (by decide)]
    exact wpAny_bind (wpAny_mono call1 (fun v s' h' => wpAny_pure h') fun _ _ h' => h')
  · refine wpAny_tryCatch (wpAny_bind (wpAny_pure (wpAny_pure ?_)))
    dsimp only
    rw [if_neg (by decide)]
    exact wpAny_bind (wpAny_mono call1 (fun v s' h' => wpAny_pure h') fun _ _ h' => h')

theorem walk_tuples (hh : A.handled = none) (I ax : Addr) (hne : ax ≠ I) (items : Array Value) (Ts : Nat → Addr) (vals : Nat → Array Value)
    (hit : ∀ j, j < items.size → items[j]? = some (.ref (Ts j))) (hTI : ∀ j, j < items.size → Ts j ≠ I) :
    WalksU prog w A I (I :: ax :: (List.range items.size).map Ts) [I] items.size (fun j v => j < items.size ∧ v = vals j)
      (fun j h => h.IsListIter I ax j ∧ SeqAt h ax items ∧ ∀ k, k < items.size → h.IsTuple (Ts k) (vals k))
      (fun j T h => (j < items.size ∧ T = Ts j) ∧ h.IsListIter I ax (j + 1) ∧ SeqAt h ax items ∧ ∀ k, k < items.size → h.IsTuple (Ts k) (vals k)) where
  sub := fun b hb => by simp at hb; simp [hb]
  frame := fun _ _ _ st hk => ⟨st.1.at fun o e => hk I (by simp) o e, st.2.1.at fun o e => hk ax (by simp) o e,
    fun k hk' => (st.2.2 k hk').at fun o e => hk (Ts k) (List.mem_cons_of_mem _ (List.mem_cons_of_mem _ (List.mem_map.mpr ⟨k, List.mem_range.mpr hk', rfl⟩))) o e⟩
  item := fun i s Q E hi st hQ => by
    refine seq_next st.1 st.2.1 (v := .ref (Ts i)) (hit i hi) fun h' hit' hs' => ?_
    have tup : ∀ k, k < items.size → h'.IsTuple (Ts k) (vals k) := fun k hk' => (st.2.2 k hk').extBut hs'.extBut (hTI k hk')
    have sq : SeqAt h' ax items := st.2.1.at fun o e => hs'.extBut _ _ hne e
    exact hQ (Ts i) (vals i) h' s.toks ⟨hi, rfl⟩ (tup i hi) ⟨⟨hi, rfl⟩, hit', sq, tup⟩ fun b o hb e => hs'.extBut b o (fun h => hb (by simp [h])) e
  go := fun _ _ _ _ _ s Q _ hm hQ => wpAny_letOwnedTupleGo_listiter hm.2.1 (hQ s.heap hm.2 fun _ _ _ e => e)
  apart := fun j T _ hm hmem => by
    rcases List.mem_cons.mp hmem with e | e
    · exact hTI j hm.1.1 (hm.1.2 ▸ e)
    · cases e
  done := fun s Q E st hQ => seq_end hh st.1 st.2.1 (by simp) fun h' he' => hQ h' s.toks fun b o hb e => he' b o (fun h => hb (by simp [h])) e
  self := fun _ _ _ _ st hQ => wpAny_pyIter_listiter st.1 hQ
end
end Mine

namespace Mine
open PyProof.Rows
section
variable {prog : Program} {w : World} {A : Around} {E : Value → Shared → Prop} {s : Shared}
theorem applied_upto {sl : Addr} {b n : Nat} {u : Tok} {Q : Int × Int × Nat → Shared → Prop} (hs : s.heap.IsSliceOf sl .none (.int b u) .none) (hb : b ≤ n) (h : Q (0, 1, b) s) :
    wpAny (model prog w) A (Builtin.Slice.sliceApplied (.ref sl) (pure (n : Int))) Q E s := by
  obtain ⟨os, hos, _, hds⟩ := hs
  have e1 : Builtin.Slice.sliceAdjust none (some (b : Int)) 1 (n : Int) = (0, (b : Int)) := by
    unfold Builtin.Slice.sliceAdjust
    simp only [show ¬ ((1 : Int) < 0) by omega, show ¬ ((b : Int) < 0) by omega, if_false]
    congr 1
    omega
  have e2 : Builtin.Slice.slicePlaces 0 (b : Int) 1 = b := by
    unfold Builtin.Slice.slicePlaces
    simp only [show (1 : Int) > 0 by omega, if_true, Int.ediv_one]
    split <;> omega
  unfold Builtin.Slice.sliceApplied Builtin.Slice.sliceFields
  refine wpAny_bind (wpAny_bind (wpAny_field hos hds (x := .none) rfl (wpAny_bind (wpAny_field hos hds (x := .int b u) rfl (wpAny_bind (wpAny_field hos hds (x := .none) rfl (wpAny_pure ?_)))))))
  refine wpAny_bind (slicePart_none ?_)
  show wpAny _ _ (if ((1 : Int) == 0) = true then _ else _) _ _ s
  rw [if_neg (by decide)]
  refine wpAny_bind (slicePart_none (wpAny_bind (slicePart_int (wpAny_bind (wpAny_pure ?_)))))
  show wpAny _ _ (match Builtin.Slice.sliceAdjust none (some (b : Int)) 1 (n : Int) with | (lo, hi) => pure (lo, (1 : Int), Builtin.Slice.slicePlaces lo hi 1)) _ _ s
  rw [e1]
  show wpAny _ _ (pure ((0 : Int), (1 : Int), Builtin.Slice.slicePlaces 0 (b : Int) 1)) _ _ s
  rw [e2]
  exact wpAny_pure h
theorem getItem_upto {t sl : Addr} {items : Array Value} {b : Nat} {u : Tok} {zs : List Value} {Q : Value → Shared → Prop} (ht : IsTup s.heap t items) (hs : s.heap.IsSliceOf sl .none (.int b u) .none) (hb : b < items.size)
    (e : (List.range b).filterMap (fun (k : Nat) => items[((0 : Int) + (k : Int) * 1).toNat]?) = zs) (hz : zs.length ≤ 1000)
    (h : Q (.ref s.heap.objs.size) { s with heap := s.heap.push { cls := .type "tuple", data := .seq zs.toArray } }) :
    wpAny (model prog w) A (getItem (.ref t) (.ref sl)) Q E s := by
  have hok : sizeOk (.seq zs.toArray) := by
    show zs.toArray.size ≤ sizeLine
    rw [List.size_toArray, sizeLine_eq]; omega
  have hTs : s.TypeIs (.ref sl) "slice" := by
    obtain ⟨os, hos, hcs, _⟩ := hs
    exact ⟨os, hos, hcs⟩
  unfold getItem
  try with_reducible refine wpAny_holding ?_
  first | refine wpAny_bind (wpAny_pure ?_) | skip
  refine wpAny_bind (wpAny_sequenceKey ht.typeIs (by decide) ?_)
  refine wpAny_bind (wpAny_callSpecial?_slot (name := Str.ofString "__getitem__") ht.typeIs slot_tuple_getitem
    (wpAny_call_entry slot_tuple_getitem ht.typeIs entry_tuple_getitem ?_ (args_tuple_getitem _ _)))
  show wpAny _ _ (Builtin.Tuple.tupleItemsOf (.ref t) >>= _) _ _ s
  refine wpAny_bind (tupleItemsOf_ ht ?_)
  refine wpAny_bind (wpAny_typeOf hTs ?_)
  rw [if_pos (by decide)]
  refine wpAny_bind (applied_upto hs (Nat.le_of_lt hb) ?_)
  have hno : ¬ (((0 : Int) == 0 && (1 : Int) == 1 && b == items.size) = true) := by
    have : (b == items.size) = false := by rw [beq_eq_false_iff_ne]; omega
    rw [this]; simp
  show wpAny _ _ (if ((0 : Int) == 0 && (1 : Int) == 1 && b == items.size) = true then _ else _) _ _ s
  rw [if_neg hno, e]
  first
    | exact wpAny_bind (m := Builtin.Tuple.tupleExact _) (wpAny_newObj_type (wpAny_pure ⟨_, rfl, wpAny_pure h⟩) hok)
    | exact wpAny_bind (m := Builtin.Tuple.tupleExact _) (wpAny_newObj_type (wpAny_bind (wpAny_pure (wpAny_pure ⟨_, rfl, wpAny_pure h⟩))) hok)
    | exact wpAny_bind (wpAny_bind (m := Builtin.Tuple.tupleExact _) (wpAny_newObj_type (wpAny_pure (wpAny_pure ⟨_, rfl, wpAny_pure h⟩)) hok))
    | exact wpAny_bind (wpAny_bind (m := Builtin.Tuple.tupleExact _) (wpAny_newObj_type (wpAny_pure ⟨_, rfl, wpAny_pure h⟩) hok))
end
section
variable {prog : Program} {w : World} {A : Around} {E : Value → Shared → Prop} {s : Shared} {h₀ : Heap} {L : Addr} {m : Str → Option Value} {news : List (Addr × Obj)}
theorem tuple_upto {value slice : PySem.Expr} {t : Addr} {items : Array Value} {b : Nat} {u : Tok} {zs : List Value} {Q : Value → Shared → Prop}
    (F : Fr h₀ L s.heap m) (N : News h₀ L s.heap news) (ht : IsTup s.heap t items) (hb : b < items.size)
    (e : (List.range b).filterMap (fun (k : Nat) => items[((0 : Int) + (k : Int) * 1).toNat]?) = zs) (hz : zs.length ≤ 1000)
    (h : ∀ D h', Fr h₀ L h' m → News h₀ L h' ((D, { cls := .type "tuple", data := .seq zs.toArray }) :: news) → Q (.ref D) { s with heap := h' })
    (hs : subscripted slice false (.ref t) (.ref s.heap.objs.size) = operate [.ref s.heap.objs.size, .ref t] (getItem (.ref t) (.ref s.heap.objs.size)) := by with_unfolding_all rfl)
    (hg : ∀ r, letTemporaryGo value (.ref t) r = pure () := by intro _; with_unfolding_all rfl) :
    wpAny (model prog w) A (subscriptTail value slice (.ref t) (.ref s.heap.objs.size)) Q E { s with heap := s.heap.push { cls := .type "slice", data := .fields #[.none, .int b u, .none] } } := by
  have ht' : IsTup (s.heap.push { cls := .type "slice", data := .fields #[.none, .int b u, .none] }) t items := ht.keeps fun _ _ e => Heap.get?_push_of_some _ e
  refine subscriptTail_ops (s := { s with heap := s.heap.push { cls := .type "slice", data := .fields #[.none, .int b u, .none] } }) ht'.typeIs slot_tuple_getitem.lookup
    (getItem_upto ht' (Heap.IsSliceOf.new ..) hb e hz ?_) hs hg
  have N1 := News.push (F.push { cls := .type "slice", data := .fields #[.none, .int b u, .none] }) (N.grown fun _ _ e => Heap.get?_push_of_some _ e) { cls := .type "tuple", data := .seq zs.toArray }
  exact h _ _ ((F.push _).push _) N1
end
end Mine

namespace Mine
section
variable {h₀ h h' : Heap} {L : Addr} {m : Str → Option Value} {news news' n1 n2 : List (Addr × Obj)} {x dx : Addr} {o1 o1' o2 o2' : Obj}
abbrev but2 (x dx : Addr) (news : List (Addr × Obj)) : List (Addr × Obj) := news.filter (fun p => decide (p.1 ≠ x) && decide (p.1 ≠ dx))
theorem but2_x : ∀ p ∈ but2 x dx news, p.1 ≠ x := fun p hp => by
  have := (List.mem_filter.mp hp).2
  simp only [Bool.and_eq_true, decide_eq_true_eq] at this
  exact this.1
theorem but2_dx : ∀ p ∈ but2 x dx news, p.1 ≠ dx := fun p hp => by
  have := (List.mem_filter.mp hp).2
  simp only [Bool.and_eq_true, decide_eq_true_eq] at this
  exact this.2
theorem own2 (N : News h₀ L h news) (h1 : (x, o1) ∈ news) (h2 : (dx, o2) ∈ news) : News h₀ L h ((x, o1) :: (dx, o2) :: but2 x dx news) := fun p hp => by
  rcases List.mem_cons.mp hp with rfl | hp
  · exact N _ h1
  rcases List.mem_cons.mp hp with rfl | hp
  · exact N _ h2
  exact N _ (List.mem_filter.mp hp).1
theorem lt_all {t : Nat} {l : List (Addr × Obj)} (h : AllLt t l) : ∀ p ∈ l, @LT.lt Nat _ p.1 t := by
  induction l with
  | nil => intro p hp; cases hp
  | cons a r ih =>
    intro p hp
    rcases List.mem_cons.mp hp with e | hp
    · rw [e]; exact h.1
    · exact ih h.2 p hp
theorem but2_lt {t : Nat} (h : @LT.lt Nat _ x t ∧ @LT.lt Nat _ dx t ∧ AllLt t (but2 x dx news)) : ∀ p ∈ news, @LT.lt Nat _ p.1 t := fun p hp => by
  by_cases e1 : p.1 = x
  · rw [e1]; exact h.1
  by_cases e2 : p.1 = dx
  · rw [e2]; exact h.2.1
  exact lt_all h.2.2 p (List.mem_filter.mpr ⟨hp, by simp only [Bool.and_eq_true, decide_eq_true_eq]; exact ⟨e1, e2⟩⟩)
theorem upd_in (U : Upd x o1 o1' news news') {p : Addr × Obj} (hp : p ∈ news') : p = (x, o1') ∨ (p ∈ news ∧ p.1 ≠ x) := by
  obtain ⟨pre, post, rfl, rfl, a, b⟩ := U.split
  rcases List.mem_append.mp hp with q | q
  · exact .inr ⟨List.mem_append_left _ q, a p q⟩
  · rcases List.mem_cons.mp q with rfl | q
    · exact .inl rfl
    · exact .inr ⟨List.mem_append_right _ (.tail _ q), b p q⟩
theorem same_of (N : News h₀ L h news) (h2 : (dx, o2) ∈ news) {p : Addr × Obj} (hp : p ∈ news) (e : p.1 = dx) : p = (dx, o2) := by
  have a := (N _ hp).1
  have b := (N _ h2).1
  obtain ⟨pa, po⟩ := p
  dsimp only at e a
  subst e
  rw [b] at a
  exact congrArg (Prod.mk pa) (Option.some.inj a).symm
theorem back1 {own : List (Addr × Obj)} (N : News h₀ L h news) (h2 : (dx, o2) ∈ news) (U : Upd x o1 o1' news news') (N' : News h₀ L h' (own ++ but2 x dx news)) (m1 : (x, o1') ∈ own) (m2 : (dx, o2) ∈ own) : News h₀ L h' news' := fun p hp => by
  rcases upd_in U hp with rfl | ⟨q, hx⟩
  · exact N' _ (List.mem_append_left _ m1)
  · by_cases e : p.1 = dx
    · rw [same_of N h2 q e]; exact N' _ (List.mem_append_left _ m2)
    · exact N' _ (List.mem_append_right _ (List.mem_filter.mpr ⟨q, by simp only [Bool.and_eq_true, decide_eq_true_eq]; exact ⟨hx, e⟩⟩))
theorem back2 {own : List (Addr × Obj)} (U : Upd x o1 o1' news n1) (U2 : Upd dx o2 o2' n1 n2) (N' : News h₀ L h' (own ++ but2 x dx news)) (m1 : (x, o1') ∈ own) (m2 : (dx, o2') ∈ own) : News h₀ L h' n2 := fun p hp => by
  rcases upd_in U2 hp with rfl | ⟨q, hx⟩
  · exact N' _ (List.mem_append_left _ m2)
  · rcases upd_in U q with rfl | ⟨q, hx'⟩
    · exact N' _ (List.mem_append_left _ m1)
    · exact N' _ (List.mem_append_right _ (List.mem_filter.mpr ⟨q, by simp only [Bool.and_eq_true, decide_eq_true_eq]; exact ⟨hx', hx⟩⟩))
end
end Mine

namespace Mine
open Sem (wp)
abbrev tabO (ps : Array Value) : Obj := { cls := .none, data := .fields ps }
section
variable {prog : Program} {w : World} {A : Around} {E : Value → Shared → Prop} {s : Shared} {K : Frag} {h₀ : Heap} {L : Addr} {m mg mb : Str → Option Value} {news : List (Addr × Obj)} {p : Program} {loose : List Str} {mean : ExcName → Option Value} {x dx c P : Addr} {o : Obj} {its : List Value} {n : Nat} {ps : Array Value}
theorem code_either {env : Env} {pos : Pos} {qualname : Str} {scope : Scope} {Q : Value → Shared → Prop} (hc : env.code = .ref c) (hok : s.heap.IsCode c P ps) (htab : s.heap.TableAt c P ps)
    (h : ∀ code h' tk more, Heap.ExtBut P s.heap h' → s.heap.objs.size ≤ h'.objs.size → h'.IsCode c P (ps ++ more) → h'.TableAt c P (ps ++ more) → Q code { s with heap := h', toks := tk }) : wpAny (model prog w) A (genexprCode env pos qualname scope) Q E s := by
  cases hnf : codeAmong pos ps.toList with
  | none => exact wpAny_genexprCodeX hc hok htab hnf fun c' h' tk a b d e _ g _ => h _ _ _ _ a (Nat.le_trans b (Nat.le_of_lt d)) e g
  | some cv =>
    obtain ⟨o, vs, file, tf, flags, tg, inF, text, tt, op, ho, hd, h11, h2, h7, h9, h10, hop, hpd, htr, hne⟩ := id hok
    unfold genexprCode codeAt
    rw [hc, if_neg (show ¬ ((Value.ref c == Value.none) = true) from Bool.false_ne_true)]
    refine wpAny_bind (wpAny_fieldsOf ho hd ?_)
    rw [h11]
    refine wpAny_bind (wpAny_fieldsOf hop hpd ?_)
    rw [hnf]
    have := h cv s.heap s.toks #[] (Heap.ExtBut.refl _ _) (Nat.le_refl _) (by simpa using hok) (by simpa using htab)
    exact wpAny_pure this

structure TabFacts (K : Frag) (c P : Addr) : Prop where
  ex : ∃ co vs file tf flags tg inF text tt, K.lookup c = some co ∧ co.cls = .type "code" ∧ co.data = .fields vs ∧ vs[11]? = some (.ref P) ∧ vs.getD 11 .none = .ref P ∧ vs.getD 18 .none = .str file tf ∧ vs.getD 7 .none = .int flags tg ∧ vs.getD 9 .none = .bool inF ∧ vs.getD 10 .none = .int text tt ∧ c ≠ P
theorem isCode_of {h : Heap} (X : K.In h) (hT : TabFacts K c P) (hP : h.get? P = some (tabO ps)) (htr : TriplesOk ps.toList) : h.IsCode c P ps ∧ h.TableAt c P ps := by
  obtain ⟨co, vs, file, tf, flags, tg, inF, text, tt, e1, e2, e3, e4, e5, e6, e7, e8, e9, e10⟩ := hT.ex
  exact ⟨⟨co, vs, file, tf, flags, tg, inF, text, tt, _, X _ _ e1, e3, e5, e6, e7, e8, e9, hP, rfl, htr, e10⟩, ⟨co, vs, X _ _ e1, e2, e3, e4⟩, hP⟩

def GenX (prog : Program) (w : World) (A : Around) (b0 : Nat) (a : Addr) (n : Nat) (F : Nat → Value → Prop) (s : Shared) : Prop :=
  ∃ fp wr g St, WalksS prog w A.in4 a fp wr (GenOnlyQ g) n F St ∧ St 0 s ∧ (∀ i s', St i s' → s'.TypeIs (.ref a) "generator") ∧ a ∈ fp ∧ (∀ b ∈ fp, b < s.heap.objs.size) ∧ ∀ b ∈ wr, @LE.le Nat _ b0 b

theorem walksS_F {I : Addr} {fp wr : List Addr} {G : Array GenState → Array GenState → Prop} {P P' : Nat → Value → Prop} {St : Nat → Shared → Prop} (W : WalksS prog w A I fp wr G n P St) (hP : ∀ i v, i < n → P i v → P' i v) : WalksS prog w A I fp wr G n P' St where
  sub := W.sub
  grefl := W.grefl
  gtrans := W.gtrans
  frame := W.frame
  item := fun i s Q E hi st hQ => W.item i s Q E hi st fun v s' h => hQ v s' (hP i v hi h)
  done := W.done
  self := W.self
theorem passing_all (n : Nat) : passing (fun _ => true) n 0 = List.range n := by simp [passing]

theorem gen_eval {q : Str} {sc gsc : Scope} {f : Addr} {xa xb : Str} {pa pb pt px pos : Pos} {kt : Nat} {elt : PySem.Expr} {ws : List (Addr × Str)} {e : Str} {D : Nat → Value → Prop} {nw : Obj → List (Addr × Obj)} {Q : Value → Shared → Prop}
    (hh : A.handled = none) (hroom : A.depth < recursionLimit) (F : Fr h₀ L s.heap m) (X₀ : K.In h₀) (N : News h₀ L s.heap news) (T : Top p loose mean mg mb h₀) (G : AllBare s.gens)
    (h1 : (x, accO dx its n) ∈ news) (h2 : (dx, o) ∈ news) (U : ∀ o', Upd P (tabO ps) o' news (nw o')) (htr : TriplesOk ps.toList) (hT : TabFacts K c P)
    (hits : its = ws.map (fun a => .ref a.1)) (hws : ∀ a ∈ ws, ∃ tf tp, (a.1, tupO (.str e tf) (.str a.2 tp)) ∈ news) (hPn : ∀ a ∈ ws, a.1 ≠ P)
    (hself : m (Str.ofString "self") = some (.ref x)) (hsck : sc.kind = .function) (hl : sc.names.lookup (Str.ofString "self") = some .local)
    (hm : mroIn K 178 (.type "list") = some true) (hi : findIn K (.ref 178) "__iter__" = some (some (.builtin "list.__iter__")))
    (hco : gsc.isCoroutine = false) (hclos : closureFor gsc (envOf q sc L f (.ref c)) = pure []) (hcell : ∀ y ∈ gsc.names, y.2 ≠ .cell) (hz : gsc.names.lookup (".0" : Str) = some NameKind.local)
    (hxa : gsc.names.lookup xa = some .local) (hxb : gsc.names.lookup xb = some .local) (hab : xa ≠ xb) (hkind : gsc.kind = .function)
    (helt : ∀ (code : Value) (C : Addr) (A' : Around) (E' : Value → Shared → Prop) (i : Nat) (a : Addr × Str) (tf tp : Tok) (u : Shared) (m₂ : Str → Option Value), A'.handled = none → ws[i]? = some a → u.heap.Ns C m₂ → m₂ xa = some (.str e tf) → m₂ xb = some (.str a.2 tp) →
      u.heap.Ns mainGlobals mg → u.heap.Ns builtinsNs mb → wpAny (model prog w) A' (eval elt (genEnv gsc [] C code builtinsNs (envOf q sc L f (.ref c)))) (fun y s₃ => D i y ∧ Keeps u s₃) E' u)
    (h : ∀ a s' more, Fr h₀ L s'.heap m → News h₀ L s'.heap (nw (tabO (ps ++ more))) → AllBare s'.gens → s'.os = s.os → TriplesOk (ps ++ more).toList → GenX prog w A s.heap.objs.size a ws.length D s' → Q (.ref a) s') :
    wpAny (model prog w) A (eval (.GeneratorExp elt [⟨.Tuple [.Name xa pa, .Name xb pb] kt pt, .Name (Str.ofString "self") px, [], 0⟩] gsc pos) (envOf q sc L f (.ref c))) Q E s := by
  have X : K.In s.heap := X₀.keeps F.keep
  refine wpAny_GeneratorExp_walksQT (cl := []) hh hco hclos hcell hz hxa hxb hab hkind hroom ?_ (fun y => rfl)
  refine ld F hself ?_ hsck hl
  refine acc_iter X (accI N h1 h2) hm hi ?_
  have hx : s.heap.get? x = some (accO dx its n) := (N _ h1).1
  have hPg : s.heap.get? P = some (tabO ps) := (N _ (upd_mem (U (tabO ps)))).1
  have hPlt : P < s.heap.objs.size := Heap.lt_size hPg
  have hlim : s.heap.NoLimit := T.nolimit.keeps F.keep
  refine ⟨hlim.push _, ?_⟩
  obtain ⟨ok, tab⟩ := isCode_of (h := s.heap.push { cls := .type "list_iterator", data := .fields #[.ref x, .int 0 0] }) (X.keeps fun _ _ e => Heap.get?_push_of_some _ e) hT (Heap.get?_push_of_some _ hPg) htr
  refine code_either rfl ok tab fun code h' tk more hx' hsz ok' tab' => ?_
  have keep' : ∀ b o, b ≠ P → s.heap.get? b = some o → h'.get? b = some o := fun b o hb e => hx' b o hb (Heap.get?_push_of_some _ e)
  have nP : ∀ {b : Addr} {oo : Obj} {es ep}, s.heap.get? b = some oo → oo.data = .dict es ep → b ≠ P := fun {b oo es ep} e1 e2 e => by
    rw [e, hPg] at e1; cases e1; cases e2
  obtain ⟨bm, ob, e1, e2, e3, e4, e5, e6⟩ := T.bmain
  have nsP : ∀ {b : Addr} {mm}, h₀.Ns b mm → h'.Ns b mm := fun {b mm} hn => by
    obtain ⟨on, es, ep, a1, a2, a3, a4⟩ := hn
    exact ⟨on, es, ep, keep' _ _ (nP (F.keep _ _ a1) a2) (F.keep _ _ a1), a2, a3, a4⟩
  have hg' : h'.Ns mainGlobals mg := nsP T.g
  have hb' : h'.Ns builtinsNs mb := nsP T.b
  have bmP : bm ≠ P := fun e => by
    have := F.keep _ _ e3
    rw [e, hPg] at this; cases this; cases e4
  refine wpAny_builtinsFor hg' e1 e2 (keep' _ _ bmP (F.keep _ _ e3)) e4 e5 e6 ?_
  have hlim' : h'.NoLimit := by
    obtain ⟨mc, hn, hmc⟩ := T.nodigits
    obtain ⟨mc2, hn2, hr⟩ := T.nolimit
    exact ⟨mc2, nsP hn2, hr⟩
  have hsz0 : s.heap.objs.size < h'.objs.size := by rw [Heap.size_push] at hsz; exact hsz
  -- the walk over the parts
  let Ts : Nat → Addr := fun j => (ws[j]?.map fun a => a.1).getD 0
  have hlen : its.toArray.size = ws.length := by simp [hits]
  obtain ⟨vals, valsAt⟩ := Classical.axiomOfChoice (r := fun (j : Nat) (v : Array Value) => ∀ a, ws[j]? = some a → ∃ tf tp, v = #[.str e tf, .str a.2 tp] ∧ (a.1, tupO (.str e tf) (.str a.2 tp)) ∈ news) (fun j => by
    cases ha : ws[j]? with
    | none => exact ⟨#[], fun a h => by cases h⟩
    | some a =>
      obtain ⟨tf, tp, hm⟩ := hws a (List.mem_of_getElem? ha)
      exact ⟨_, fun b hb => by cases hb; exact ⟨tf, tp, rfl, hm⟩⟩)
  have at' : ∀ j, j < its.toArray.size → ∃ a, ws[j]? = some a := fun j hj => ⟨ws[j]'(hlen ▸ hj), by simp⟩
  have hTs : ∀ j, j < its.toArray.size → ∃ a, ws[j]? = some a ∧ Ts j = a.1 := fun j hj => by
    obtain ⟨a, ha⟩ := at' j hj
    exact ⟨a, ha, by simp [Ts, ha]⟩
  have hTlt : ∀ j, j < its.toArray.size → Ts j < s.heap.objs.size := fun j hj => by
    obtain ⟨a, ha, ea⟩ := hTs j hj
    obtain ⟨tf, tp, _, hmem⟩ := valsAt j a ha
    rw [ea]; exact Heap.lt_size (N _ hmem).1
  have hxlt : x < s.heap.objs.size := Heap.lt_size hx
  have hxP : x ≠ P := fun e => by rw [e, hPg] at hx; cases hx
  have tupAt : ∀ (hh' : Heap), (∀ b o, b ≠ P → s.heap.get? b = some o → hh'.get? b = some o) → ∀ k, k < its.toArray.size → hh'.IsTuple (Ts k) (vals k) := fun hh' hk' k hk => by
    obtain ⟨a, ha, ea⟩ := hTs k hk
    obtain ⟨tf, tp, ev, hmem⟩ := valsAt k a ha
    rw [ea, ev]
    exact ⟨_, hk' _ _ (hPn a (List.mem_of_getElem? ha)) (N _ hmem).1, rfl, 0, rfl⟩
  have W := fun (A' : Around) (hA : A'.handled = none) => walk_tuples (prog := prog) (w := w) hA s.heap.objs.size x (Nat.ne_of_lt hxlt) its.toArray Ts vals
    (fun j hj => by obtain ⟨a, ha, ea⟩ := hTs j hj; rw [ea]; simp [hits, ha]) (fun j hj => Nat.ne_of_lt (hTlt j hj))
  refine ⟨s.heap.objs.size, _, _, _, _, _, _, (fun _ => true), D, rfl, W, ?_, ⟨?_, ?_, tupAt h' keep'⟩, ?_, hlim', ?_, ?_, ?_⟩
  · rintro i v ⟨hi, rfl⟩
    obtain ⟨a, ha⟩ := at' i hi
    obtain ⟨tf, tp, ev, _⟩ := valsAt i a ha
    exact ⟨_, _, ev⟩
  · exact ⟨_, hx' _ _ (Nat.ne_of_gt hPlt) (Heap.get?_push_size _ rfl), rfl, rfl⟩
  · exact ⟨_, _, keep' _ _ hxP hx, rfl⟩
  · intro b hb
    rcases List.mem_cons.mp hb with rfl | hb
    · exact hsz0
    · rcases List.mem_cons.mp hb with rfl | hb
      · exact Nat.lt_trans hxlt hsz0
      · obtain ⟨k, hk, rfl⟩ := List.mem_map.mp hb
        exact Nat.lt_trans (hTlt k (List.mem_range.mp hk)) hsz0
  · intro hb
    rcases List.mem_cons.mp hb with hb | hb
    · obtain ⟨_, hn, _⟩ := hlim
      exact absurd hn.lt (by rw [hb]; exact Nat.lt_irrefl _)
    · cases hb
  · intro href hhref
    have hq : ∀ (A' : Around) E' i va vb (s₂ : Shared) m₂, A'.handled = none → (i < its.toArray.size ∧ (#[va, vb] : Array Value) = vals i) → s₂.heap.Ns h'.objs.size m₂ → m₂ xa = some va → m₂ xb = some vb → (∀ b ∈ List.range h'.objs.size, b ∉ [s.heap.objs.size] → ∀ o, href.get? b = some o → s₂.heap.get? b = some o) →
        wpAny (model prog w) A' (eval elt (genEnv gsc [] h'.objs.size code builtinsNs (envOf q sc L f (.ref c)))) (fun y s₃ => D i y ∧ Keeps s₂ s₃) E' s₂ := by
      intro A' E' i va vb s₂ m₂ hA hP hn hma hmb hk
      obtain ⟨hi', ev⟩ := hP
      obtain ⟨a, ha⟩ := at' i hi'
      obtain ⟨tf, tp, ev', _⟩ := valsAt i a ha
      rw [ev'] at ev
      obtain ⟨r1, r2⟩ : va = .str e tf ∧ vb = .str a.2 tp := by simpa using congrArg Array.toList ev
      subst r1 r2
      have up : ∀ {b : Addr} {mm}, h₀.Ns b mm → s₂.heap.Ns b mm := fun {b mm} hn0 => by
        obtain ⟨on, es, ep, a1, a2, a3, a4⟩ := nsP hn0
        obtain ⟨on0, _, _, b1, _⟩ := hn0
        have hlt0 : b < s.heap.objs.size := Heap.lt_size (F.keep _ _ b1)
        exact ⟨on, es, ep, hk b (List.mem_range.mpr (Nat.lt_trans hlt0 hsz0)) (by simp only [List.mem_cons, List.not_mem_nil, or_false]; exact Nat.ne_of_lt hlt0) _ (hhref _ _ a1), a2, a3, a4⟩
      exact helt code h'.objs.size A' E' i a tf tp s₂ m₂ hA ha hn hma hmb (up T.g) (up T.b)
    exact { tests := fun A' E' i va vb s₂ m₂ _ _ _ _ _ _ => wpAny_pure ⟨rfl, s₂.heap, s₂.toks, rfl, fun _ _ e => e⟩, elt := fun A' E' i va vb s₂ m₂ a1 a2 _ a3 a4 a5 a6 => hq A' E' i va vb s₂ m₂ a1 a2 a3 a4 a5 a6 }
  · intro a h₅ tk' gs hgb hag hsz₅ hk₅ Wg hat
    rw [hlen] at Wg hat
    rw [passing_all, List.length_range] at Wg
    have kp : ∀ b o, b ≠ P → s.heap.get? b = some o → h₅.get? b = some o := fun b o hb e => hk₅ b o (keep' b o hb e)
    have hLP : L ≠ P := fun e => by
      obtain ⟨oL, es, ep, a1, a2, _⟩ := F.ns
      rw [e, hPg] at a1; cases a1; cases a2
    have hPn0 : h₀.get? P = none := (N _ (upd_mem (U (tabO ps)))).2.2
    have F5 : Fr h₀ L h₅ m := by
      obtain ⟨oL, es, ep, a1, r⟩ := F.ns
      exact ⟨⟨oL, es, ep, kp _ _ hLP a1, r⟩, fun b oo ee => kp b oo (fun q => by rw [q, hPn0] at ee; cases ee) (F.keep b oo ee), F.above⟩
    have N5 : News h₀ L h₅ (nw (tabO (ps ++ more))) := fun pp hp => by
      rcases upd_in (U (tabO (ps ++ more))) hp with rfl | ⟨hq, hne⟩
      · exact ⟨hk₅ _ _ tab'.2, (N _ (upd_mem (U (tabO ps)))).2⟩
      · exact ⟨kp _ _ hne (N _ hq).1, (N _ hq).2⟩
    have htr' : TriplesOk (ps ++ more).toList := by
      obtain ⟨_, _, _, _, _, _, _, _, _, _, _, _, _, _, _, _, _, _, _, r, _⟩ := ok'
      exact r
    refine h a _ more F5 N5 (G.push hgb) rfl htr' ⟨_, _, _, _, walksS_F Wg (fun i v hi hP => ?_), hat, (fun i s' st => st.1.typeIs), List.mem_cons_self, ?_, ?_⟩
    · obtain ⟨j, hj, hD⟩ := hP
      have : j = i := by
        rw [List.getElem?_range (by exact hi)] at hj
        exact (Option.some.inj hj).symm
      exact this ▸ hD
    · intro b hb
      show b < h₅.objs.size
      rw [hsz₅]
      rcases List.mem_cons.mp hb with rfl | hb
      · exact Nat.lt_succ_self _
      · rcases List.mem_cons.mp hb with rfl | hb
        · exact Nat.lt_succ_of_lt hag
        · exact Nat.lt_succ_of_lt (Nat.lt_trans (List.mem_range.mp hb) hag)
    · intro b hb
      rcases List.mem_cons.mp hb with rfl | hb
      · exact Nat.le_of_lt hsz0
      · rcases List.mem_cons.mp hb with rfl | hb
        · exact Nat.le_refl _
        · cases hb
end
end Mine

namespace Mine
open Sem (wp)
section
variable {prog : Program} {w : World} {A : Around} {E : Value → Shared → Prop} {s s0 : Shared} {h₀ : Heap} {L : Addr} {m : Str → Option Value} {news : List (Addr × Obj)} {a : Addr} {b0 n : Nat} {D : Nat → Value → Prop}
theorem args_sum2 (a b : Value) : argsOk "sum" ⟨[a, b], []⟩ := by unfold argsOk; kernel_rfl
/-- what lies below b0 is kept -/
def KeptBelow (b0 : Nat) (s s' : Shared) : Prop := ∀ b o, @LT.lt Nat _ b b0 → s.heap.get? b = some o → s'.heap.get? b = some o
theorem kept_Fr {s s' : Shared} (F : Fr h₀ L s.heap m) (hL : @LT.lt Nat _ L b0) (hk : KeptBelow b0 s s') : Fr h₀ L s'.heap m := by
  obtain ⟨oL, es, ep, a1, r⟩ := F.ns
  exact ⟨⟨oL, es, ep, hk _ _ hL a1, r⟩, fun b o e => hk b o (Nat.lt_trans (Nat.lt_of_lt_of_le (Heap.lt_size e) F.above) hL) (F.keep b o e), F.above⟩
theorem kept_News {s s' : Shared} (N : News h₀ L s.heap news) (hb : ∀ p ∈ news, @LT.lt Nat _ p.1 b0) (hk : KeptBelow b0 s s') : News h₀ L s'.heap news := fun p hp => ⟨hk _ _ (hb p hp) (N p hp).1, (N p hp).2⟩

theorem sum_gen {t : Tok} {val : Nat → Int} {Q : Value → Shared → Prop} (G : AllBare s.gens) (X : GenX prog w A b0 a n D s) (hval : ∀ j v, D j v → ∃ t, v = .int (val j) t) (hfit : ∀ j, j < n → InLong (val j) ∧ InLong (preSum val (j + 1)))
    (hQ : ∀ s' t', KeptBelow b0 s s' → AllBare s'.gens → s'.os = s.os → Q (.int (preSum val n) t') s') : wpAny (model prog w) A (call (.builtin "sum") [.ref a, .int 0 t]) Q E s := by
  obtain ⟨fp, wr, g, St, W, hst, _, _, hfp, hwr⟩ := X
  have W := W.in4_1
  refine call_function_tree PySem.F.kind_sum PySem.F.plain_sum PySem.F.entry_sum (args_sum2 _ _) ?_
  unfold Builtin.«sum»
  simp only [List.length_cons, List.length_nil]
  rw [if_neg (by decide)]
  refine wpAny_bind (wpAny_of_eq (show Builtin.Builtins.bindParams "sum" ["start"] 0 ⟨[.int 0 t], []⟩ = pure [some (.int 0 t)] from rfl) ?_)
  refine wpAny_bind (W.self 0 _ _ _ hst ?_)
  dsimp only
  rw [if_pos (by decide)]
  refine wpAny_bind (m := rule _) (wpAny_rule ?_)
  refine wpAny_bind (wpAny_mkInt ?_)
  refine wpAny_bind (wpAny_pure ?_)
  simp only [List.forIn_cons, List.forIn_nil]
  refine wpAny_bind (wpAny_bind (wpAny_bind (wpAny_isInstance (T := "int") (b := false) (typeIs_int _ _ _) PySem.sub_int_str ?_)))
  simp only [Bool.false_eq_true, if_false]
  refine wpAny_pure (wpAny_bind (wpAny_bind (wpAny_isInstance (T := "int") (b := false) (typeIs_int _ _ _) PySem.sub_int_bytes ?_)))
  simp only [Bool.false_eq_true, if_false]
  refine wpAny_pure (wpAny_bind (wpAny_bind (wpAny_isInstance (T := "int") (b := false) (typeIs_int _ _ _) PySem.sub_int_bytearray ?_)))
  simp only [Bool.false_eq_true, if_false]
  refine wpAny_pure (wpAny_pure ?_)
  refine wpAny_bind (wpAny_newObj_type ?_)
  have hSf : s.heap.objs.size ∉ fp := fun hm => Nat.lt_irrefl _ (hfp _ hm)
  refine wpAny_pure ⟨plainId_quiet PySem.F.plain_sum_loop _, codeAny_sum_loopS W val hval hfit s.heap.objs.size hSf n 0 _ s.toks 0 rfl (Nat.zero_le _)
    (W.frame 0 s _ _ hst (by first | exact Nat.le_refl _ | exact Nat.le_succ _ | lia) fun b _ o e => Heap.get?_push_of_some _ e) (Heap.get?_push_size _ rfl) fun s' t' hm => ?_⟩
  have hm' := hm.drop_new (by first | exact Nat.le_refl _ | exact Nat.le_succ _ | lia)
  exact hQ s' t' (fun b o hb e => hm'.heap b o (fun h => absurd (hwr b h) (by lia)) e) (G.moved hm'.gens) hm'.os

/-- the state may have turned its tokens alone since the generator was made -/
theorem GenX.toks {tk : Nat} (X : GenX prog w A b0 a n D s) (h : s.toks ≤ tk) : GenX prog w A b0 a n D { s with toks := tk } := by
  obtain ⟨fp, wr, g, St, W, hst, r1, r2, r3, r4⟩ := X
  exact ⟨fp, wr, g, St, W, W.frame 0 s s.heap tk hst h fun _ _ _ e => e, r1, r2, r3, r4⟩

theorem join_gen {sep : Str} {t : Tok} {tx : Nat → Str} {Q : Value → Shared → Prop} (G : AllBare s.gens) (X : GenX prog w A b0 a n D s) (htx : ∀ j v, D j v → ∃ u, v = .str (tx j) u) (hok : JoinOk sep ((List.range n).map tx) = true)
    (hQ : ∀ s' t', KeptBelow b0 s s' → AllBare s'.gens → s'.os = s.os → Q (.str (Txt.join sep ((List.range n).map tx)) t') s') (hsz : n ≤ sizeLine) : wpAny (model prog w) A (call (.builtin "str.join") [.str sep t, .ref a]) Q E s := by
  obtain ⟨fp, wr, g, St, W, hst, hT, ha, hfp, hwr⟩ := X
  have W := W.in4_2
  refine SC.joinGen W hT hst hfp ha (fun j v hv => let ⟨u, e⟩ := htx j v hv; ⟨_, u, e⟩) (fun s' lt hm hacc => ?_) hsz
  have hl : lt.map (·.1) = (List.range n).map tx := by
    have hlen : lt.length = n := by simpa [strValues] using hacc.1
    refine List.ext_getElem (by simp [hlen]) fun j h1 h2 => ?_
    have hj' : j < lt.length := by simpa using h1
    obtain ⟨u, hv⟩ := htx j _ (hacc.2 j (.str lt[j].1 lt[j].2) (by simp [strValues, List.getElem?_eq_getElem hj']))
    injection hv with h1 _
    simp [h1]
  rw [hl]
  exact ⟨hok, fun t' k => hQ { s' with toks := k } t' (fun b o hb e => hm.heap b o (fun h => absurd (hwr b h) (by lia)) e) (G.moved hm.gens) hm.os⟩
end
end Mine

namespace Mine
section
variable {prog : Program} {w : World} {A : Around} {E : Value → Shared → Prop} {u : Shared} {gsc : Scope} {C : Addr} {code : Value} {env : Env} {m₂ mg mb : Str → Option Value}
theorem gLocal {x : Str} {px : Pos} {v : Value} {Q : Value → Shared → Prop} (hk : gsc.kind = .function) (hl : (genEnv gsc [] C code builtinsNs env).kindOf x = some .local) (hn : u.heap.Ns C m₂) (hv : m₂ x = some v) (hd : (x == ("__debug__" : Str)) = false) (h : Q v u) :
    wpAny (model prog w) A (eval (.Name x px) (genEnv gsc [] C code builtinsNs env)) Q E u := wpAny_Name (wpAny_loadName_local hk hl hn hv h) hd
theorem gBuiltin {x : Str} {px : Pos} {v : Value} {Q : Value → Shared → Prop} (hk : gsc.kind = .function) (hx : (genEnv gsc [] C code builtinsNs env).kindOf x = some .globalImplicit) (he : env.globals = mainGlobals) (hg : u.heap.Ns mainGlobals mg) (hb : u.heap.Ns builtinsNs mb) (h1 : mg x = none) (h2 : mb x = some v) (hd : (x == ("__debug__" : Str)) = false) (h : Q v u) :
    wpAny (model prog w) A (eval (.Name x px) (genEnv gsc [] C code builtinsNs env)) Q E u :=
  Name_function_global hk hx (loadGlobal_builtin (env := genEnv gsc [] C code builtinsNs env) (show u.heap.Ns env.globals mg from he ▸ hg) h1 hb h2 h) hd
theorem gLen {x : Str} {p1 p2 p3 : Pos} {z : Str} {tz : Tok} {Q : Value → Shared → Prop} (hk : gsc.kind = .function) (hx : (genEnv gsc [] C code builtinsNs env).kindOf (Str.ofString "len") = some .globalImplicit) (hl : (genEnv gsc [] C code builtinsNs env).kindOf x = some .local) (he : env.globals = mainGlobals)
    (hg : u.heap.Ns mainGlobals mg) (hb : u.heap.Ns builtinsNs mb) (h1 : mg (Str.ofString "len") = none) (h2 : mb (Str.ofString "len") = some (.builtin "len")) (hn : u.heap.Ns C m₂) (hv : m₂ x = some (.str z tz)) (hd : (x == ("__debug__" : Str)) = false) (hsz : z.length < 2 ^ 62)
    (hst : starEach [PySem.Expr.Name x p2] (genEnv gsc [] C code builtinsNs env) = [(false, eval (.Name x p2) (genEnv gsc [] C code builtinsNs env))])
    (h : ∀ t tk, Q (.int (z.length : Nat) t) { u with toks := tk }) : wpAny (model prog w) A (eval (.Call (.Name (Str.ofString "len") p1) [.Name x p2] [] p3) (genEnv gsc [] C code builtinsNs env)) Q E u := by
  refine Call_name1 hst (gBuiltin hk hx he hg hb h1 h2 (by decide +kernel) (callWith_builtin1 (gLocal hk hl hn hv hd ?_)))
  refine SBL.len (by omega) ?_
  exact h _ _
theorem elt_len {xa xb : Str} {p1 p2 p3 p4 p5 p6 p7 : Pos} {e z : Str} {te tz : Tok} (hk : gsc.kind = .function) (hx : (genEnv gsc [] C code builtinsNs env).kindOf (Str.ofString "len") = some .globalImplicit) (hla : (genEnv gsc [] C code builtinsNs env).kindOf xa = some .local) (hlb : (genEnv gsc [] C code builtinsNs env).kindOf xb = some .local) (he : env.globals = mainGlobals)
    (hg : u.heap.Ns mainGlobals mg) (hb : u.heap.Ns builtinsNs mb) (h1 : mg (Str.ofString "len") = none) (h2 : mb (Str.ofString "len") = some (.builtin "len")) (hn : u.heap.Ns C m₂) (hva : m₂ xa = some (.str e te)) (hvb : m₂ xb = some (.str z tz)) (hda : (xa == ("__debug__" : Str)) = false) (hdb : (xb == ("__debug__" : Str)) = false) (hse : e.length < 2 ^ 62) (hsz : z.length < 2 ^ 62)
    (hsta : starEach [PySem.Expr.Name xa p2] (genEnv gsc [] C code builtinsNs env) = [(false, eval (.Name xa p2) (genEnv gsc [] C code builtinsNs env))]) (hstb : starEach [PySem.Expr.Name xb p5] (genEnv gsc [] C code builtinsNs env) = [(false, eval (.Name xb p5) (genEnv gsc [] C code builtinsNs env))]) :
    wpAny (model prog w) A (eval (.BinOp (.Call (.Name (Str.ofString "len") p1) [.Name xa p2] [] p3) .Add (.Call (.Name (Str.ofString "len") p4) [.Name xb p5] [] p6) p7) (genEnv gsc [] C code builtinsNs env)) (fun y s₃ => (∃ t, y = .int ((e.length : Int) + (z.length : Int)) t) ∧ Keeps u s₃) E u := by
  refine wpAny_BinOp (gLen hk hx hla he hg hb h1 h2 hn hva hda hse hsta fun t tk => ?_)
  refine gLen (u := { u with toks := tk }) hk hx hlb he hg hb h1 h2 hn hvb hdb hsz hstb fun t' tk' => ?_
  exact PyProof.Rows.add_int ⟨⟨_, rfl⟩, u.heap, _, rfl, fun _ _ e => e⟩
end
def partLen (ws : List (Addr × Str)) (j : Nat) : Int := ((ws[j]?.map fun a => (a.2.length : Int)).getD 0)
section
variable {prog : Program} {w : World} {A : Around} {E : Value → Shared → Prop} {s : Shared} {K : Frag} {h₀ : Heap} {L : Addr} {m mg mb : Str → Option Value} {news : List (Addr × Obj)} {p : Program} {loose : List Str} {mean : ExcName → Option Value} {x dx c P : Addr} {o : Obj} {its : List Value} {n : Nat} {ps : Array Value}
theorem genLen_K {q : Str} {sc gsc : Scope} {f : Addr} {xa xb : Str} {pa pb pt px pos p1 p2 p3 p4 p5 p6 p7 : Pos} {kt : Nat} {ws : List (Addr × Str)} {nw : Obj → List (Addr × Obj)} {Q : Value → Shared → Prop}
    (hh : A.handled = none) (hroom : A.depth < recursionLimit) (F : Fr h₀ L s.heap m) (X₀ : K.In h₀) (N : News h₀ L s.heap news) (T : Top p loose mean mg mb h₀) (G : AllBare s.gens)
    (h1 : (x, accO dx its n) ∈ news) (h2 : (dx, o) ∈ news) (U : ∀ o', Upd P (tabO ps) o' news (nw o')) (htr : TriplesOk ps.toList) (hT : TabFacts K c P)
    (hits : its = ws.map (fun a => .ref a.1)) (hws : ∀ a ∈ ws, ∃ tf tp, (a.1, tupO (.str (Str.ofString "") tf) (.str a.2 tp)) ∈ news) (hPn : ∀ a ∈ ws, a.1 ≠ P) (hlen : ∀ a ∈ ws, a.2.length ≤ 1000)
    (hself : m (Str.ofString "self") = some (.ref x)) (hsck : sc.kind = .function) (hl : sc.names.lookup (Str.ofString "self") = some .local)
    (hm : mroIn K 178 (.type "list") = some true) (hi : findIn K (.ref 178) "__iter__" = some (some (.builtin "list.__iter__"))) (hglen : nsIn K mainGlobals (Str.ofString "len") = some none)
    (hco : gsc.isCoroutine = false) (hclos : closureFor gsc (envOf q sc L f (.ref c)) = pure []) (hcell : ∀ y ∈ gsc.names, y.2 ≠ .cell) (hz : gsc.names.lookup (".0" : Str) = some NameKind.local)
    (hxa : gsc.names.lookup xa = some .local) (hxb : gsc.names.lookup xb = some .local) (hxl : gsc.names.lookup (Str.ofString "len") = some .globalImplicit) (hab : xa ≠ xb) (hkind : gsc.kind = .function) (hda : (xa == ("__debug__" : Str)) = false) (hdb : (xb == ("__debug__" : Str)) = false)
    (h : ∀ a s' more, Fr h₀ L s'.heap m → News h₀ L s'.heap (nw (tabO (ps ++ more))) → AllBare s'.gens → s'.os = s.os → TriplesOk (ps ++ more).toList → GenX prog w A s.heap.objs.size a ws.length (fun j y => ∃ t, y = .int (partLen ws j) t) s' → Q (.ref a) s') :
    wpAny (model prog w) A (eval (.GeneratorExp (.BinOp (.Call (.Name (Str.ofString "len") p1) [.Name xa p2] [] p3) .Add (.Call (.Name (Str.ofString "len") p4) [.Name xb p5] [] p6) p7) [⟨.Tuple [.Name xa pa, .Name xb pb] kt pt, .Name (Str.ofString "self") px, [], 0⟩] gsc pos) (envOf q sc L f (.ref c))) Q E s := by
  refine gen_eval (e := Str.ofString "") hh hroom F X₀ N T G h1 h2 U htr hT hits hws hPn hself hsck hl hm hi hco hclos hcell hz hxa hxb hab hkind (fun code C A' E' i a tf tp u m₂ hA ha hn hva hvb hg hb => ?_) h
  have hal : a.2.length ≤ 1000 := hlen a (List.mem_of_getElem? ha)
  refine wpAny_mono (elt_len hkind hxl hxa hxb rfl hg hb (mg_none_of X₀ T.g hglen) ((T.builtins _ (by decide +kernel)).trans boot_len) hn hva hvb hda hdb (by decide +kernel) (by omega) rfl rfl) (fun y s₃ r => ⟨?_, r.2⟩) fun _ _ z => z
  obtain ⟨t, rfl⟩ := r.1
  refine ⟨t, ?_⟩
  have : ((Str.ofString "").length : Int) = 0 := by decide +kernel
  simp only [partLen, ha, Option.map_some, Option.getD_some]
  rw [this, Int.zero_add]
end
end Mine

namespace Mine
theorem TabFacts.of {K : Frag} {c P : Addr} {oc : Value} {od : Option Addr} {osl : Array (Option Value)} {vs : Array Value} {file : Str} {tf tg tt : Tok} {flags text : Int} {inF : Bool} (e1 : K.lookup c = some ⟨oc, od, .fields vs, osl⟩) (e2 : oc = .type "code") (e4 : vs[11]? = some (.ref P)) (e6 : vs.getD 18 .none = .str file tf) (e7 : vs.getD 7 .none = .int flags tg) (e8 : vs.getD 9 .none = .bool inF) (e9 : vs.getD 10 .none = .int text tt) (e10 : c ≠ P) : TabFacts K c P :=
  ⟨⟨_, _, _, _, _, _, _, _, _, e1, e2, rfl, e4, by rw [Array.getD_eq_getD_getElem?, e4]; rfl, e6, e7, e8, e9, e10⟩⟩
def Bnd (b0 : Nat) (L : Addr) (news : List (Addr × Obj)) : Prop := @LT.lt Nat _ L b0 ∧ ∀ p ∈ news, @LT.lt Nat _ p.1 b0
def Parts (ws : List (Addr × Str)) (news : List (Addr × Obj)) : Prop := ∀ a ∈ ws, ∃ tf tp, (a.1, tupO (.str (Str.ofString "") tf) (.str a.2 tp)) ∈ news
theorem Parts.tail {ws : List (Addr × Str)} {news : List (Addr × Obj)} {p : Addr × Obj} (h : Parts ws news) : Parts ws (p :: news) := fun a ha => let ⟨tf, tp, hm⟩ := h a ha; ⟨tf, tp, .tail _ hm⟩
structure Fine (ws : List (Addr × Str)) : Prop where
  len : ∀ a ∈ ws, a.2.length ≤ 1000
  tab1 : ∀ a ∈ ws, a.1 ≠ 140
  tab2 : ∀ a ∈ ws, a.1 ≠ 147
  few : ws.length ≤ 1000
section
variable {prog : Program} {w : World} {A : Around} {E : Value → Shared → Prop} {s s0 : Shared} {K : Frag} {h₀ : Heap} {L : Addr} {m mg mb : Str → Option Value} {news : List (Addr × Obj)} {p : Program} {loose : List Str} {mean : ExcName → Option Value} {x dx c P : Addr} {o : Obj} {its : List Value} {n b0 : Nat} {ps : Array Value} {ws : List (Addr × Str)}
theorem bnd_of {nw : Obj → List (Addr × Obj)} {ob : Obj} (F : Fr h₀ L s.heap m) (N : News h₀ L s.heap news) (U : ∀ o', Upd P ob o' news (nw o')) (o' : Obj) : Bnd s.heap.objs.size L (nw o') := by
  obtain ⟨oL, _, _, hL, _⟩ := F.ns
  refine ⟨Heap.lt_size hL, fun p hp => ?_⟩
  rcases upd_in (U o') hp with rfl | ⟨hq, _⟩
  · exact Heap.lt_size (N _ (upd_mem (U o'))).1
  · exact Heap.lt_size (N _ hq).1
theorem genLenK {q : Str} {sc gsc : Scope} {f : Addr} {xa xb : Str} {pa pb pt px pos p1 p2 p3 p4 p5 p6 p7 : Pos} {kt : Nat} {nw : Obj → List (Addr × Obj)} {Q : Value → Shared → Prop}
    (hh : A.handled = none) (hroom : A.depth < recursionLimit) (F : Fr h₀ L s.heap m) (X₀ : K.In h₀) (N : News h₀ L s.heap news) (T : Top p loose mean mg mb h₀) (G : AllBare s.gens)
    (hself : m (Str.ofString "self") = some (.ref x)) (h1 : (x, accO dx (ws.map fun a => .ref a.1) n) ∈ news) (h2 : (dx, o) ∈ news) (U : ∀ o', Upd 140 (tabO ps) o' news (nw o')) (htr : TriplesOk ps.toList) (hT : TabFacts K c 140)
    (hws : Parts ws news) (hf : Fine ws) (hsck : sc.kind = .function) (hl : sc.names.lookup (Str.ofString "self") = some .local)
    (hm : mroIn K 178 (.type "list") = some true) (hi : findIn K (.ref 178) "__iter__" = some (some (.builtin "list.__iter__"))) (hglen : nsIn K mainGlobals (Str.ofString "len") = some none)
    (hco : gsc.isCoroutine = false) (hclos : closureFor gsc (envOf q sc L f (.ref c)) = pure []) (hcell : ∀ y ∈ gsc.names, y.2 ≠ .cell) (hz : gsc.names.lookup (".0" : Str) = some NameKind.local)
    (hxa : gsc.names.lookup xa = some .local) (hxb : gsc.names.lookup xb = some .local) (hxl : gsc.names.lookup (Str.ofString "len") = some .globalImplicit) (hab : xa ≠ xb) (hkind : gsc.kind = .function) (hda : (xa == ("__debug__" : Str)) = false) (hdb : (xb == ("__debug__" : Str)) = false)
    (h : ∀ a s' more, Fr h₀ L s'.heap m → News h₀ L s'.heap (nw (tabO (ps ++ more))) → AllBare s'.gens → s'.os = s.os → TriplesOk (ps ++ more).toList → Bnd s.heap.objs.size L (nw (tabO (ps ++ more))) → GenX prog w A s.heap.objs.size a ws.length (fun j y => ∃ t, y = .int (partLen ws j) t) s' → Q (.ref a) s') :
    wpAny (model prog w) A (eval (.GeneratorExp (.BinOp (.Call (.Name (Str.ofString "len") p1) [.Name xa p2] [] p3) .Add (.Call (.Name (Str.ofString "len") p4) [.Name xb p5] [] p6) p7) [⟨.Tuple [.Name xa pa, .Name xb pb] kt pt, .Name (Str.ofString "self") px, [], 0⟩] gsc pos) (envOf q sc L f (.ref c))) Q E s :=
  genLen_K hh hroom F X₀ N T G h1 h2 U htr hT rfl hws hf.tab1 hf.len hself hsck hl hm hi hglen hco hclos hcell hz hxa hxb hxl hab hkind hda hdb fun a s' more a1 a2 a3 a4 a5 a6 => h a s' more a1 a2 a3 a4 a5 (bnd_of F N U _) a6
def partsLen (ws : List (Addr × Str)) : Int := (ws.map fun a => (a.2.length : Int)).sum
theorem preSum_parts : ∀ (n : Nat) (ws : List (Addr × Str)), n ≤ ws.length → preSum (partLen ws) n = ((ws.take n).map fun a => (a.2.length : Int)).sum := by
  intro n
  induction n with
  | zero => intro ws _; simp [preSum]
  | succ k ih =>
    intro ws h
    rw [preSum, ih ws (by lia)]
    obtain ⟨a, ha⟩ : ∃ a, ws[k]? = some a := ⟨ws[k]'(by lia), by simp⟩
    rw [List.take_succ, ha]
    simp [partLen, ha]
theorem sum_bound : ∀ (l : List (Addr × Str)), (∀ a ∈ l, a.2.length ≤ 1000) → 0 ≤ (l.map fun a => (a.2.length : Int)).sum ∧ (l.map fun a => (a.2.length : Int)).sum ≤ 1000 * l.length
  | [], _ => by simp
  | a :: r, h => by
    have ih := sum_bound r fun b hb => h b (.tail _ hb)
    have ha := h a (.head _)
    simp only [List.map_cons, List.sum_cons, List.length_cons]
    lia
theorem genSumK {t : Tok} {tk : Nat} {Q : Value → Shared → Prop} {a : Addr} (F : Fr h₀ L s0.heap m) (N : News h₀ L s0.heap news) (G : AllBare s0.gens) (X : GenX prog w A b0 a ws.length (fun j y => ∃ t, y = .int (partLen ws j) t) s0) (hb : Bnd b0 L news) (hf : Fine ws) (htk : s0.toks ≤ tk)
    (h : ∀ s' t', Fr h₀ L s'.heap m → News h₀ L s'.heap news → AllBare s'.gens → s'.os = s0.os → Q (.int (partsLen ws) t') s') : wpAny (model prog w) A (call (.builtin "sum") [.ref a, .int 0 t]) Q E { s0 with toks := tk } := by
  refine sum_gen (s := { s0 with toks := tk }) (val := partLen ws) G (X.toks htk) (fun j v hv => hv) (fun j hj => ?_) fun s' t' hk hg ho => ?_
  · have hb1 := sum_bound (ws.take (j + 1)) fun a ha => hf.len a (List.mem_of_mem_take ha)
    have hl : (ws.take (j + 1)).length ≤ 1000 := by rw [List.length_take]; have := hf.few; lia
    have e1 := preSum_parts (j + 1) ws (by lia)
    obtain ⟨a, ha⟩ : ∃ a, ws[j]? = some a := ⟨ws[j]'(by lia), by simp⟩
    have hal := hf.len a (List.mem_of_getElem? ha)
    refine ⟨?_, ?_⟩
    · simp only [partLen, ha, Option.map_some, Option.getD_some, InLong]; lia
    · rw [e1]; simp only [InLong]; lia
  · have e := preSum_parts ws.length ws (Nat.le_refl _)
    rw [List.take_length] at e
    rw [e]
    exact h s' t' (kept_Fr F hb.1 hk) (kept_News N hb.2 hk) hg ho
end
end Mine

namespace Mine
section
variable {prog : Program} {w : World} {A : Around} {E : Value → Shared → Prop} {u : Shared} {gsc : Scope} {C : Addr} {code : Value} {env : Env} {m₂ mg mb : Str → Option Value}
theorem gGlobal {x : Str} {px : Pos} {v : Value} {Q : Value → Shared → Prop} (hk : gsc.kind = .function) (hx : (genEnv gsc [] C code builtinsNs env).kindOf x = some .globalImplicit) (he : env.globals = mainGlobals) (hg : u.heap.Ns mainGlobals mg) (h1 : mg x = some v) (hd : (x == ("__debug__" : Str)) = false) (h : Q v u) :
    wpAny (model prog w) A (eval (.Name x px) (genEnv gsc [] C code builtinsNs env)) Q E u :=
  Name_function_global hk hx (Calls.loadGlobal_global (env := genEnv gsc [] C code builtinsNs env) (show u.heap.Ns env.globals mg from he ▸ hg) h1 h) hd
theorem join_two (e z : Str) (he : e.length = 0) : Txt.join e [e, z] = z := by
  rw [eq_of_beq (join_plain_closes e [e, z])]
  have h0 : e = ⟨#[]⟩ := by
    obtain ⟨a⟩ := e
    congr
    exact Array.eq_empty_of_size_eq_zero (by simpa [Str.length] using he)
  subst h0
  rw [join_nil_cons, join_nil_cons]
  show (⟨#[]⟩ : Str) ++ (z ++ (⟨#[]⟩ : Str)) = z
  rw [Str.append_left_empty rfl, Str.append_right_empty rfl]
theorem elt_join {xa xb xg : Str} {p1 p2 p3 p4 p5 p6 : Pos} {k : Nat} {e z : Str} {te tg tz : Tok} (hk : gsc.kind = .function) (hx : (genEnv gsc [] C code builtinsNs env).kindOf xg = some .globalImplicit) (hla : (genEnv gsc [] C code builtinsNs env).kindOf xa = some .local) (hlb : (genEnv gsc [] C code builtinsNs env).kindOf xb = some .local) (he : env.globals = mainGlobals)
    (hg : u.heap.Ns mainGlobals mg) (h1 : mg xg = some (.str e tg)) (hn : u.heap.Ns C m₂) (hva : m₂ xa = some (.str e te)) (hvb : m₂ xb = some (.str z tz)) (hda : (xa == ("__debug__" : Str)) = false) (hdb : (xb == ("__debug__" : Str)) = false) (hdg : (xg == ("__debug__" : Str)) = false) (hse : e.length = 0) (hsz : z.length ≤ 1000) (hline : (p2.endLine == p6.line) = true)
    (hst : starEach [PySem.Expr.Name xa p3, .Name xb p4] (genEnv gsc [] C code builtinsNs env) = [(false, eval (.Name xa p3) (genEnv gsc [] C code builtinsNs env)), (false, eval (.Name xb p4) (genEnv gsc [] C code builtinsNs env))]) :
    wpAny (model prog w) A (eval (.Call (.Attribute (.Name xg p1) (Str.ofString "join") p2) [.Tuple [.Name xa p3, .Name xb p4] k p5] [] p6) (genEnv gsc [] C code builtinsNs env)) (fun y s₃ => (∃ t, y = .str z t) ∧ Keeps u s₃) E u := by
  refine Call_method1 rfl rfl hline (gGlobal hk hx he hg h1 hdg ?_)
  refine ⟨"str", "str.join", F.plainAttrs_str, F.slot_str_join, F.type_str_join, typeIs_str _ _ _, (fun _ e => nomatch e), ?_⟩
  refine Calls.callWith_builtin rfl (Calls.evalArgs_plain (Calls.spliced_cons ?_))
  refine Tuple_ ?_
  rw [hst]
  refine Calls.spliced_cons (gLocal hk hla hn hva hda (Calls.spliced_cons (gLocal hk hlb hn hvb hdb (Calls.spliced_nil ?_))))
  refine wpAny_newTuple ?_
  refine Calls.spliced_nil ?_
  refine PyProof.Rows.join_tuple (ys := [e, z]) ⟨_, Heap.get?_push_size _ rfl, rfl, _, rfl⟩ (.cons _ _ (.cons _ _ .nil)) (by simp; omega) fun t' k' => ?_
  refine ⟨⟨t', ?_⟩, _, _, rfl, fun b o e => Heap.get?_push_of_some _ e⟩
  rw [join_two e z hse]
end
end Mine

namespace Mine
def partTx (ws : List (Addr × Str)) (j : Nat) : Str := ((ws[j]?.map fun a => a.2).getD (Str.ofString ""))
def partsTxt (ws : List (Addr × Str)) : Str := Txt.join (Str.ofString "") (ws.map (·.2))
theorem range_parts (ws : List (Addr × Str)) : (List.range ws.length).map (partTx ws) = ws.map (·.2) := by
  refine List.ext_getElem (by simp) fun j h1 h2 => ?_
  have hj : j < ws.length := by simpa using h1
  simp [partTx, hj]
section
variable {prog : Program} {w : World} {A : Around} {E : Value → Shared → Prop} {s s0 : Shared} {K : Frag} {h₀ : Heap} {L : Addr} {m mg mb : Str → Option Value} {news : List (Addr × Obj)} {p : Program} {loose : List Str} {mean : ExcName → Option Value} {x dx c P : Addr} {o : Obj} {its : List Value} {n b0 : Nat} {ps : Array Value} {ws : List (Addr × Str)}
theorem genStrK {q : Str} {sc gsc : Scope} {f : Addr} {xa xb xg : Str} {tg : Tok} {pa pb pt px pos p1 p2 p3 p4 p5 p6 : Pos} {kt k : Nat} {nw : Obj → List (Addr × Obj)} {Q : Value → Shared → Prop}
    (hh : A.handled = none) (hroom : A.depth < recursionLimit) (F : Fr h₀ L s.heap m) (X₀ : K.In h₀) (N : News h₀ L s.heap news) (T : Top p loose mean mg mb h₀) (G : AllBare s.gens)
    (hself : m (Str.ofString "self") = some (.ref x)) (h1 : (x, accO dx (ws.map fun a => .ref a.1) n) ∈ news) (h2 : (dx, o) ∈ news) (U : ∀ o', Upd 147 (tabO ps) o' news (nw o')) (htr : TriplesOk ps.toList) (hT : TabFacts K c 147)
    (hws : Parts ws news) (hf : Fine ws) (hsck : sc.kind = .function) (hl : sc.names.lookup (Str.ofString "self") = some .local)
    (hm : mroIn K 178 (.type "list") = some true) (hi : findIn K (.ref 178) "__iter__" = some (some (.builtin "list.__iter__"))) (hglo : nsIn K mainGlobals xg = some (some (.str (Str.ofString "") tg)))
    (hco : gsc.isCoroutine = false) (hclos : closureFor gsc (envOf q sc L f (.ref c)) = pure []) (hcell : ∀ y ∈ gsc.names, y.2 ≠ .cell) (hz : gsc.names.lookup (".0" : Str) = some NameKind.local)
    (hxa : gsc.names.lookup xa = some .local) (hxb : gsc.names.lookup xb = some .local) (hxl : gsc.names.lookup xg = some .globalImplicit) (hab : xa ≠ xb) (hkind : gsc.kind = .function) (hda : (xa == ("__debug__" : Str)) = false) (hdb : (xb == ("__debug__" : Str)) = false) (hdg : (xg == ("__debug__" : Str)) = false) (hline : (p2.endLine == p6.line) = true)
    (h : ∀ a s' more, Fr h₀ L s'.heap m → News h₀ L s'.heap (nw (tabO (ps ++ more))) → AllBare s'.gens → s'.os = s.os → TriplesOk (ps ++ more).toList → Bnd s.heap.objs.size L (nw (tabO (ps ++ more))) → GenX prog w A s.heap.objs.size a ws.length (fun j y => ∃ t, y = .str (partTx ws j) t) s' → Q (.ref a) s') :
    wpAny (model prog w) A (eval (.GeneratorExp (.Call (.Attribute (.Name xg p1) (Str.ofString "join") p2) [.Tuple [.Name xa p3, .Name xb p4] k p5] [] p6) [⟨.Tuple [.Name xa pa, .Name xb pb] kt pt, .Name (Str.ofString "self") px, [], 0⟩] gsc pos) (envOf q sc L f (.ref c))) Q E s := by
  refine gen_eval (e := Str.ofString "") hh hroom F X₀ N T G h1 h2 U htr hT rfl hws hf.tab2 hself hsck hl hm hi hco hclos hcell hz hxa hxb hab hkind (fun code C A' E' i a tf tp u m₂ hA ha hn hva hvb hg hb => ?_) fun a s' more a1 a2 a3 a4 a5 a6 => h a s' more a1 a2 a3 a4 a5 (bnd_of F N U _) a6
  have hal : a.2.length ≤ 1000 := hf.len a (List.mem_of_getElem? ha)
  refine wpAny_mono (elt_join hkind hxl hxa hxb rfl hg (mg_of X₀ T.g hglo) hn hva hvb hda hdb hdg (by decide +kernel) hal hline rfl) (fun y s₃ r => ⟨?_, r.2⟩) fun _ _ z => z
  obtain ⟨t, rfl⟩ := r.1
  refine ⟨t, ?_⟩
  simp only [partTx, ha, Option.map_some, Option.getD_some]
theorem genJoinK {t : Tok} {tk : Nat} {Q : Value → Shared → Prop} {a : Addr} (F : Fr h₀ L s0.heap m) (N : News h₀ L s0.heap news) (G : AllBare s0.gens) (X : GenX prog w A b0 a ws.length (fun j y => ∃ t, y = .str (partTx ws j) t) s0) (hb : Bnd b0 L news) (hf : Fine ws) (htk : s0.toks ≤ tk)
    (h : ∀ s' t', Fr h₀ L s'.heap m → News h₀ L s'.heap news → AllBare s'.gens → s'.os = s0.os → Q (.str (partsTxt ws) t') s') : wpAny (model prog w) A (call (.builtin "str.join") [.str (Str.ofString "") t, .ref a]) Q E { s0 with toks := tk } := by
  refine join_gen (s := { s0 with toks := tk }) (tx := partTx ws) G (X.toks htk) (fun j v hv => hv) ?_ (fun s' t' hk hg ho => ?_) (by rw [sizeLine_eq]; have := hf.few; omega)
  · rw [range_parts]
    refine joinOk_of ?_
    have h1 : ((ws.map (·.2)).map (·.length)).sum ≤ 1000 * ws.length := by
      have : ∀ (l : List (Addr × Str)), (∀ a ∈ l, a.2.length ≤ 1000) → ((l.map (·.2)).map (·.length)).sum ≤ 1000 * l.length := by
        intro l
        induction l with
        | nil => intro _; simp
        | cons a r ih =>
          intro hh
          have := ih fun b hb => hh b (.tail _ hb)
          have := hh a (.head _)
          simp only [List.map_cons, List.sum_cons, List.length_cons]
          omega
      exact this ws hf.len
    have h0 : (Str.ofString "").length = 0 := by decide +kernel
    rw [h0]
    have := hf.few
    omega
  · rw [range_parts]
    exact h s' t' (kept_Fr F hb.1 hk) (kept_News N hb.2 hk) hg ho
end
end Mine

namespace Mine
theorem good_end {c : ClaimW} {cl : Str → Option Addr} {mean : ExcName → Option Value} {args : List WData} {s₁ s' : Shared} {L : Addr} {m : Str → Option Value} {l : List (Addr × Obj)} {ps qs : Array Value}
    (hT : TabsAt [(144, 140), (151, 147)] s₁.heap) (F : Fr (ghostOf s₁.heap [(144, 140), (151, 147)]) L s'.heap m)
    (N : News (ghostOf s₁.heap [(144, 140), (151, 147)]) L s'.heap ((140, tabO ps) :: (147, tabO qs) :: l)) (G : AllBare s'.gens) (o : s'.os = s₁.os)
    (hn : ∀ cls, c.raises args cls = false) (hp : c.post args (.bool true) args = true) : GoodWG c cl mean args s₁ (.ok (.ret (.bool true))) s' := by
  have keep : ∀ b o, b ≠ 140 → b ≠ 147 → s₁.heap.get? b = some o → s'.heap.get? b = some o := fun b o h1 h2 e => F.keep b o (ghost_ne e (by simp [h1, h2]))
  have q1 := hT _ (.head _)
  have q2 := hT _ (.tail _ (.head _))
  have e1 : s'.heap.get? 140 = some (tabObj ps) := (N _ (.head _)).1
  have e2 : s'.heap.get? 147 = some (tabObj qs) := (N _ (.tail _ (.head _))).1
  refine ⟨.inl ⟨.bool true, .bool true, [], rfl, hn, .bool _, hp, fun _ => ⟨List.nodup_nil, fun a ha => nomatch ha⟩⟩, ⟨fun b o e => ?_, fun b o e => ?_⟩, o, G⟩
  · by_cases h1 : b = 140
    · subst h1
      have e3 := q1.2
      rw [e] at e3
      obtain rfl : o = tabObj #[] := Option.some.inj e3
      exact .inr (.inl ⟨(q1.1.tab q1.2).isCodeTable, rfl, #[], ps, rfl, by rw [Array.empty_append]; exact e1⟩)
    · by_cases h2 : b = 147
      · subst h2
        have e3 := q2.2
        rw [e] at e3
        obtain rfl : o = tabObj #[] := Option.some.inj e3
        exact .inr (.inl ⟨(q2.1.tab q2.2).isCodeTable, rfl, #[], qs, rfl, by rw [Array.empty_append]; exact e2⟩)
      · exact .inl (keep b o h1 h2 e)
  · by_cases h1 : b = 140
    · exact ⟨_, h1 ▸ e1⟩
    · by_cases h2 : b = 147
      · exact ⟨_, h2 ▸ e2⟩
      · exact ⟨o, keep b o h1 h2 e⟩
end Mine

namespace Mine
open Sem (wp)
def FlowTo (Qn Jn : Shared → Prop) (Qr : Value → Shared → Prop) (f : Flow) (s : Shared) : Prop := match f with
  | .next => Jn s
  | .cont => Jn s
  | .brk => Qn s
  | .ret v => Qr v s
def AllOff (I : Addr) : List (Addr × Obj) → Prop
  | [] => True
  | p :: r => @Ne Nat p.1 I ∧ AllOff I r
theorem off_at {I : Addr} {l : List (Addr × Obj)} (h : AllOff I l) : ∀ p ∈ l, p.1 ≠ I := by
  induction l with
  | nil => intro p hp; cases hp
  | cons a r ih =>
    intro p hp
    rcases List.mem_cons.mp hp with e | hp
    · rw [e]; exact h.1
    · exact ih h.2 p hp
theorem allOff_of {I : Addr} {l : List (Addr × Obj)} (h : ∀ p ∈ l, p.1 ≠ I) : AllOff I l := by
  induction l with
  | nil => trivial
  | cons a r ih => exact ⟨h a (List.mem_cons_self ..), ih fun q hq => h q (List.mem_cons_of_mem _ hq)⟩
theorem down_small {a b : Int} (h0 : 0 ≤ a) (h1 : a ≤ 1000000) (hb : b = 0) : Builtin.Range.small a b (-1) = true := by
  subst hb
  unfold Builtin.Range.small
  rw [rangeSize_down]
  simp only [Builtin.Range.rangeFitsLong, Bool.and_eq_true, Bool.or_eq_true, decide_eq_true_eq, beq_iff_eq, show ¬ ((-1 : Int) > 0) by decide, if_false]
  split <;> lia
theorem down_size {a b : Int} {n : Nat} (h : a = (n : Int)) (hb : b = 0) : Builtin.Range.rangeSize a b (-1) = (n : Int) := by
  subst hb
  rw [rangeSize_downNat, h]; lia
section
variable {prog : Program} {w : World} {A : Around} {E : Value → Shared → Prop} {s : Shared} {env : Env} {h₀ : Heap} {L : Addr} {m : Str → Option Value} {news : List (Addr × Obj)} {Q : Flow → Shared → Prop} {body orelse : List Stmt}

theorem forW0 {R : Result → Shared → Prop} {target : Expr} {I : Addr} {fp wr : List Addr} {n : Nat} {P : Nat → Value → Prop} {St : Nat → Heap → Prop} (W : Walks prog w A I fp wr n P St) (J : Nat → Shared → Prop)
    (hj : J 0 s) (hJ : ∀ i s, J i s → St i s.heap)
    (turn : ∀ i v s h₁ tk₁, i < n → P i v → J i s → St (i + 1) h₁ → (∀ b o, b ∉ wr → s.heap.get? b = some o → h₁.get? b = some o) →
      wpAny (model prog w) A (assign target env v) (fun _ s₂ => wpAny (model prog w) A (execs body env) (FlowTo (R (.ok .next)) (J (i + 1)) (fun v => R (.ok (.ret v)))) (notedBy (model prog w) A env fun e s' => R (.error e) s') s₂) (notedBy (model prog w) A env fun e s' => R (.error e) s') { s with heap := h₁, toks := tk₁ })
    (done : ∀ s h₁ tk₁, J n s → (∀ b o, b ∉ wr → s.heap.get? b = some o → h₁.get? b = some o) → wpAny (model prog w) A (execs orelse env) (fun f s' => R (.ok f) s') (notedBy (model prog w) A env fun e s' => R (.error e) s') { s with heap := h₁, toks := tk₁ })
    (ht : ∀ v, letOwnedTupleGo target (.ref I) v = pure ()) :
    codeAny (model prog w) A (.forLoop target (.ref I) body orelse env) R s := by
  refine codeAny_forLoop (fun k s' => ∃ i, i ≤ n ∧ k = n - i ∧ J i s') ?_ n ⟨0, Nat.zero_le _, rfl, hj⟩ ht
  rintro k s' ⟨i, hi, rfl, hji⟩
  by_cases hlt : i < n
  · refine W.item i _ _ _ hlt (hJ i s' hji) fun v h₁ tk₁ hP hst hk => ?_
    refine wpAny_mono (turn i v s' h₁ tk₁ hlt hP hji hst hk) (fun _ s₂ h₂ => ?_) fun _ _ z => z
    refine wpAny_mono h₂ (fun f s₃ h₃ => ?_) fun _ _ z => z
    cases f with
    | next => exact ⟨n - (i + 1), by lia, i + 1, hlt, rfl, h₃⟩
    | cont => exact ⟨n - (i + 1), by lia, i + 1, hlt, rfl, h₃⟩
    | brk => exact h₃
    | ret v => exact h₃
  · have hin : i = n := by lia
    subst hin
    exact W.done _ _ _ (hJ _ s' hji) fun h₁ tk₁ hk => done s' h₁ tk₁ hji hk
theorem fr_it {h h' : Heap} {I : Addr} {o : Obj} (F : Fr h₀ L h m) (N : News h₀ L h ((I, o) :: news)) (hk : ∀ b oo, b ∉ [I] → h.get? b = some oo → h'.get? b = some oo) : Fr h₀ L h' m := by
  have hI := N _ (.head _)
  obtain ⟨oL, es, ep, a1, r⟩ := F.ns
  have off : ∀ {b : Addr}, b ≠ I → b ∉ [I] := fun hb hm => hb (List.mem_singleton.mp hm)
  exact ⟨⟨oL, es, ep, hk _ _ (off fun e => hI.2.1 e.symm) a1, r⟩, fun b o e => hk b o (off fun q => by rw [q, hI.2.2] at e; cases e) (F.keep b o e), F.above⟩
theorem news_it {h h' : Heap} {I : Addr} {o o' : Obj} (N : News h₀ L h ((I, o) :: news)) (off : AllOff I news) (hk : ∀ b oo, b ∉ [I] → h.get? b = some oo → h'.get? b = some oo) (ho : h'.get? I = some o') : News h₀ L h' ((I, o') :: news) := fun p hp => by
  rcases List.mem_cons.mp hp with rfl | hp
  · exact ⟨ho, (N _ (.head _)).2⟩
  · have := off_at off p hp
    exact ⟨hk _ _ (fun hm => this (List.mem_singleton.mp hm)) (N p (.tail _ hp)).1, (N p (.tail _ hp)).2⟩
abbrev InvP (h₀ : Heap) (L : Addr) (os₀ : OsState) (I : Addr) (oI : Obj) (J : (Str → Option Value) → List (Addr × Obj) → Prop) (s : Shared) : Prop :=
  ∃ m' l, Fr h₀ L s.heap m' ∧ News h₀ L s.heap ((I, oI) :: l) ∧ AllOff I l ∧ J m' l ∧ AllBare s.gens ∧ s.os = os₀
theorem forL0 {R : Result → Shared → Prop} {x : Str} {px : Pos} {I : Addr} {fp : List Addr} {n : Nat} {P : Nat → Value → Prop} {St : Nat → Heap → Prop} (W : Walks prog w A I fp [I] n P St) (Pit : Nat → Obj → Prop) (J : Nat → (Str → Option Value) → List (Addr × Obj) → Prop)
    (hx : env.kindOf x = some .local) (hp : (env.scope.kind == .class || (env.scope.kind == .module && env.locals != env.globals)) = false)
    (F : Fr h₀ env.locals s.heap m) {oI : Obj} (N : News h₀ env.locals s.heap ((I, oI) :: news)) (off : AllOff I news) (hI : Pit 0 oI) (G : AllBare s.gens) (hj : J 0 m news)
    (hSt : ∀ i h m' l oI, Pit i oI → News h₀ env.locals h ((I, oI) :: l) → J i m' l → St i h) (hIo : ∀ i h, St i h → ∃ oI, h.get? I = some oI ∧ Pit i oI)
    (turn : ∀ i v oI m' l s', i < n → P i v → Pit (i + 1) oI → J i m' l → AllOff I l → Fr h₀ env.locals s'.heap (fun y => if y = x then some v else m' y) → News h₀ env.locals s'.heap ((I, oI) :: l) → AllBare s'.gens → s'.os = s.os →
      wpAny (model prog w) A (execs body env) (FlowTo (R (.ok .next)) (InvP h₀ env.locals s.os I oI (J (i + 1))) (fun v => R (.ok (.ret v)))) (notedBy (model prog w) A env fun e s' => R (.error e) s') s')
    (done : ∀ m' l s', J n m' l → Fr h₀ env.locals s'.heap m' → News h₀ env.locals s'.heap l → AllBare s'.gens → s'.os = s.os → wpAny (model prog w) A (execs orelse env) (fun f s' => R (.ok f) s') (notedBy (model prog w) A env fun e s' => R (.error e) s') s') :
    codeAny (model prog w) A (.forLoop (.Name x px) (.ref I) body orelse env) R s := by
  refine forW0 W (fun i s' => ∃ oI, Pit i oI ∧ InvP h₀ env.locals s.os I oI (J i) s') ⟨oI, hI, m, news, F, N, off, hj, G, rfl⟩ ?_ ?_ ?_ (by intro _; rfl)
  · rintro i s' ⟨oI, hP, m', l, F', N', _, hJ, _⟩
    exact hSt i _ m' l oI hP N' hJ
  · rintro i v s' h₁ tk₁ hi hP ⟨oI, hPi, m', l, F', N', off', hJ, G', os'⟩ hst hk
    obtain ⟨oI', ho', hP'⟩ := hIo _ _ hst
    have F₁ := fr_it F' N' hk
    have N₁ := news_it N' off' hk ho'
    refine wpAny_assign_Name (wpAny_storeName_local hx F₁.ns (fun h₂ hn₂ hs₂ => ?_) hp)
    refine wpAny_mono (turn i v oI' m' l { s' with heap := h₂, toks := tk₁ + 1 } hi hP hP' hJ off' (F₁.set hn₂ hs₂) (N₁.set hs₂) G' os') (fun f s₃ h₃ => ?_) fun _ _ z => z
    cases f with
    | next => exact ⟨oI', hP', h₃⟩
    | cont => exact ⟨oI', hP', h₃⟩
    | brk => exact h₃
    | ret v => exact h₃
  · rintro s' h₁ tk₁ ⟨oI, hPi, m', l, F', N', off', hJ, G', os'⟩ hk
    refine done m' l { s' with heap := h₁, toks := tk₁ } hJ (fr_it F' N' hk) (fun p hp => ?_) G' os'
    have := off_at off' p hp
    exact ⟨hk _ _ (fun hm => this (List.mem_singleton.mp hm)) (N' p (.tail _ hp)).1, (N' p (.tail _ hp)).2⟩
def LoopGo (prog : Program) (w : World) (A : Around) (env : Env) (x : Str) (px : Pos) (body orelse : List Stmt) (Q : Flow → Shared → Prop) (E : Value → Shared → Prop) (xv : Value) (s : Shared) : Prop :=
  wpAny (model prog w) A (pyIter xv) (fun it s₂ => codeAny (model prog w) A (.forLoop (.Name x px) it body orelse env) (fun r s' => match r with | .ok f => Q f s' | .error e => cameBackBy (model prog w) A env E e s') s₂) E s
theorem For_go {x : Str} {px pos : Pos} {iter : Expr} (h : wpAny (model prog w) A (eval iter env) (fun xv s₁ => LoopGo prog w A env x px body orelse Q E xv s₁) E s) (hs : ∀ x, foldedSetIterable iter env x = pure x := by intro _; rfl) :
    wpAny (model prog w) A (exec (.For (.Name x px) iter body orelse pos) env) Q E s := wpAny_For h hs
theorem forList {x : Str} {px : Pos} {ax : Addr} {items : Array Value} {c : Nat} (J : Nat → (Str → Option Value) → List (Addr × Obj) → Prop)
    (hx : env.kindOf x = some .local) (hp : (env.scope.kind == .class || (env.scope.kind == .module && env.locals != env.globals)) = false) (hh : A.handled = none)
    (F : Fr h₀ env.locals s.heap m) (N : News h₀ env.locals s.heap news) (hl : (ax, W.listOf items c) ∈ news) (G : AllBare s.gens) (hj : J 0 m news) (hmem : ∀ i m' l, J i m' l → (ax, W.listOf items c) ∈ l)
    (turn : ∀ i v I oI m' l s', items[i]? = some v → (∀ p ∈ news, @LT.lt Nat _ p.1 I) → J i m' l → AllOff I l → Fr h₀ env.locals s'.heap (fun y => if y = x then some v else m' y) → News h₀ env.locals s'.heap ((I, oI) :: l) → AllBare s'.gens → s'.os = s.os →
      wpAny (model prog w) A (execs body env) (FlowTo (Q .next) (InvP h₀ env.locals s.os I oI (J (i + 1))) (fun v => Q (.ret v))) E s')
    (done : ∀ m' l s', J items.size m' l → Fr h₀ env.locals s'.heap m' → News h₀ env.locals s'.heap l → AllBare s'.gens → s'.os = s.os → wpAny (model prog w) A (execs orelse env) Q E s')
    (hE : PassesOwn (model prog w) A env E := by passes_own) :
    LoopGo prog w A env x px body orelse Q E (.ref ax) s := by
  have hlh := (N _ hl).1
  have hls : s.heap.IsList ax items := ⟨_, hlh, rfl, _, rfl⟩
  have hne : ax ≠ s.heap.objs.size := Nat.ne_of_lt (Heap.lt_size hlh)
  have lt : ∀ p ∈ news, @LT.lt Nat _ p.1 s.heap.objs.size := fun p hp => Heap.lt_size (N p hp).1
  refine wpAny_pyIter_list hls ?_
  have W := Walks.list (prog := prog) (w := w) hh s.heap.objs.size ax hne items
  refine forL0 (oI := { cls := .type "list_iterator", data := .fields #[.ref ax, .int 0 0] }) W (fun i o => o.cls = .type "list_iterator" ∧ o.data = .fields #[.ref ax, .int i 0]) J hx hp (F.push _) (N.push F _) (allOff_of fun p hp => Nat.ne_of_lt (lt p hp)) ⟨rfl, rfl⟩ G hj ?_ ?_ ?_ ?_
  · rintro i h m' l oI ⟨h1, h2⟩ N' hJ
    exact ⟨⟨oI, (N' _ (.head _)).1, h1, h2⟩, ⟨_, (N' _ (.tail _ (hmem i m' l hJ))).1, rfl, _, rfl⟩⟩
  · rintro i h ⟨⟨o, h1, h2, h3⟩, _⟩
    exact ⟨o, h1, h2, h3⟩
  · intro i v oI m' l s' hi hP _ hJ off' F' N' G' o'
    exact wpAny_mono (turn i v _ oI m' l s' hP lt hJ off' F' N' G' o') (fun _ _ z => z) hE
  · intro m' l s' hJ F' N' G' o'
    exact wpAny_mono (done m' l s' hJ F' N' G' o') (fun _ _ z => z) hE
theorem forRange {x : Str} {px : Pos} {r : Addr} {a b c : Int} {t u v : Tok} {n : Nat} (J : Nat → (Str → Option Value) → List (Addr × Obj) → Prop)
    (hx : env.kindOf x = some .local) (hp : (env.scope.kind == .class || (env.scope.kind == .module && env.locals != env.globals)) = false) (hh : A.handled = none)
    (F : Fr h₀ env.locals s.heap m) (N : News h₀ env.locals s.heap news) (hr : IsRange s.heap r a b c t u v) (hsmall : Builtin.Range.small a b c = true) (hn : Builtin.Range.rangeSize a b c = (n : Int)) (G : AllBare s.gens) (hj : J 0 m news)
    (turn : ∀ i t I oI m' l s', i < n → (∀ p ∈ news, @LT.lt Nat _ p.1 I) → J i m' l → AllOff I l → Fr h₀ env.locals s'.heap (fun y => if y = x then some (.int (a + (i : Int) * c) t) else m' y) → News h₀ env.locals s'.heap ((I, oI) :: l) → AllBare s'.gens → s'.os = s.os →
      wpAny (model prog w) A (execs body env) (FlowTo (Q .next) (InvP h₀ env.locals s.os I oI (J (i + 1))) (fun v => Q (.ret v))) E s')
    (done : ∀ m' l s', J n m' l → Fr h₀ env.locals s'.heap m' → News h₀ env.locals s'.heap l → AllBare s'.gens → s'.os = s.os → wpAny (model prog w) A (execs orelse env) Q E s')
    (hE : PassesOwn (model prog w) A env E := by passes_own) :
    LoopGo prog w A env x px body orelse Q E (.ref r) s := by
  have lt : ∀ p ∈ news, @LT.lt Nat _ p.1 s.heap.objs.size := fun p hp => Heap.lt_size (N p hp).1
  refine wpAny_pyIter_range hr hsmall ?_
  have W := Walks.range (prog := prog) (w := w) hh s.heap.objs.size a c n
  let io : Nat → Obj := fun i => { cls := .type "range_iterator", dict := none, data := .fields #[rawInt (a + (i : Nat) * c), rawInt ((n : Int) - (i : Nat)), rawInt c], slots := #[] }
  have h0 : ({ cls := .type "range_iterator", data := .fields #[rawInt a, rawInt (Builtin.Range.rangeSize a b c), rawInt c] } : Obj) = io 0 := by
    simp only [io, hn]; simp
  rw [h0]
  refine forL0 (oI := io 0) W (fun i o => o = io i) J hx hp (F.push _) (N.push F _) (allOff_of fun p hp => Nat.ne_of_lt (lt p hp)) rfl G hj ?_ ?_ ?_ ?_
  · rintro i h m' l oI rfl N' hJ
    exact (N' _ (.head _)).1
  · intro i h hi
    exact ⟨_, hi, rfl⟩
  · rintro i v oI m' l s' hi ⟨t', rfl⟩ _ hJ off' F' N' G' o'
    exact wpAny_mono (turn i t' _ oI m' l s' hi lt hJ off' F' N' G' o') (fun _ _ z => z) hE
  · intro m' l s' hJ F' N' G' o'
    exact wpAny_mono (done m' l s' hJ F' N' G' o') (fun _ _ z => z) hE
theorem forStr {x : Str} {px : Pos} {z : Str} {t : Tok} (J : Nat → (Str → Option Value) → List (Addr × Obj) → Prop)
    (hx : env.kindOf x = some .local) (hp : (env.scope.kind == .class || (env.scope.kind == .module && env.locals != env.globals)) = false) (hh : A.handled = none)
    (F : Fr h₀ env.locals s.heap m) (N : News h₀ env.locals s.heap news) (hascii : strIterType z = "str_ascii_iterator") (G : AllBare s.gens) (hj : J 0 m news)
    (turn : ∀ i c t I oI m' l s', z.cps[i]? = some c → (∀ p ∈ news, @LT.lt Nat _ p.1 I) → J i m' l → AllOff I l → Fr h₀ env.locals s'.heap (fun y => if y = x then some (.str ⟨#[c]⟩ t) else m' y) → News h₀ env.locals s'.heap ((I, oI) :: l) → AllBare s'.gens → s'.os = s.os →
      wpAny (model prog w) A (execs body env) (FlowTo (Q .next) (InvP h₀ env.locals s.os I oI (J (i + 1))) (fun v => Q (.ret v))) E s')
    (done : ∀ m' l s', J z.cps.size m' l → Fr h₀ env.locals s'.heap m' → News h₀ env.locals s'.heap l → AllBare s'.gens → s'.os = s.os → wpAny (model prog w) A (execs orelse env) Q E s')
    (hE : PassesOwn (model prog w) A env E := by passes_own) :
    LoopGo prog w A env x px body orelse Q E (.str z t) s := by
  have lt : ∀ p ∈ news, @LT.lt Nat _ p.1 s.heap.objs.size := fun p hp => Heap.lt_size (N p hp).1
  refine wpAny_pyIter_strU ?_
  rw [hascii]
  have W := Walks.strAscii (prog := prog) (w := w) hh s.heap.objs.size z t
  refine forL0 (oI := { cls := .type "str_ascii_iterator", data := .fields #[.str z t, .int 0 0] }) W (fun i o => o.cls = .type "str_ascii_iterator" ∧ o.data = .fields #[.str z t, .int i 0]) J hx hp (F.push _) (N.push F _) (allOff_of fun p hp => Nat.ne_of_lt (lt p hp)) ⟨rfl, rfl⟩ G hj ?_ ?_ ?_ ?_
  · rintro i h m' l oI ⟨h1, h2⟩ N' hJ
    exact ⟨oI, (N' _ (.head _)).1, h1, h2⟩
  · rintro i h ⟨o, h1, h2, h3⟩
    exact ⟨o, h1, h2, h3⟩
  · rintro i v oI m' l s' hi ⟨c, t', hc, rfl⟩ _ hJ off' F' N' G' o'
    exact wpAny_mono (turn i c t' _ oI m' l s' hc lt hJ off' F' N' G' o') (fun _ _ z => z) hE
  · intro m' l s' hJ F' N' G' o'
    exact wpAny_mono (done m' l s' hJ F' N' G' o') (fun _ _ z => z) hE
def RestC (prog : Program) (w : World) (A : Around) (env : Env) (h₀ : Heap) (os₀ : OsState) (orelse : List Stmt) (Q : Flow → Shared → Prop) (E : Value → Shared → Prop) (m' : Str → Option Value) (l : List (Addr × Obj)) : Prop :=
  ∀ s'', Fr h₀ env.locals s''.heap m' → News h₀ env.locals s''.heap l → AllBare s''.gens → s''.os = os₀ → wpAny (model prog w) A (execs orelse env) Q E s''
theorem forStr1 {x : Str} {px : Pos} {z : Str} {c : Nat} {t : Tok}
    (hx : env.kindOf x = some .local) (hp : (env.scope.kind == .class || (env.scope.kind == .module && env.locals != env.globals)) = false) (hh : A.handled = none) (hz : z = ⟨#[c]⟩)
    (F : Fr h₀ env.locals s.heap m) (N : News h₀ env.locals s.heap news) (hascii : strIterType z = "str_ascii_iterator") (G : AllBare s.gens)
    (turn : ∀ t I oI s', (∀ p ∈ news, @LT.lt Nat _ p.1 I) → Fr h₀ env.locals s'.heap (fun y => if y = x then some (.str z t) else m y) → News h₀ env.locals s'.heap ((I, oI) :: news) → AllBare s'.gens → s'.os = s.os →
      wpAny (model prog w) A (execs body env) (FlowTo (Q .next) (InvP h₀ env.locals s.os I oI (RestC prog w A env h₀ s.os orelse Q E)) (fun v => Q (.ret v))) E s')
    (hE : PassesOwn (model prog w) A env E := by passes_own) :
    LoopGo prog w A env x px body orelse Q E (.str z t) s := by
  subst hz
  refine forStr (fun i m' l => (i = 0 → m' = m ∧ l = news) ∧ (i ≠ 0 → RestC prog w A env h₀ s.os orelse Q E m' l)) hx hp hh F N hascii G ⟨fun _ => ⟨rfl, rfl⟩, fun h => absurd rfl h⟩ ?_ ?_ hE
  · intro i c' t' I oI m' l s' hc lt hJ off' F' N' G' o'
    have hi : i = 0 := by
      cases i with
      | zero => rfl
      | succ k => simp at hc
    subst hi
    obtain ⟨e1, e2⟩ := hJ.1 rfl
    rw [e1] at F'
    rw [e2] at N'
    have hc' : c = c' := by simpa using hc
    subst hc'
    refine wpAny_mono (turn t' I oI s' lt F' N' G' o') (fun f s₃ h₃ => ?_) fun _ _ z => z
    have fin : InvP h₀ env.locals s.os I oI (RestC prog w A env h₀ s.os orelse Q E) s₃ → InvP h₀ env.locals s.os I oI (fun m' l => (0 + 1 = 0 → m' = m ∧ l = news) ∧ (0 + 1 ≠ 0 → RestC prog w A env h₀ s.os orelse Q E m' l)) s₃ := by
      rintro ⟨m', l, a, b, c, d, e⟩
      exact ⟨m', l, a, b, c, ⟨fun h => by lia, fun _ => d⟩, e⟩
    cases f with
    | next => exact fin h₃
    | cont => exact fin h₃
    | brk => exact h₃
    | ret v => exact h₃
  · intro m' l s' hJ F' N' G' o'
    exact hJ.2 (by simp) s' F' N' G' o'
theorem forRange0 {x : Str} {px : Pos} {r : Addr} {a b c : Int} {t u v : Tok}
    (hx : env.kindOf x = some .local) (hp : (env.scope.kind == .class || (env.scope.kind == .module && env.locals != env.globals)) = false) (hh : A.handled = none)
    (F : Fr h₀ env.locals s.heap m) (N : News h₀ env.locals s.heap news) (hr : IsRange s.heap r a b c t u v) (hsmall : Builtin.Range.small a b c = true) (hn : Builtin.Range.rangeSize a b c = 0) (G : AllBare s.gens)
    (done : ∀ s', Fr h₀ env.locals s'.heap m → News h₀ env.locals s'.heap news → AllBare s'.gens → s'.os = s.os → wpAny (model prog w) A (execs orelse env) Q E s')
    (hE : PassesOwn (model prog w) A env E := by passes_own) :
    LoopGo prog w A env x px body orelse Q E (.ref r) s := by
  refine forRange (n := 0) (fun i m' l => m' = m ∧ l = news) hx hp hh F N hr hsmall hn G ⟨rfl, rfl⟩ ?_ ?_ hE
  · intro i t I oI m' l s' hi
    exact absurd hi (Nat.not_lt_zero _)
  · rintro m' l s' ⟨rfl, rfl⟩ F' N' G' o'
    exact done s' F' N' G' o'
theorem forRange1 {x : Str} {px : Pos} {r : Addr} {a b c : Int} {t u v : Tok} {n : Nat}
    (hx : env.kindOf x = some .local) (hp : (env.scope.kind == .class || (env.scope.kind == .module && env.locals != env.globals)) = false) (hh : A.handled = none)
    (F : Fr h₀ env.locals s.heap m) (N : News h₀ env.locals s.heap news) (hr : IsRange s.heap r a b c t u v) (hsmall : Builtin.Range.small a b c = true) (hn : Builtin.Range.rangeSize a b c = (n : Int)) (hpos : 0 < n) (G : AllBare s.gens)
    (turn : ∀ t I oI s', (∀ p ∈ news, @LT.lt Nat _ p.1 I) → Fr h₀ env.locals s'.heap (fun y => if y = x then some (.int a t) else m y) → News h₀ env.locals s'.heap ((I, oI) :: news) → AllBare s'.gens → s'.os = s.os →
      wpAny (model prog w) A (execs body env) (FlowTo (Q .next) (fun _ => False) (fun v => Q (.ret v))) E s')
    (hE : PassesOwn (model prog w) A env E := by passes_own) :
    LoopGo prog w A env x px body orelse Q E (.ref r) s := by
  refine forRange (fun i m' l => i = 0 ∧ m' = m ∧ l = news) hx hp hh F N hr hsmall hn G ⟨rfl, rfl, rfl⟩ ?_ ?_ hE
  · rintro i t' I oI m' l s' hi lt ⟨rfl, rfl, rfl⟩ off' F' N' G' o'
    have e : a + ((0 : Nat) : Int) * c = a := by simp
    rw [e] at F'
    refine wpAny_mono (turn t' I oI s' lt F' N' G' o') (fun f s₃ h₃ => ?_) fun _ _ z => z
    cases f with
    | next => exact h₃.elim
    | cont => exact h₃.elim
    | brk => exact h₃
    | ret v => exact h₃
  · rintro m' l s' ⟨h, _⟩
    lia
theorem invP0 {os₀ : OsState} {I : Addr} {oI : Obj} {J : (Str → Option Value) → List (Addr × Obj) → Prop} (F : Fr h₀ L s.heap m) (N : News h₀ L s.heap ((I, oI) :: news)) (off : AllOff I news) (hj : J m news) (G : AllBare s.gens) (ho : s.os = os₀) : InvP h₀ L os₀ I oI J s := ⟨m, news, F, N, off, hj, G, ho⟩
theorem invP1 {os₀ : OsState} {I : Addr} {oI : Obj} {p : Addr × Obj} {J : (Str → Option Value) → List (Addr × Obj) → Prop} (F : Fr h₀ L s.heap m) (N : News h₀ L s.heap (p :: (I, oI) :: news)) (off : AllOff I news) (hj : J m news) (G : AllBare s.gens) (ho : s.os = os₀) : InvP h₀ L os₀ I oI J s := ⟨m, news, F, fun q hq => N q (.tail _ hq), off, hj, G, ho⟩
theorem invP2 {os₀ : OsState} {I : Addr} {oI : Obj} {p q : Addr × Obj} {J : (Str → Option Value) → List (Addr × Obj) → Prop} (F : Fr h₀ L s.heap m) (N : News h₀ L s.heap (p :: q :: (I, oI) :: news)) (off : AllOff I news) (hj : J m news) (G : AllBare s.gens) (ho : s.os = os₀) : InvP h₀ L os₀ I oI J s := ⟨m, news, F, fun q hq => N q (.tail _ (.tail _ hq)), off, hj, G, ho⟩
end
end Mine

namespace Mine
section
variable {prog : Program} {w : World} {A : Around} {E : Value → Shared → Prop} {s : Shared} {env : Env} {h₀ : Heap} {L : Addr} {m : Str → Option Value} {news : List (Addr × Obj)} {Q : Flow → Shared → Prop} {body orelse : List Stmt}
theorem canon_fst {x : Str} {v : Option Value} {m m' : Str → Option Value} (h : ∀ y, y ≠ x → m' y = m y) : (fun y => if y = x then v else m' y) = fun y => if y = x then v else m y := by
  funext y
  by_cases e : y = x
  · rw [if_pos e, if_pos e]
  · rw [if_neg e, if_neg e, h y e]
theorem canon_all {x : Str} {m m' : Str → Option Value} (h : ∀ y, y ≠ x → m' y = m y) : m' = fun y => if y = x then m' x else m y := by
  funext y
  by_cases e : y = x
  · rw [if_pos e, e]
  · rw [if_neg e, h y e]
theorem forListV {x : Str} {px : Pos} {ax : Addr} {items : Array Value} {c : Nat} (J : Nat → List (Addr × Obj) → Prop)
    (hx : env.kindOf x = some .local) (hp : (env.scope.kind == .class || (env.scope.kind == .module && env.locals != env.globals)) = false) (hh : A.handled = none)
    (F : Fr h₀ env.locals s.heap m) (N : News h₀ env.locals s.heap news) (hl : (ax, W.listOf items c) ∈ news) (G : AllBare s.gens) (hj : J 0 news) (hmem : ∀ i l, J i l → (ax, W.listOf items c) ∈ l)
    (turn : ∀ i v I oI l s', items[i]? = some v → (∀ p ∈ news, @LT.lt Nat _ p.1 I) → J i l → AllOff I l → Fr h₀ env.locals s'.heap (fun y => if y = x then some v else m y) → News h₀ env.locals s'.heap ((I, oI) :: l) → AllBare s'.gens → s'.os = s.os →
      wpAny (model prog w) A (execs body env) (FlowTo (Q .next) (InvP h₀ env.locals s.os I oI (fun m' l => (∀ y, y ≠ x → m' y = m y) ∧ J (i + 1) l)) (fun v => Q (.ret v))) E s')
    (done : ∀ u l s', J items.size l → Fr h₀ env.locals s'.heap (fun y => if y = x then u else m y) → News h₀ env.locals s'.heap l → AllBare s'.gens → s'.os = s.os → wpAny (model prog w) A (execs orelse env) Q E s')
    (hE : PassesOwn (model prog w) A env E := by passes_own) :
    LoopGo prog w A env x px body orelse Q E (.ref ax) s := by
  refine forList (fun i m' l => (∀ y, y ≠ x → m' y = m y) ∧ J i l) hx hp hh F N hl G ⟨fun _ _ => rfl, hj⟩ (fun i m' l h => hmem i l h.2) ?_ ?_ hE
  · intro i v I oI m' l s' hv lt hJ off F' N' G' o'
    rw [canon_fst hJ.1] at F'
    exact turn i v I oI l s' hv lt hJ.2 off F' N' G' o'
  · intro m' l s' hJ F' N' G' o'
    rw [canon_all hJ.1] at F'
    exact done (m' x) l s' hJ.2 F' N' G' o'
end
end Mine

namespace Mine
section
variable {prog : Program} {w : World} {A : Around} {E : Value → Shared → Prop} {s : Shared} {env : Env} {h₀ : Heap} {L : Addr} {m : Str → Option Value} {news : List (Addr × Obj)} {Q : Flow → Shared → Prop} {body orelse : List Stmt}
theorem forTup {x : Str} {px : Pos} {ax : Addr} {oX : Obj} {items : Array Value} {c : Nat} (J : Nat → (Str → Option Value) → List (Addr × Obj) → Prop)
    (hh : A.handled = none) (F : Fr h₀ env.locals s.heap m) (N : News h₀ env.locals s.heap news) (hl : (ax, oX) ∈ news) (hc : oX.cls = .type "tuple") (hd : oX.data = .seq items c) (G : AllBare s.gens) (hj : J 0 m news) (hmem : ∀ i m' l, J i m' l → (ax, oX) ∈ l)
    (turn : ∀ i v I oI m' l s', items[i]? = some v → (∀ p ∈ news, @LT.lt Nat _ p.1 I) → J i m' l → AllOff I l → Fr h₀ env.locals s'.heap m' → News h₀ env.locals s'.heap ((I, oI) :: l) → AllBare s'.gens → s'.os = s.os →
      wpAny (model prog w) A (assign (.Name x px) env v) (fun _ s₂ => wpAny (model prog w) A (execs body env) (FlowTo (Q .next) (InvP h₀ env.locals s.os I oI (J (i + 1))) (fun v => Q (.ret v))) E s₂) E s')
    (done : ∀ m' l s', J items.size m' l → Fr h₀ env.locals s'.heap m' → News h₀ env.locals s'.heap l → AllBare s'.gens → s'.os = s.os → wpAny (model prog w) A (execs orelse env) Q E s')
    (hE : PassesOwn (model prog w) A env E := by passes_own) :
    LoopGo prog w A env x px body orelse Q E (.ref ax) s := by
  have hlh := (N _ hl).1
  have hT : s.heap.IsTuple ax items := ⟨_, hlh, hc, _, hd⟩
  have hne : ax ≠ s.heap.objs.size := Nat.ne_of_lt (Heap.lt_size hlh)
  have lt : ∀ p ∈ news, @LT.lt Nat _ p.1 s.heap.objs.size := fun p hp => Heap.lt_size (N p hp).1
  refine wpAny_pyIter_tuple hT ?_
  have W := Walks.tuple (prog := prog) (w := w) (A := A) hh s.heap.objs.size ax hne items
  refine forW0 W (fun i s' => ∃ oI, (oI.cls = .type "tuple_iterator" ∧ oI.data = .fields #[.ref ax, .int i 0]) ∧ InvP h₀ env.locals s.os s.heap.objs.size oI (J i) s') ⟨{ cls := .type "tuple_iterator", data := .fields #[.ref ax, .int 0 0] }, ⟨rfl, rfl⟩, m, news, F.push _, N.push F _, allOff_of fun p hp => Nat.ne_of_lt (lt p hp), hj, G, rfl⟩ ?_ ?_ ?_ (by intro _; rfl)
  · rintro i s' ⟨oI, ⟨h1, h2⟩, m', l, F', N', _, hJ, _⟩
    exact ⟨⟨oI, (N' _ (.head _)).1, h1, h2⟩, ⟨_, (N' _ (.tail _ (hmem i m' l hJ))).1, hc, _, hd⟩⟩
  · rintro i v s' h₁ tk₁ hi hP ⟨oI, hPi, m', l, F', N', off', hJ, G', os'⟩ ⟨⟨oI', ho', h1, h2⟩, _⟩ hk
    have F₁ := fr_it F' N' hk
    have N₁ := news_it N' off' hk ho'
    refine wpAny_mono (turn i v _ oI' m' l { s' with heap := h₁, toks := tk₁ } hP lt hJ off' F₁ N₁ G' os') (fun _ s₂ h₂ => ?_) (fun _ _ z => hE _ _ z)
    refine wpAny_mono h₂ (fun f s₃ h₃ => ?_) (fun _ _ z => hE _ _ z)
    cases f with
    | next => exact ⟨oI', ⟨h1, h2⟩, h₃⟩
    | cont => exact ⟨oI', ⟨h1, h2⟩, h₃⟩
    | brk => exact h₃
    | ret v => exact h₃
  · rintro s' h₁ tk₁ ⟨oI, hPi, m', l, F', N', off', hJ, G', os'⟩ hk
    refine wpAny_mono (done m' l { s' with heap := h₁, toks := tk₁ } hJ (fr_it F' N' hk) (fun p hp => ?_) G' os') (fun _ _ z => z) (fun _ _ z => hE _ _ z)
    have := off_at off' p hp
    exact ⟨hk _ _ (fun hm => this (List.mem_singleton.mp hm)) (N' p (.tail _ hp)).1, (N' p (.tail _ hp)).2⟩
end
end Mine

namespace Mine
section
variable {prog : Program} {w : World} {A : Around} {s : Shared} {h₀ : Heap} {L : Addr} {m : Str → Option Value} {env : Env} {ct elt : PySem.Expr} {x : Str} {scope : Scope} {cl : List (Str × Addr)} {S : List (Addr × Obj) → Prop} {P : Nat → Value → Prop} {Fin : List Value → List (Addr × Obj) → Prop}
theorem compEnd_mono {s₁ s₂ : Shared} {I C D : Addr} {oI oC oD : Obj} {R R' : Value → List (Addr × Obj) → Prop} {y : Value} (h : LCg.CompEnd h₀ L m s₁ I oI C oC D oD S R y s₂) (hr : ∀ l, R y l → R' y l) : LCg.CompEnd h₀ L m s₁ I oI C oC D oD S R' y s₂ := by
  obtain ⟨h', tk, news', a, b, c, d, e, f⟩ := h
  exact ⟨h', tk, news', a, b, c, d, e, hr _ f⟩
theorem restT_ind (J : Nat → List Value → List (Addr × Obj) → Prop) (n : Nat)
    (step : ∀ i ys news v I oI C oC D m₂ h tk (E' : Value → Shared → Prop), i < n → J i ys news → P i v → LCg.NsObj oC m₂ → m₂ x = some v → Fr h₀ L h m → News h₀ L h ((I, oI) :: (C, oC) :: (D, LCg.lst ys) :: news) → LCg.Off3 I C D news → ((@Ne Nat I C) ∧ (@Ne Nat I D) ∧ (@Ne Nat C D)) →
      wpAny (model prog w) A (isTrue ct (compEnvC scope cl C env) (eval ct (compEnvC scope cl C env))) (fun ok s' => if ok = true then
        wpAny (model prog w) A (eval elt (compEnvC scope cl C env)) (LCg.CompEnd h₀ L m { s with heap := h, toks := tk } I oI C oC D (LCg.lst ys) S (fun y news' => J (i + 1) (ys ++ [y]) news')) E' s'
        else LCg.CompEnd h₀ L m { s with heap := h, toks := tk } I oI C oC D (LCg.lst ys) S (fun _ news' => J (i + 1) ys news') Value.none s') E' { s with heap := h, toks := tk })
    (fin : ∀ ys news, J n ys news → Fin ys news) : ∀ k i ys news, i + k = n → J i ys news → LCt.CompRestT prog w A h₀ L m env ct elt x scope cl s S P Fin k i ys news
  | 0, i, ys, news, h, hj => fin ys news ((show i = n by omega) ▸ hj)
  | k + 1, i, ys, news, h, hj => by
    refine LCt.CompRestT.succ fun v I oI C oC D m₂ hh tk E' hv hC hx F N off ne => ?_
    refine wpAny_mono (step i ys news v I oI C oC D m₂ hh tk E' (by omega) hj hv hC hx F N off ne) (fun ok s' z => ?_) fun _ _ z => z
    cases ok with
    | true =>
      rw [if_pos rfl] at z ⊢
      exact wpAny_mono z (fun y s'' z' => compEnd_mono z' fun l hl => restT_ind J n step fin k (i + 1) _ l (by omega) hl) fun _ _ z => z
    | false =>
      rw [if_neg (by decide)] at z ⊢
      exact compEnd_mono z fun l hl => restT_ind J n step fin k (i + 1) _ l (by omega) hl
theorem rest_ind (J : Nat → List Value → List (Addr × Obj) → Prop) (n : Nat)
    (step : ∀ i ys news v I oI C oC D m₂ h tk (E' : Value → Shared → Prop), i < n → J i ys news → P i v → LCg.NsObj oC m₂ → m₂ x = some v → Fr h₀ L h m → News h₀ L h ((I, oI) :: (C, oC) :: (D, LCg.lst ys) :: news) → LCg.Off3 I C D news → ((@Ne Nat I C) ∧ (@Ne Nat I D) ∧ (@Ne Nat C D)) →
      wpAny (model prog w) A (eval elt (compEnvC scope cl C env)) (LCg.CompEnd h₀ L m { s with heap := h, toks := tk } I oI C oC D (LCg.lst ys) S (fun y news' => J (i + 1) (ys ++ [y]) news')) E' { s with heap := h, toks := tk })
    (fin : ∀ ys news, J n ys news → Fin ys news) : ∀ k i ys news, i + k = n → J i ys news → LCg.CompRest prog w A h₀ L m env elt x scope cl s S P Fin k i ys news
  | 0, i, ys, news, h, hj => fin ys news ((show i = n by omega) ▸ hj)
  | k + 1, i, ys, news, h, hj => by
    refine LCg.CompRest.succ fun v I oI C oC D m₂ hh tk E' hv hC hx F N off ne => ?_
    exact wpAny_mono (step i ys news v I oI C oC D m₂ hh tk E' (by omega) hj hv hC hx F N off ne) (fun y s'' z' => compEnd_mono z' fun l hl => rest_ind J n step fin k (i + 1) _ l (by omega) hl) fun _ _ z => z
end
theorem ints_at {vs : List Value} {xs : List Int} (h : IntsAre vs xs) : ∀ {i : Nat} {v : Value}, vs.toArray[i]? = some v → ∃ t, v = .int (xs.getD i 0) t ∧ i < xs.length := by
  induction h with
  | nil => intro i v hv; simp at hv
  | cons n t r ih =>
    intro i v hv
    cases i with
    | zero => simp at hv; exact ⟨t, by simp [← hv], by simp⟩
    | succ k =>
      obtain ⟨t', e, hl⟩ := ih (i := k) (v := v) (by simpa using hv)
      exact ⟨t', by simpa using e, by simp; omega⟩
end Mine

namespace Mine
open PySem.W PyProof.V
theorem allObj_mono : ∀ {ws : List (Addr × String)} {k k' : List (Addr × Obj) → Prop}, (∀ its, k its → k' its) → AllObj ws k → AllObj ws k'
  | [], _, _, hk, h => hk _ h
  | _ :: _, _, _, hk, h => fun o ho => allObj_mono (fun its x => hk _ x) (h o ho)
section
variable {prog : Program} {w : World} {A : Around} {E : Value → Shared → Prop} {s : Shared} {env : Env} {h₀ : Heap} {target : PySem.Expr} {body : List Stmt} {Q : Flow → Shared → Prop} {ws : List (Addr × String)} {keep : List (Addr × Obj)}
theorem unrPost_mono {s₁ s₂ : Shared} {L : Addr} {its : List (Addr × Obj)} {R R' : (Str → Option Value) → List (Addr × Obj) → Prop} {f : Flow} (hr : ∀ m l, R m l → R' m l) (h : UnrPostW h₀ L s₁ its R Q f s₂) : UnrPostW h₀ L s₁ its R' Q f s₂ := by
  have key : UnrEndW h₀ L s₁ its R s₂ → UnrEndW h₀ L s₁ its R' s₂ := by
    rintro ⟨h', tk, m', news', a, b, c, d, e⟩
    exact ⟨h', tk, m', news', a, b, c, d, hr _ _ e⟩
  cases f with
  | next => exact key h
  | cont => exact key h
  | brk => exact h
  | ret v => exact h
theorem itemsRest_ind (J : Nat → (Str → Option Value) → List (Addr × Obj) → Prop) (xs : List Itm)
    (step : ∀ i a m news, xs[i]? = some a → J i m news → ∀ v h tk, a.Is v h → Fr h₀ env.locals h m → AllObj ws (fun its => News h₀ env.locals h (its ++ news) →
      wpAny (model prog w) A (assign target env v) (fun _ s₂ => wpAny (model prog w) A (execs body env) (UnrPostW h₀ env.locals { s with heap := h, toks := tk } its (fun m' n' => SubL keep n' ∧ J (i + 1) m' n') Q) E s₂) E { s with heap := h, toks := tk }))
    (fin : ∀ m news, J xs.length m news → ∀ h tk, Fr h₀ env.locals h m → News h₀ env.locals h news → Q .next { s with heap := h, toks := tk }) :
    ∀ (r : List Itm) (i : Nat) m news, xs.drop i = r → i + r.length = xs.length → J i m news → ItemsRest prog w A E h₀ env target body Q s ws keep r m news
  | [], i, m, news, _, hl, hj => fun h tk F N => fin m news ((show i = xs.length by simpa using hl) ▸ hj) h tk F N
  | a :: r, i, m, news, hd, hl, hj => fun v h tk hv F => by
    have hx : xs[i]? = some a := by rw [← List.head?_drop, hd]; rfl
    have hd' : xs.drop (i + 1) = r := by rw [← List.drop_drop, hd]; rfl
    refine allObj_mono (fun its k N => ?_) (step i a m news hx hj v h tk hv F)
    refine wpAny_mono (k N) (fun _ s₂ z => wpAny_mono z (fun f s₃ z' => unrPost_mono (fun m' n' hh => ⟨hh.1, ?_⟩) z') fun _ _ e => e) fun _ _ e => e
    exact itemsRest_ind J xs step fin r (i + 1) m' n' hd' (by simp only [List.length_cons] at hl; lia) hh.2
end
end Mine

namespace Mine
open PyProof.Rows.LCg
section
variable {prog : Program} {w : World} {A : Around} {E : Value → Shared → Prop} {s : Shared} {h₀ : Heap} {L : Addr} {m : Str → Option Value} {env : Env}
def OffL (as : List Addr) (l : List (Addr × Obj)) : Prop := ∀ p ∈ l, ∀ a ∈ as, @Ne Nat p.1 a
def PairEnd (h₀ : Heap) (L : Addr) (m : Str → Option Value) (s₁ : Shared) (fp wr : List Addr) (C D : Addr) (oC oD : Obj) (J : Value → List (Addr × Obj) → Prop) (y : Value) (s₂ : Shared) : Prop :=
  ∃ h' tk nw, s₂ = { s₁ with heap := h', toks := tk } ∧ Fr h₀ L h' m ∧ News h₀ L h' ((C, oC) :: (D, oD) :: nw) ∧ OffL (C :: D :: wr) nw ∧ (∀ b ∈ fp, ∀ o, s₁.heap.get? b = some o → h'.get? b = some o) ∧ J y nw
def PairStep (prog : Program) (w : World) (A : Around) (h₀ : Heap) (L : Addr) (m : Str → Option Value) (env : Env) (elt : PySem.Expr) (a b : Str) (scope : Scope) (cl : List (Str × Addr)) (s : Shared) (fp wr : List Addr) (n : Nat) (St : Nat → Heap → Prop) (Pv : Nat → Value → Value → Prop)
    (J : Nat → List Value → List (Addr × Obj) → Prop) : Prop :=
  ∀ i ys nw x y m₂ C oC D h tk (E' : Value → Shared → Prop), i < n → Pv i x y → J i ys nw → ys.length = i → St (i + 1) h → NsObj oC m₂ → m₂ a = some x → m₂ b = some y → Fr h₀ L h m → News h₀ L h ((C, oC) :: (D, lst ys) :: nw) → OffL (C :: D :: wr) nw → @Ne Nat C D → (∀ b ∈ fp, @Ne Nat b C ∧ @Ne Nat b D) →
    wpAny (model prog w) A (eval elt (compEnvC scope cl C env)) (PairEnd h₀ L m { s with heap := h, toks := tk } fp wr C D oC (lst ys) (fun y nw' => J (i + 1) (ys ++ [y]) nw')) E' { s with heap := h, toks := tk }
theorem pairBlock {elt iter : PySem.Expr} {a b : Str} {pa pb tp : Pos} {kk : Nat} {scope : Scope} {cl : List (Str × Addr)} {pos : Pos} {s₂ : Shared} {I : Addr} {fp wr : List Addr} {n : Nat} {P Md : Nat → Value → Heap → Prop} {St : Nat → Heap → Prop} {Pv : Nat → Value → Value → Prop} {news : List (Addr × Obj)}
    {J : Nat → List Value → List (Addr × Obj) → Prop} {RR : Value → Addr → Result → Shared → Prop}
    (W : KTurns prog w A (.Tuple [.Name a pa, .Name b pb] kk tp) I fp wr n P Md St)
    (hP : ∀ i v h, P i v h → ∃ T x y, v = .ref T ∧ h.IsTuple T #[x, y] ∧ Pv i x y)
    (self : ∀ (s : Shared) (Q : Value → Shared → Prop) (E : Value → Shared → Prop), St 0 s.heap → Q (.ref I) s → wpAny (model prog w) A (pyIter (.ref I)) Q E s)
    (hh : A.handled = none) (hsz : n ≤ sizeLine) (hst : St 0 s₂.heap) (hfp : ∀ b ∈ fp, b < s₂.heap.objs.size) (hwr : ∀ b ∈ wr, h₀.get? b = none) (hLf : L ∉ fp)
    (hcell : ∀ y ∈ scope.names, y.2 ≠ .cell) (hkind : scope.kind = .function) (hxa : scope.names.lookup a = some .local) (hxb : scope.names.lookup b = some .local) (hab : ¬ a = b)
    (F : Fr h₀ L s₂.heap m) (N : News h₀ L s₂.heap news) (off : ∀ p ∈ news, p.1 ∉ wr) (h0 : J 0 [] news)
    (step : PairStep prog w A h₀ L m env elt a b scope cl s₂ fp wr n St Pv J)
    (hRR : ∀ D C h tk m' ys nw, Fr h₀ L h m → News h₀ L h ((D, lst ys) :: nw) → OffL [C, D] nw → h.Ns C m' → h₀.get? C = none → h₀.get? D = none → C ≠ L → D ≠ L → C ≠ D → ys.length = n → J n ys nw → RR (.ref D) C (.ok .next) { s₂ with heap := h, toks := tk }) :
    wpAny (model prog w) A (newList []) (fun acc s₃ => wpAny (model prog w) A (newFunctionEnv scope env.globals cl [] env.qual none .none (some env)) (fun cenv s₄ =>
      codeAny (model prog w) A (.compStart (.ListComp elt [⟨.Tuple [.Name a pa, .Name b pb] kk tp, iter, [], 0⟩] scope pos) 0 (.ref I) acc { cenv with scope := relabel scope env }) (RR acc cenv.locals) s₄) E s₃) E s₂ := by
  refine wpAny_newObj_type (wpAny_newFunctionEnv hcell (by intro y hy; simp at hy) (fun h₁ hns₁ hsb₁ => ?_) hkind)
  dsimp only at hns₁ hsb₁ ⊢
  generalize hH2 : s₂.heap.push { cls := .type "list", dict := none, data := .seq ([] : List Value).toArray } = H2 at hns₁ hsb₁ ⊢
  have hC : H2.objs.size = s₂.heap.objs.size + 1 := by rw [← hH2, Heap.size_push]
  have hDC : @Ne Nat s₂.heap.objs.size H2.objs.size := by lia
  have hLlt : L < s₂.heap.objs.size := F.ns.lt
  have below : ∀ b, b < s₂.heap.objs.size → @Ne Nat b H2.objs.size ∧ @Ne Nat b s₂.heap.objs.size := fun b hb => by
    have : @LT.lt Nat _ b s₂.heap.objs.size := hb
    constructor <;> lia
  have old : ∀ b o, s₂.heap.get? b = some o → h₁.get? b = some o := fun b o e => hsb₁.extBut b o (below b (Heap.lt_size e)).1 (Heap.get?_push_of_some _ (hH2 ▸ Heap.get?_push_of_some _ e))
  have hacc : h₁.get? s₂.heap.objs.size = some (lst []) := hsb₁.extBut _ _ hDC (Heap.get?_push_of_some _ (hH2 ▸ Heap.get?_push_size _ rfl))
  have fresh : ∀ a, s₂.heap.objs.size ≤ a → h₀.get? a = none := fun a ha => by
    cases e : h₀.get? a with
    | none => rfl
    | some o => exact absurd (Heap.lt_size (F.keep a o e)) (Nat.not_lt.mpr ha)
  have hD₀ : h₀.get? s₂.heap.objs.size = none := fresh _ (Nat.le_refl _)
  have hC₀ : h₀.get? H2.objs.size = none := fresh _ (by rw [hC]; exact Nat.le_succ _)
  have hDL : s₂.heap.objs.size ≠ L := Ne.symm (below L hLlt).2
  have hCL : H2.objs.size ≠ L := Ne.symm (below L hLlt).1
  have fpC : ∀ b ∈ fp, b ≠ H2.objs.size ∧ b ≠ s₂.heap.objs.size := fun b hb => below b (hfp b hb)
  have hLw : L ∉ wr := fun h => hLf (W.sub _ h)
  have w₀ : ∀ c o, h₀.get? c = some o → c ∉ wr := fun c o e hc => by rw [hwr c hc] at e; cases e
  have hst₁ : St 0 h₁ := W.frame _ _ _ hst fun b _ o e => old b o e
  have loop : ∀ s₃ : Shared, s₃ = { s₂ with heap := h₁, toks := s₂.toks + ([] : List (Str × Value)).length } →
      codeAny (model prog w) A (.compLoop (.ListComp elt [⟨.Tuple [.Name a pa, .Name b pb] kk tp, iter, [], 0⟩] scope pos) 0 (.ref I) (.ref s₂.heap.objs.size) (compEnvC scope cl H2.objs.size env))
        (RR (.ref s₂.heap.objs.size) H2.objs.size) s₃ := by
    rintro s₃ rfl
    refine kcp_loop
      (fun k s' => ∃ h' tk i ys m' nw, s' = { s₂ with heap := h', toks := tk } ∧ i ≤ n ∧ k = n + 1 - i ∧ ys.length = i ∧ St i h' ∧ Fr h₀ L h' m ∧ h'.Ns H2.objs.size m' ∧
        News h₀ L h' ((s₂.heap.objs.size, lst ys) :: nw) ∧ OffL (H2.objs.size :: s₂.heap.objs.size :: wr) nw ∧ J i ys nw) ?_ (n + 1)
      ⟨h₁, _, 0, [], _, news, rfl, Nat.zero_le _, rfl, rfl, hst₁, F.keeps old, hns₁, ?_, ?_, h0⟩
    · rintro k s' ⟨h', tk, i, ys, m', nw, rfl, hi, rfl, hyl, hst', F', hn', N', off', J'⟩
      have offC : ∀ p ∈ nw, p.1 ≠ H2.objs.size := fun p hp => off' p hp _ (by simp)
      have offD : ∀ p ∈ nw, p.1 ≠ s₂.heap.objs.size := fun p hp => off' p hp _ (by simp)
      have offw : ∀ p ∈ nw, p.1 ∉ wr := fun p hp hw => off' p hp p.1 (by simp [hw]) rfl
      have Cw : H2.objs.size ∉ wr := fun h => (fpC _ (W.sub _ h)).1 rfl
      have Dw : s₂.heap.objs.size ∉ wr := fun h => (fpC _ (W.sub _ h)).2 rfl
      by_cases hlt : i < n
      · refine W.item i _ _ _ hlt hst' fun v h₂ tk₂ hMd hk₂ => ?_
        refine W.go i v _ _ _ hMd fun h₃ hPv hst₃ hk₃ => ?_
        obtain ⟨T, x, y, rfl, hT, hpv⟩ := hP i v h₃ hPv
        have up₃ : ∀ c o, c ∉ wr → h'.get? c = some o → h₃.get? c = some o := fun c o hc e => hk₃ c o hc (hk₂ c o hc e)
        refine kcp_assign (env := compEnvC scope cl H2.objs.size env) hh hT (lookup_relabel_local hxa) (lookup_relabel_local hxb) (by simp [compEnvC, relabel, hkind]) (hn'.at' fun o e => up₃ _ o Cw e) fun h₄ tk₄ hn₄ hs₄ => ?_
        have up : ∀ c o, c ∉ wr → c ≠ H2.objs.size → h'.get? c = some o → h₄.get? c = some o := fun c o h1 h2 e => hs₄ c o h2 (up₃ c o h1 e)
        have hst₄ : St (i + 1) h₄ := W.frame _ _ _ hst₃ fun b hb o e => hs₄ b o (fpC b hb).1 e
        obtain ⟨oC, heC, hoC⟩ := ns_obj hn₄
        have F₄ : Fr h₀ L h₄ m := ⟨F'.ns.at' fun o e => up _ o hLw (Ne.symm hCL) e, fun c o e => up c o (w₀ c o e) (fun q => by rw [q, hC₀] at e; cases e) (F'.keep c o e), F'.above⟩
        have N₄ : News h₀ L h₄ ((H2.objs.size, oC) :: (s₂.heap.objs.size, lst ys) :: nw) := fun q hq => by
          rcases List.mem_cons.mp hq with rfl | hq
          · exact ⟨heC, hCL, hC₀⟩
          · refine ⟨up _ _ ?_ ?_ (N' q hq).1, (N' q hq).2⟩
            · rcases List.mem_cons.mp hq with rfl | hq
              · exact Dw
              · exact offw q hq
            · rcases List.mem_cons.mp hq with rfl | hq
              · exact hDC
              · exact offC q hq
        refine wpAny_mono (step i ys nw x y _ H2.objs.size oC s₂.heap.objs.size h₄ _ _ hlt hpv J' hyl hst₄ hoC (by simp [hab]) (by simp) F₄ N₄ off' (Ne.symm hDC) fpC) (fun y s₅ h₅ => ?_) fun _ _ e => e
        obtain ⟨h₅, tk₅, nw₅, rfl, F₅, N₅, off₅, fr₅, J₅⟩ := h₅
        have zC := (N₅ (H2.objs.size, oC) (.head _)).1
        have zD := (N₅ (s₂.heap.objs.size, lst ys) (.tail _ (.head _))).1
        refine append_at (hsz := by show ys.toArray.size ≤ sizeLine; rw [List.size_toArray, hyl]; exact Nat.le_trans hi hsz) zD fun h₆ hs₆ hD₆ => ?_
        refine ⟨n + 1 - (i + 1), by lia, h₆, tk₅, i + 1, ys ++ [y], _, nw₅, rfl, hlt, rfl, by rw [List.length_append, List.length_singleton, hyl], W.frame _ _ _ hst₄ fun b hb o e => hs₆.extBut b o (fpC b hb).2 (fr₅ b hb o e), F₅.change hs₆ hDL hD₀,
          (hoC.ns zC).sameBut hs₆ (Ne.symm hDC), fun q hq => ?_, off₅, J₅⟩
        rcases List.mem_cons.mp hq with rfl | hq
        · exact ⟨hD₆.trans (congrArg some (lst_snoc ys y)), hDL, hD₀⟩
        · have z := N₅ q (.tail _ (.tail _ hq))
          exact ⟨hs₆.extBut _ _ (off₅ q hq _ (by simp)) z.1, z.2⟩
      · have hin : i = n := Nat.le_antisymm hi (Nat.not_lt.mp hlt)
        subst hin
        refine W.done _ _ _ hst' fun h₂ tk₂ hk₂ => ?_
        refine hRR _ _ h₂ tk₂ m' ys nw ⟨F'.ns.at' fun o e => hk₂ _ o hLw e, fun c o e => hk₂ c o (w₀ c o e) (F'.keep c o e), F'.above⟩ (fun q hq => ?_) (fun p hp a ha => ?_) (hn'.at' fun o e => hk₂ _ o Cw e) hC₀ hD₀ hCL hDL (Ne.symm hDC) hyl J'
        · refine ⟨hk₂ _ _ ?_ (N' q hq).1, (N' q hq).2⟩
          rcases List.mem_cons.mp hq with rfl | hq
          · exact Dw
          · exact offw q hq
        · simp only [List.mem_cons, List.not_mem_nil, or_false] at ha
          rcases ha with rfl | rfl
          · exact offC p hp
          · exact offD p hp
    · intro p hp
      rcases List.mem_cons.mp hp with rfl | hp
      · exact ⟨hacc, hDL, hD₀⟩
      · exact ⟨old _ _ (N p hp).1, (N p hp).2⟩
    · intro p hp a ha
      have lp := below p.1 (Heap.lt_size (N p hp).1)
      simp only [List.mem_cons] at ha
      rcases ha with rfl | rfl | ha
      · exact lp.1
      · exact lp.2
      · exact fun e => off p hp (e ▸ ha)
  exact codeAny_compStart_list (loop _ rfl) (self _ _ _ hst₁ (loop _ rfl))
def PairSrc (prog : Program) (w : World) (A : Around) (h₀ : Heap) (L : Addr) (m : Str → Option Value) (env : Env) (target elt : PySem.Expr) (a b : Str) (scope : Scope) (cl : List (Str × Addr)) (Fin : List Value → List (Addr × Obj) → Prop) (it : Value) (s₂ : Shared) : Prop :=
  ∃ (I : Addr) (fp wr : List Addr) (n : Nat) (P Md : Nat → Value → Heap → Prop) (St : Nat → Heap → Prop) (Pv : Nat → Value → Value → Prop) (news : List (Addr × Obj)) (J : Nat → List Value → List (Addr × Obj) → Prop),
    it = .ref I ∧ KTurns prog w A target I fp wr n P Md St ∧ (∀ i v h, P i v h → ∃ T x y, v = .ref T ∧ h.IsTuple T #[x, y] ∧ Pv i x y) ∧
    (∀ (s : Shared) (Q : Value → Shared → Prop) (E : Value → Shared → Prop), St 0 s.heap → Q (.ref I) s → wpAny (model prog w) A (pyIter (.ref I)) Q E s) ∧
    n ≤ sizeLine ∧ St 0 s₂.heap ∧ (∀ b ∈ fp, b < s₂.heap.objs.size) ∧ (∀ b ∈ wr, h₀.get? b = none) ∧ L ∉ fp ∧ Fr h₀ L s₂.heap m ∧ News h₀ L s₂.heap news ∧ (∀ p ∈ news, p.1 ∉ wr) ∧ J 0 [] news ∧
    PairStep prog w A h₀ L m env elt a b scope cl s₂ fp wr n St Pv J ∧ ∀ ys nw, ys.length = n → J n ys nw → Fin ys nw
theorem off1_of {D : Addr} : ∀ {l : List (Addr × Obj)}, (∀ p ∈ l, @Ne Nat p.1 D) → Off1 D l
  | [], _ => trivial
  | _ :: _, h => ⟨h _ (.head _), off1_of fun p hp => h p (.tail _ hp)⟩
def FinP (h₀ : Heap) (L : Addr) (m : Str → Option Value) (s : Shared) (y : Str) (Q : Flow → Shared → Prop) (ys : List Value) (nw : List (Addr × Obj)) : Prop :=
  ∀ D h tk, Fr h₀ L h (fun z => if z = y then some (.ref D) else m z) → News h₀ L h ((D, lst ys) :: nw) → Off1 D nw → Q .next { s with heap := h, toks := tk }
theorem pairAssign {elt iter : PySem.Expr} {a b y : Str} {pa pb tp py : Pos} {kk : Nat} {scope : Scope} {cl : List (Str × Addr)} {pos spos : Pos} {Q : Flow → Shared → Prop} (hh : A.handled = none) (_F₀ : Fr h₀ L s.heap m) (hLe : env.locals = L)
    (hsw : swapsWith (.ListComp elt [⟨.Tuple [.Name a pa, .Name b pb] kk tp, iter, [], 0⟩] scope pos) (some (.Name y py)) spos.line env = pure true)
    (hclos : closureFor scope env = pure cl) (hcell : ∀ z ∈ scope.names, z.2 ≠ .cell) (hkind : scope.kind = .function)
    (hnames : ∀ z ∈ scope.names, z.2 = .local → scope.names.lookup z.1 = some .local) (hxa : scope.names.lookup a = some .local) (hxb : scope.names.lookup b = some .local) (hab : ¬ a = b)
    (hy : env.kindOf y = some .local) (hp : (env.scope.kind == .class || (env.scope.kind == .module && env.locals != env.globals)) = false)
    (h : wpAny (model prog w) A (eval iter env) (fun xv s₁ => wpAny (model prog w) A (pyIter xv) (fun it s₂ => PairSrc prog w A h₀ L m env (.Tuple [.Name a pa, .Name b pb] kk tp) elt a b scope cl (FinP h₀ L m s₂ y Q) it s₂) E s₁) E s)
    (hs : ∀ x, foldedSetIterable iter env x = pure x := by intro _; rfl) :
    wpAny (model prog w) A (exec (.Assign [.Name y py] (.ListComp elt [⟨.Tuple [.Name a pa, .Name b pb] kk tp, iter, [], 0⟩] scope pos) spos) env) Q E s := by
  subst hLe
  rw [exec_Assign_Name_used _ _ _ _ hsw]
  refine wpAny_bind (wpAny_standAt (wpAny_bind ?_))
  show wpAny _ A (do let _ ← comprehension (.ListComp elt [⟨.Tuple [.Name a pa, .Name b pb] kk tp, iter, [], 0⟩] scope pos) scope env _ (newList []) false (eval iter env) (some (assign (.Name y py) env))) _ _ s
  refine wpAny_bind (wpAny_mono (wpAny_comprehension_free (use := some (assign (.Name y py) env)) (Q := fun _ s' => Q .next s') rfl hs hclos hkind hnames
    (wpAny_mono h (fun xv s₁ h₁ => wpAny_mono h₁ (fun it s₂ h₂ => ?_) fun _ _ e => e) fun _ _ e => e)) (fun _ s' hq => wpAny_pure (wpAny_pure hq)) fun _ _ e => e)
  obtain ⟨I, fp, wr, n, P, Md, St, Pv, news, J, rfl, W, hP, self, hsz, hst, hfp, hwr, hLf, F, N, off, h0, step, fin⟩ := h₂
  refine pairBlock W hP self hh hsz hst hfp hwr hLf hcell hkind hxa hxb hab F N off h0 step ?_
  intro D C h' tk m' ys nw F' N' o1 hn hC₀ hD₀ hCL hDL hCD hyl hj
  show wpAny _ A (assign (.Name y py) env (.ref D)) _ _ _
  refine wpAny_assign_Name (wpAny_storeName_local hy F'.ns (fun h₂ hn₂ hs₂ => ?_) hp)
  have hL₀ : h₀.get? env.locals = none := Heap.get?_none_of_le F'.above
  have F₂ : Fr h₀ env.locals h₂ (fun z => if z = y then some (.ref D) else m z) := ⟨hn₂, fun b o e => hs₂.extBut b o (fun q => by rw [q, hL₀] at e; cases e) (F'.keep b o e), F'.above⟩
  refine ⟨m', hn.sameBut hs₂ hCL, fun h'' hs'' => fin ys nw hyl hj D h'' _ (F₂.change hs'' hCL hC₀) (fun p hp => ?_) (off1_of fun p hp => o1 p hp D (by simp))⟩
  have z : h₂.get? p.1 = some p.2 := hs₂.extBut _ _ (N' p hp).2.1 (N' p hp).1
  refine ⟨hs''.extBut _ _ ?_ z, (N' p hp).2⟩
  rcases List.mem_cons.mp hp with rfl | hp
  · exact Ne.symm hCD
  · exact o1 p hp _ (by simp)
end
end Mine

namespace Mine
open PyProof.Rows.LCg
section
variable {prog : Program} {w : World} {A : Around} {E : Value → Shared → Prop} {s : Shared} {h₀ : Heap} {L : Addr} {m : Str → Option Value} {env : Env}
def PairOn (prog : Program) (w : World) (A : Around) (h₀ : Heap) (L : Addr) (m : Str → Option Value) (env : Env) (elt : PySem.Expr) (a b : Str) (scope : Scope) (cl : List (Str × Addr)) (s : Shared) (wr : List Addr) (n : Nat) (Pv : Nat → Value → Value → Prop)
    (J : Nat → List Value → List (Addr × Obj) → Prop) : Prop :=
  ∀ i ys nw own x y m₂ C oC D h tk (E' : Value → Shared → Prop), i < n → Pv i x y → J i ys nw → ys.length = i → NsObj oC m₂ → m₂ a = some x → m₂ b = some y → Fr h₀ L h m → News h₀ L h ((C, oC) :: (D, lst ys) :: (nw ++ own)) → OffL (C :: D :: wr) nw → OffL [C, D] own → @Ne Nat C D →
    wpAny (model prog w) A (eval elt (compEnvC scope cl C env)) (fun y s₂ => ∃ h' tk' nw', s₂ = { s with heap := h', toks := tk' } ∧ Fr h₀ L h' m ∧ News h₀ L h' ((C, oC) :: (D, lst ys) :: (nw' ++ own)) ∧ OffL (C :: D :: wr) nw' ∧ J (i + 1) (ys ++ [y]) nw') E' { s with heap := h, toks := tk }
theorem PairOn.step {elt : PySem.Expr} {a b : Str} {scope : Scope} {cl : List (Str × Addr)} {fp wr : List Addr} {n : Nat} {St : Nat → Heap → Prop} {Pv : Nat → Value → Value → Prop} {J : Nat → List Value → List (Addr × Obj) → Prop} (hL : L ∉ fp)
    (h : PairOn prog w A h₀ L m env elt a b scope cl s wr n Pv J) : PairStep prog w A h₀ L m env elt a b scope cl s fp wr n St Pv J := by
  intro i ys nw x y m₂ C oC D hp tk E' hi hv hj hyl _ hC ha hb F N off ne fpC
  have No : News h₀ L hp (ownOf h₀ fp hp) := news_ownOf hL
  have hsub : ∀ p ∈ ownOf h₀ fp hp, p.1 ∈ fp := ownOf_sub
  refine wpAny_mono (h i ys nw (ownOf h₀ fp hp) x y m₂ C oC D hp tk E' hi hv hj hyl hC ha hb F (fun p hp' => ?_) off (fun p hp' a ha' => ?_) ne) (fun y' s₂ hq => ?_) fun _ _ e => e
  · simp only [List.mem_cons, List.mem_append] at hp'
    rcases hp' with rfl | rfl | hp' | hp'
    · exact N _ (.head _)
    · exact N _ (.tail _ (.head _))
    · exact N _ (.tail _ (.tail _ hp'))
    · exact No _ hp'
  · have z := fpC _ (hsub p hp')
    simp only [List.mem_cons, List.not_mem_nil, or_false] at ha'
    rcases ha' with rfl | rfl
    · exact z.1
    · exact z.2
  · obtain ⟨h', tk', nw', rfl, F', N', off', j'⟩ := hq
    refine ⟨h', tk', nw', rfl, F', fun p hp' => ?_, off', fun c hc o e => ?_, j'⟩
    · simp only [List.mem_cons] at hp'
      rcases hp' with rfl | rfl | hp'
      · exact N' _ (.head _)
      · exact N' _ (.tail _ (.head _))
      · exact N' _ (.tail _ (.tail _ (List.mem_append_left _ hp')))
    · cases hn : h₀.get? c with
      | some o₀ =>
        have q : hp.get? c = some o₀ := F.keep c o₀ hn
        have e' : hp.get? c = some o := e
        rw [q] at e'
        exact Option.some.inj e' ▸ F'.keep c o₀ hn
      | none => exact (N' (c, o) (.tail _ (.tail _ (List.mem_append_right _ (mem_ownOf hc hn e))))).1
theorem ptu_new {L b : Addr} {h : Heap} {m : Str → Option Value} (F : Fr h₀ L h m) (hb : h.objs.size ≤ b) : h₀.get? b = none := by
  cases e : h₀.get? b with
  | none => rfl
  | some o => exact absurd (Heap.lt_size (F.keep _ _ e)) (Nat.not_lt.mpr hb)
theorem pair_enum {elt : PySem.Expr} {a b : Str} {pa pb tp : Pos} {kk : Nat} {scope : Scope} {cl : List (Str × Addr)} {Fin : Shared → List Value → List (Addr × Obj) → Prop} {l : Addr} {lo : Obj} {vs : List Value} {k : Nat} {news : List (Addr × Obj)}
    (J : Nat → List Value → List (Addr × Obj) → Prop)
    (hh : A.handled = none) (F : Fr h₀ L s.heap m) (N : News h₀ L s.heap news) (hm : (l, lo) ∈ news) (hc : lo.cls = .type "list") (hd : lo.data = .seq vs.toArray k) (hsz : vs.length ≤ sizeLine)
    (h0 : J 0 [] news)
    (step : ∀ I h, (∀ p ∈ news, @LT.lt Nat _ p.1 I) → PairOn prog w A h₀ L m env elt a b scope cl { s with heap := h } [I + 1, I] vs.length (fun i x y => ∃ t, x = .int (i : Int) t ∧ vs[i]? = some y) J)
    (fin : ∀ h ys nw, ys.length = vs.length → J vs.length ys nw → Fin { s with heap := h } ys nw) :
    wpAny (model prog w) A (call (.type "enumerate") [.ref l]) (fun xv s₁ => wpAny (model prog w) A (pyIter xv) (fun it s₂ => PairSrc prog w A h₀ L m env (.Tuple [.Name a pa, .Name b pb] kk tp) elt a b scope cl (Fin s₂) it s₂) E s₁) E s := by
  have hax := N _ hm
  have hl : s.heap.IsList l vs.toArray := ⟨lo, hax.1, hc, k, hd⟩
  have hlt : @LT.lt Nat _ l s.heap.objs.size := Heap.lt_size hax.1
  have hLs : @LT.lt Nat _ L s.heap.objs.size := F.ns.lt
  refine call_enumerate_list hl fun h' hE hI hs' hk => ?_
  refine wpAny_pyIter_enum hE ?_
  have WE := WalksT.enumerate (prog := prog) (w := w) hh (s.heap.objs.size + 1) s.heap.objs.size l (Nat.succ_ne_self _) (show @Ne Nat l _ by lia) (show @Ne Nat l _ by lia) vs.toArray
  have hLf : L ∉ [s.heap.objs.size + 1, s.heap.objs.size, l] := fun q => by
    have q' : @Eq Nat L (s.heap.objs.size + 1) ∨ @Eq Nat L s.heap.objs.size ∨ L = l := by simpa using q
    rcases q' with q' | q' | q'
    · lia
    · lia
    · exact hax.2.1 q'.symm
  refine ⟨_, _, _, _, _, _, _, (fun i x y => ∃ t, x = .int (i : Int) t ∧ vs[i]? = some y), news, J, rfl, KTurns.ofWalksU WE.toU, ?_, fun s Q E st hq => WE.self 0 s Q E st hq, by simpa using hsz, ⟨⟨.none, hE⟩, hI, hl.at fun o e => hk l o e⟩, ?_, ?_, hLf, F.keeps hk, N.grown hk, ?_, h0, ?_, ?_⟩
  · rintro i v h ⟨T, vals, rfl, ⟨t, x, hx, rfl⟩, hT⟩
    exact ⟨T, _, _, rfl, hT, t, rfl, by simpa using hx⟩
  · intro c hc'
    show @LT.lt Nat _ c h'.objs.size
    rw [hs']
    have q' : @Eq Nat c (s.heap.objs.size + 1) ∨ @Eq Nat c s.heap.objs.size ∨ @Eq Nat c l := by simpa using hc'
    lia
  · intro c hc'
    have q' : @Eq Nat c (s.heap.objs.size + 1) ∨ @Eq Nat c s.heap.objs.size := by simpa using hc'
    exact ptu_new F (show @LE.le Nat _ s.heap.objs.size c by lia)
  · intro p hp hI'
    have q' : @Eq Nat p.1 (s.heap.objs.size + 1) ∨ @Eq Nat p.1 s.heap.objs.size := by simpa using hI'
    have hlp : @LT.lt Nat _ p.1 s.heap.objs.size := Heap.lt_size (N p hp).1
    lia
  · have z := step s.heap.objs.size h' (fun p hp => Heap.lt_size (N p hp).1)
    have e : vs.toArray.size = vs.length := by simp
    rw [e]
    exact PairOn.step hLf z
  · intro ys nw hyl hj
    exact fin _ ys nw (by simpa using hyl) (by simpa using hj)
theorem pair_zip {elt : PySem.Expr} {a b : Str} {pa pb tp : Pos} {kk : Nat} {scope : Scope} {cl : List (Str × Addr)} {Fin : Shared → List Value → List (Addr × Obj) → Prop} {l1 l2 : Addr} {lo1 lo2 : Obj} {xs ys : List Value} {k1 k2 : Nat} {news : List (Addr × Obj)}
    (J : Nat → List Value → List (Addr × Obj) → Prop)
    (hh : A.handled = none) (F : Fr h₀ L s.heap m) (N : News h₀ L s.heap news) (hm1 : (l1, lo1) ∈ news) (hc1 : lo1.cls = .type "list") (hd1 : lo1.data = .seq xs.toArray k1) (hm2 : (l2, lo2) ∈ news) (hc2 : lo2.cls = .type "list") (hd2 : lo2.data = .seq ys.toArray k2) (hsz : xs.length ≤ sizeLine) (hle : ys.length = xs.length)
    (h0 : J 0 [] news)
    (step : ∀ I h, (∀ p ∈ news, @LT.lt Nat _ p.1 I) → PairOn prog w A h₀ L m env elt a b scope cl { s with heap := h } [I + 4, I + 3, I, I + 1] xs.length (fun i x y => xs[i]? = some x ∧ ys[i]? = some y) J)
    (fin : ∀ h zs nw, zs.length = xs.length → J xs.length zs nw → Fin { s with heap := h } zs nw) :
    wpAny (model prog w) A (call (.type "zip") [.ref l1, .ref l2]) (fun xv s₁ => wpAny (model prog w) A (pyIter xv) (fun it s₂ => PairSrc prog w A h₀ L m env (.Tuple [.Name a pa, .Name b pb] kk tp) elt a b scope cl (Fin s₂) it s₂) E s₁) E s := by
  have hax1 := N _ hm1
  have hax2 := N _ hm2
  have hl1 : s.heap.IsList l1 xs.toArray := ⟨lo1, hax1.1, hc1, k1, hd1⟩
  have hl2 : s.heap.IsList l2 ys.toArray := ⟨lo2, hax2.1, hc2, k2, hd2⟩
  have hlt1 : @LT.lt Nat _ l1 s.heap.objs.size := Heap.lt_size hax1.1
  have hlt2 : @LT.lt Nat _ l2 s.heap.objs.size := Heap.lt_size hax2.1
  have hLs : @LT.lt Nat _ L s.heap.objs.size := F.ns.lt
  have D : ZipApart (s.heap.objs.size + 4) (s.heap.objs.size + 2) (s.heap.objs.size + 3) s.heap.objs.size (s.heap.objs.size + 1) l1 l2 := ktu_apart _ _ _ hlt1 hlt2
  refine call_zip_2 hl1 hl2 fun h' hz hTI hTO hi1 hi2 hs' hk => ?_
  refine wpAny_pyIter_zip hz ?_
  have WE := WalksT.zip2 (prog := prog) (w := w) hh _ _ _ _ _ _ _ D xs.toArray ys.toArray
  have hmin : min xs.toArray.size ys.toArray.size = xs.length := by simp [hle]
  have hLf : L ∉ [s.heap.objs.size + 4, s.heap.objs.size + 2, s.heap.objs.size + 3, s.heap.objs.size, s.heap.objs.size + 1, l1, l2] := fun q => by
    have q' : @Eq Nat L (s.heap.objs.size + 4) ∨ @Eq Nat L (s.heap.objs.size + 2) ∨ @Eq Nat L (s.heap.objs.size + 3) ∨ @Eq Nat L s.heap.objs.size ∨ @Eq Nat L (s.heap.objs.size + 1) ∨ L = l1 ∨ L = l2 := by simpa using q
    rcases q' with q' | q' | q' | q' | q' | q' | q'
    · lia
    · lia
    · lia
    · lia
    · lia
    · exact hax1.2.1 q'.symm
    · exact hax2.2.1 q'.symm
  refine ⟨_, _, _, _, _, _, _, (fun i x y => xs[i]? = some x ∧ ys[i]? = some y), news, J, rfl, KTurns.ofWalksU WE.toU, ?_, fun s Q E st hq => WE.self 0 s Q E st hq, by rw [hmin]; exact hsz, ⟨hz, hTI, ⟨_, _, hTO⟩, hi1, hi2, hl1.at fun o e => hk l1 o e, hl2.at fun o e => hk l2 o e⟩, ?_, ?_, hLf, F.keeps hk, N.grown hk, ?_, h0, ?_, ?_⟩
  · rintro i v h ⟨T, vals, rfl, ⟨x, y, hx, hy, rfl⟩, hT⟩
    exact ⟨T, _, _, rfl, hT, by simpa using hx, by simpa using hy⟩
  · intro c hc'
    show @LT.lt Nat _ c h'.objs.size
    rw [hs']
    have q' : @Eq Nat c (s.heap.objs.size + 4) ∨ @Eq Nat c (s.heap.objs.size + 2) ∨ @Eq Nat c (s.heap.objs.size + 3) ∨ @Eq Nat c s.heap.objs.size ∨ @Eq Nat c (s.heap.objs.size + 1) ∨ @Eq Nat c l1 ∨ @Eq Nat c l2 := by simpa using hc'
    lia
  · intro c hc'
    have q' : @Eq Nat c (s.heap.objs.size + 4) ∨ @Eq Nat c (s.heap.objs.size + 3) ∨ @Eq Nat c s.heap.objs.size ∨ @Eq Nat c (s.heap.objs.size + 1) := by simpa using hc'
    exact ptu_new F (show @LE.le Nat _ s.heap.objs.size c by lia)
  · intro p hp hI'
    have q' : @Eq Nat p.1 (s.heap.objs.size + 4) ∨ @Eq Nat p.1 (s.heap.objs.size + 3) ∨ @Eq Nat p.1 s.heap.objs.size ∨ @Eq Nat p.1 (s.heap.objs.size + 1) := by simpa using hI'
    have hlp : @LT.lt Nat _ p.1 s.heap.objs.size := Heap.lt_size (N p hp).1
    lia
  · have z := step s.heap.objs.size h' (fun p hp => Heap.lt_size (N p hp).1)
    rw [hmin]
    exact PairOn.step hLf z
  · intro zs nw hyl hj
    rw [hmin] at hyl hj
    exact fin _ zs nw hyl hj
end
end Mine

namespace Mine
/-- The lengths of the rows that words of these sizes fill. -/
noncomputable def fillR (w : Nat) (l : List Nat) : Nat → Nat → List Nat := List.rec (fun _ c => [c]) (fun k _ ih s c => bif Nat.ble (s + (k + 1)) w then ih (s + (k + 1)) (c + 1) else bif Nat.beq c 0 then ih (k + 1) 1 else c :: ih (k + 1) 1) l
noncomputable def cntR (f : Nat → Bool) (l : List Nat) : Nat := List.rec 0 (fun x _ ih => bif f x then Nat.succ ih else ih) l
def okF (W w q x : Nat) : Bool := Nat.ble 1 (Nat.mod (Nat.add x (Nat.sub W q)) W) && Nat.ble (Nat.mod (Nat.add x (Nat.sub W q)) W) w
def okB (W w q x : Nat) : Bool := Nat.ble 1 (Nat.mod (Nat.add q (Nat.sub W x)) W) && Nat.ble (Nat.mod (Nat.add q (Nat.sub W x)) W) w
noncomputable def nF (W w : Nat) (P : List Nat) (i : Nat) : Nat := (fun c => bif Nat.ble 1 c then c else 1) (cntR (okF W w (P.getD i 0)) P)
noncomputable def nB (W w : Nat) (P : List Nat) (i : Nat) : Nat := (fun c => bif Nat.ble 1 c then c else 1) (cntR (okB W w (P.getD i 0)) P)
noncomputable def mF (W w : Nat) (P : List Nat) (i : Nat) : Nat := Nat.add (nF W w P i) (nF W w P (Nat.mod (Nat.add i (nF W w P i)) P.length))
noncomputable def mB (W w : Nat) (P : List Nat) (i : Nat) : Nat := Nat.add (nB W w P i) (nB W w P (Nat.mod (Nat.add i (Nat.sub P.length (nB W w P i))) P.length))
def pairIs (l : List Nat) (a b : Nat) : Bool := match l with
  | x :: y :: _ => Nat.beq x a && Nat.beq (x + y) b
  | _ => false
noncomputable def spotF (ks : List Nat) (W w : Nat) (P : List Nat) (i : Nat) : Bool :=
  pairIs (fillR w (ks.drop i ++ ks.take i) 0 0) (nF W w P i) (mF W w P i) && pairIs (fillR w (ks.drop i ++ ks.take i).reverse 0 0) (nB W w P i) (mB W w P i)
noncomputable def widF (ks : List Nat) (W w : Nat) (P : List Nat) (r : List Nat) : Bool :=
  r.all (spotF ks W w P) && ((r.map (nF W w P)).isPerm (r.map (nB W w P)) && (r.map (mF W w P)).isPerm (r.map (mB W w P)))
noncomputable def allF (ks P : List Nat) (W : Nat) (r : List Nat) : Bool := (List.range (W / 2)).all fun k => widF ks W (k + 1) P r
noncomputable def all6 (a b : Nat) : Bool := allF [a, b, 1, 4, 0, 3] [0, a + 1, a + b + 2, a + b + 4, a + b + 9, a + b + 10] (a + b + 14) [0, 1, 2, 3, 4, 5]
noncomputable def all5 (a : Nat) : Bool := allF [a, 1, 4, 0, 3] [0, a + 1, a + 3, a + 8, a + 9] (a + 13) [0, 1, 2, 3, 4]
theorem all4_ok : allF [1, 4, 0, 3] [0, 2, 7, 8] 12 [0, 1, 2, 3] = true := by decide +kernel
theorem all5_ok : (List.range 9).all all5 = true := by decide +kernel
theorem all6_ok : (List.range 9).all (fun a => (List.range 9).all (all6 a)) = true := by decide +kernel
end Mine

local macro_rules | `(tactic| walk_at $s:str) => `(tactic| k_extra $s)
section
local macro_rules | `(tactic| k_lt $h:ident) => `(tactic| (replace $h := allLt_of $h; dsimp only [AllLt] at $h:ident))
local macro_rules | `(tactic| k_ne) => `(tactic| walk_at "own kne")
local macro_rules | `(tactic| ktr_room) => `(tactic| walk_at "own ktrroom")
local macro_rules | `(tactic| ktr_units) => `(tactic| walk_at "own ktrunits")
local macro_rules | `(tactic| k_all) => `(tactic| assumption)
theorem Mine.regF1 : True := by
  k_with_none
  k_with "own kne" => ((refine neN ?_; (try dsimp only); walk_at "mine apart"))
  k_with "own ktrroom" => (((try simp only [depth_under_make, depth_under_kw, depth_in1, depth_deeper, depth_caller]); (try dsimp only [ktrTop]); walk_at "mine near"))
  k_with "own ktrunits" => (((try simp only [units_in1, units_deeper, Around.mark_units, units_caller]); (try dsimp only [ktrTop]); walk_at "mine near"))
  k_with "mine near" => (((try simp only [Nat.add_assoc]); first | exact Mine.roomOf ‹_› (by decide) | exact Mine.roomOf0 ‹_› | decide))
  k_with "mine apart" => (first | assumption | exact Ne.symm ‹_› | exact Nat.ne_of_lt ‹_› | exact Nat.ne_of_gt ‹_› | exact Nat.ne_of_lt (Mine.A0 ‹_›) | exact Nat.ne_of_gt (Mine.A0 ‹_›) | exact Mine.A0 ‹_› | exact Ne.symm (Mine.A0 ‹_›) | exact Nat.ne_of_lt (Mine.A1 ‹_›) | exact Nat.ne_of_gt (Mine.A1 ‹_›) | exact Mine.A1 ‹_› | exact Ne.symm (Mine.A1 ‹_›) | exact Nat.ne_of_lt (Mine.A2 ‹_›) | exact Nat.ne_of_gt (Mine.A2 ‹_›) | exact Mine.A2 ‹_› | exact Ne.symm (Mine.A2 ‹_›) | exact Nat.ne_of_lt (Mine.A3 ‹_›) | exact Nat.ne_of_gt (Mine.A3 ‹_›) | exact Mine.A3 ‹_› | exact Ne.symm (Mine.A3 ‹_›) | exact Nat.ne_of_lt (Mine.A4 ‹_›) | exact Nat.ne_of_gt (Mine.A4 ‹_›) | exact Mine.A4 ‹_› | exact Ne.symm (Mine.A4 ‹_›) | exact Nat.ne_of_lt (Mine.A5 ‹_›) | exact Nat.ne_of_gt (Mine.A5 ‹_›) | exact Mine.A5 ‹_› | exact Ne.symm (Mine.A5 ‹_›) | exact Nat.ne_of_lt (Mine.A6 ‹_›) | exact Nat.ne_of_gt (Mine.A6 ‹_›) | exact Mine.A6 ‹_› | exact Ne.symm (Mine.A6 ‹_›) | exact Nat.ne_of_lt (Mine.A7 ‹_›) | exact Nat.ne_of_gt (Mine.A7 ‹_›) | exact Mine.A7 ‹_› | exact Ne.symm (Mine.A7 ‹_›) | exact Nat.ne_of_lt (Mine.A8 ‹_›) | exact Nat.ne_of_gt (Mine.A8 ‹_›) | exact Mine.A8 ‹_› | exact Ne.symm (Mine.A8 ‹_›) | exact Nat.ne_of_lt (Mine.A9 ‹_›) | exact Nat.ne_of_gt (Mine.A9 ‹_›) | exact Mine.A9 ‹_› | exact Ne.symm (Mine.A9 ‹_›) | exact Nat.ne_of_lt (Mine.A10 ‹_›) | exact Nat.ne_of_gt (Mine.A10 ‹_›) | exact Mine.A10 ‹_› | exact Ne.symm (Mine.A10 ‹_›) | decide | omega)
  k_with "getMethod ref" => ((k_here; k_dflt (refine' Mine.accK_method ?k1Zc ?k2Zc ?k3Zc ?k4Zc ?k5Zc ?k6Zc ?k7Zc ?k8Zc ?k9Zc ?k10Zc ?k11Zc ?_; (case k1Zc => k_asm); (case k2Zc => k_asm); (case k3Zc => k_asm); (case k4Zc => k_mem); (case k5Zc => k_mem); (case k6Zc => k_is); (case k7Zc => k_is); (case k8Zc => k_is); (case k9Zc => k_is); (case k10Zc => decide); (case k11Zc => k_get); k_whole)))
  k_with "call builtin:list.append" => ((k_here; (with_reducible show wpAny _ _ (call (Value.builtin _) [Value.ref _, _]) _ _ _); k_dflt (refine' Mine.accK_append ?k1Zc ?k2Zc ?k3Zc ?k4Zc ?k5Zc ?k6Zc ?_ ?zZc; (case k1Zc => k_asm); (case k2Zc => k_asm); (case k3Zc => k_asm); (case k6Zc => k_upd); (case k4Zc => k_mem); (case k5Zc => k_is); (case zZc => first | size_fits | (rw [sizeLine_eq]; omega)); k_whole); intro hqZn FqZn NqZn; (try k_sweep)))
  k_with "getAttr ref" => ((k_here; k_dflt (refine' Mine.accK_get ?k1Zc ?k2Zc ?k3Zc ?k4Zc ?k5Zc ?k6Zc ?k7Zc ?k8Zc ?k9Zc ?k10Zc ?k11Zc ?k12Zc ?k13Zc ?_; (case k1Zc => k_asm); (case k2Zc => k_asm); (case k3Zc => k_asm); (case k4Zc => k_mem); (case k5Zc => k_mem); (case k6Zc => k_is); (case k7Zc => k_is); (case k8Zc => k_is); (case k9Zc => k_is); (case k10Zc => k_is); (case k11Zc => k_is); (case k12Zc => k_get); (case k13Zc => k_handed); k_whole)))
  k_with "setAttr ref" => ((k_here; k_dflt (refine' Mine.accK_set ?k1Zc ?k2Zc ?k3Zc ?k4Zc ?k5Zc ?k6Zc ?k7Zc ?k8Zc ?k9Zc ?k10Zc ?k11Zc ?k12Zc ?k13Zc ?k14Zc ?_; (case k1Zc => k_asm); (case k2Zc => k_asm); (case k3Zc => k_asm); (case k4Zc => k_mem); (case k5Zc => k_mem); (case k6Zc => k_is); (case k7Zc => k_is); (case k8Zc => rfl); (case k9Zc => rfl); (case k10Zc => k_is); (case k11Zc => k_get); (case k12Zc => k_put); (case k13Zc => k_upd); (case k14Zc => exact Nat.le_of_ble_eq_true rfl); k_whole); intro hqZn FqZn NqZn; (try k_sweep)))
  k_with "call builtin:len" => ((k_here; (with_reducible show wpAny _ _ (call (Value.builtin "len") [Value.ref _]) _ _ _); k_dflt (refine' Mine.accK_len ?k1Zc ?k2Zc ?k3Zc ?k4Zc ?k5Zc ?k6Zc ?k7Zc ?_; (case k1Zc => k_asm); (case k2Zc => k_asm); (case k3Zc => k_asm); (case k4Zc => k_mem); (case k5Zc => k_mem); (case k6Zc => k_is); (case k7Zc => k_is); k_whole)))
  k_with "subscriptTail" => ((k_here; (with_reducible show wpAny _ _ (subscriptTail _ _ (Value.ref _) (Value.ref _)) _ _ _); k_dflt (refine' Mine.accK_slice ?k1Zc ?k2Zc ?k3Zc ?k4Zc ?k5Zc ?k6Zc ?k7Zc ?k8Zc ?k9Zc ?k10Zc ?k11Zc ?zZc ?_ ?k12Zc; (case k1Zc => k_asm); (case k2Zc => k_asm); (case k3Zc => k_asm); (case k4Zc => k_mem); (case k5Zc => k_mem); (case k6Zc => k_is); (case k7Zc => k_is); (case k8Zc => k_is); (case k9Zc => first | exact .none | exact .int _ _); (case k10Zc => first | exact .none | exact .int _ _); (case k11Zc => exact Mine.accPick _ _); (case zZc => first | size_fits | (rw [sizeLine_eq]; omega)); (case k12Zc => intro slZn; with_unfolding_all rfl); k_whole); intro lqZn hqZn FqZn NqZn l1Zn; (try k_lt l1Zn); (try k_sweep)))
  k_with "setItem ref" => ((k_here; (with_reducible show wpAny _ _ (setItem (Value.ref _) (Value.ref _) (Value.ref _)) _ _ _); k_dflt (refine' Mine.accK_setSlice ?k1Zc ?k2Zc ?k3Zc ?k4Zc ?k5Zc ?k6Zc ?k7Zc ?k8Zc ?k10Zc ?k11Zc ?k12Zc ?k13Zc ?k14Zc ?zZc ?_; (case k1Zc => k_asm); (case k2Zc => k_asm); (case k3Zc => k_asm); (case k4Zc => k_mem); (case k5Zc => k_mem); (case k6Zc => k_is); (case k7Zc => k_is); (case k8Zc => k_is); (case k10Zc => k_mem); (case k11Zc => first | exact .none | exact .int _ _); (case k12Zc => first | exact .none | exact .int _ _); (case k13Zc => first | exact Mine.accB_all _ _ | exact Mine.accB_del _ _ (by assumption)); (case k14Zc => k_upd); (case zZc => first | size_fits | (simp only [List.length_nil, List.length_cons]; rw [sizeLine_eq]; omega)); k_whole); intro hqZn FqZn NqZn; (try k_sweep)))
  k_with "subscriptTail" => ((k_here; (with_reducible show wpAny _ _ (subscriptTail _ _ (Value.ref _) (Value.int _ _)) _ _ _); k_dflt (refine' Mine.accK_item ?k1Zc ?k2Zc ?k3Zc ?k4Zc ?k5Zc ?k6Zc ?k7Zc ?k8Zc ?k9Zc ?k10Zc ?k11Zc ?_ ?k12Zc; (case k1Zc => k_asm); (case k2Zc => k_asm); (case k3Zc => k_asm); (case k4Zc => k_mem); (case k5Zc => k_mem); (case k6Zc => k_is); (case k7Zc => k_is); (case k8Zc => k_is); (case k9Zc => omega); (case k10Zc => omega); (case k11Zc => first | assumption | rfl); (case k12Zc => with_unfolding_all rfl); k_whole)))
  k_with "mine enter" => ((refine' code_def ?k1Zc ?k2Zc ?k3Zc ?k4Zc ?k5Zc ?kAZc ?kFZc ?kKZc ?k6Zc ?k7Zc ?k8Zc ?k9Zc ?kBZc ?_ ?c2Zc ?c3Zc ?c4Zc ?c5Zc; (case kAZc => exact rfl); (case kFZc => exact rfl); (case kKZc => assumption); (case k1Zc => k_asm); (case k2Zc => k_asm); (case k3Zc => k_asm); (case k4Zc => k_asm); (case k5Zc => k_asm); (case k6Zc => k_is); (case k7Zc => k_is); (case k8Zc => ktr_room); (case k9Zc => first | exact BindsTo.of_eq rfl | exact binds_K (by k_in) rfl (by k_is) rfl rfl rfl); (case c5Zc => decide); (case kBZc => exact locs rfl); (case c2Zc => exact rfl); (case c3Zc => exact rfl); (case c4Zc => exact rfl); k_whole; intro gqZn LqZn hqZn FGqZn FqZn NqZn BqZn XqZn TqZn; (try dsimp only); (try k_lift BqZn); (try k_fold)))
  k_with "mine sub" => (first | exact fun _ h => h | (refine' List.forall_mem_cons.mpr ⟨?maZc, ?mbZc⟩; (case maZc => k_mem); (case mbZc => walk_at "mine sub")) | (intro pZn hpZn; (repeat' first | exact hpZn | apply List.Mem.tail)))
  k_with "mine news" => (first | k_asm | (refine' cb_drop ?cbNZc ?cbSZc; (case cbNZc => assumption); (case cbSZc => walk_at "mine sub")))
  k_with "mine senter" => ((refine' ks_code_super ?k1Zc ?k2Zc ?k3Zc ?k4Zc ?k5Zc ?kAZc ?kFZc ?kKZc ?k6Zc ?k7Zc ?k8Zc ?k9Zc ?kBZc ?_ ?c1Zc ?c2Zc ?c3Zc ?c4Zc; (case kAZc => exact rfl); (case kFZc => exact rfl); (case kKZc => assumption); (case k1Zc => k_asm); (case k2Zc => k_asm); (case k3Zc => k_asm); (case k4Zc => k_asm); (case k5Zc => k_asm); (case k6Zc => k_is); (case k7Zc => k_is); (case k8Zc => ktr_room); (case k9Zc => first | exact BindsTo.of_eq rfl | exact binds_K (by k_in) rfl (by k_is) rfl rfl rfl); (case kBZc => exact locs rfl); (case c1Zc => decide); (case c2Zc => exact rfl); (case c3Zc => exact rfl); (case c4Zc => exact rfl); intro gqZn LqZn hqZn FGqZn FqZn NqZn BqZn XqZn TqZn l1Zn; (try k_lt l1Zn); (try dsimp only); (try k_lift BqZn)))
  k_with "wpAt" => ((ks_step "attributeBase Call"; k_here; k_dflt (refine ks_node (by k_asm) (by k_asm) (by k_asm) (by k_asm) (by k_is) (by rfl) (by rfl) (Mine.accI (by k_asm) (by k_mem) (by k_mem)) (by k_is) (by rfl) (by first | rfl | decide +kernel) (by k_is) (by k_is) (by k_is) (by k_is) (by decide) (by rfl) (by rfl) (by rfl) (by rfl) (by decide +kernel) (by first | boot_by_name | rfl | kernel_rfl) ?_; intro soqZn hqZn FqZn NqZn l1Zn; (try k_lt l1Zn))))
  k_with "getMethod ref" => ((k_here; k_dflt (first | ((with_reducible show wpAny _ _ (getMethod (Value.ref _) (PySem.Str.ofString "pop") _) _ _ _); refine' Mine.accK_supPop ?k1Zc ?k2Zc ?k3Zc ?k4Zc ?k5Zc ?k6Zc ?k7Zc ?k8Zc ?k9Zc ?k10Zc ?_; (case k1Zc => k_asm); (case k2Zc => k_asm); (case k3Zc => k_asm); (case k4Zc => k_mem); (case k5Zc => k_mem); (case k6Zc => k_mem); (case k7Zc => k_is); (case k8Zc => k_is); (case k9Zc => ks_is); (case k10Zc => k_is); intro qqZn hqZn FqZn NqZn l1Zn; (try k_lt l1Zn)) | ((with_reducible show wpAny _ _ (getMethod (Value.ref _) (PySem.Str.ofString "__len__") _) _ _ _); refine' Mine.accK_supLen ?k1Zc ?k2Zc ?k3Zc ?k4Zc ?k5Zc ?k6Zc ?k7Zc ?k8Zc ?k9Zc ?k10Zc ?_; (case k1Zc => k_asm); (case k2Zc => k_asm); (case k3Zc => k_asm); (case k4Zc => k_mem); (case k5Zc => k_mem); (case k6Zc => k_mem); (case k7Zc => k_is); (case k8Zc => k_is); (case k9Zc => ks_is); (case k10Zc => k_is); intro qqZn hqZn FqZn NqZn l1Zn; (try k_lt l1Zn)) | ((with_reducible show wpAny _ _ (getMethod (Value.ref _) (PySem.Str.ofString "__init__") _) _ _ _); refine' Mine.accK_supInit ?k1Zc ?k2Zc ?k3Zc ?k4Zc ?k5Zc ?k6Zc ?k7Zc ?k8Zc ?k9Zc ?k10Zc ?_; (case k1Zc => k_asm); (case k2Zc => k_asm); (case k3Zc => k_asm); (case k4Zc => k_mem); (case k5Zc => k_mem); (case k6Zc => k_mem); (case k7Zc => k_is); (case k8Zc => k_is); (case k9Zc => ks_is); (case k10Zc => k_is); intro qqZn hqZn FqZn NqZn l1Zn; (try k_lt l1Zn)))))
  k_with "callWith ref" => ((k_here; (with_reducible show wpAny _ _ (callWith _ (Value.ref _) [] (backTo _ (starEach [] _)) []) _ _ _); k_dflt (first | (refine' Mine.callLen ?k1Zc ?k2Zc ?k3Zc ?_; (case k1Zc => k_asm); (case k2Zc => k_mem); (case k3Zc => k_mem); k_whole) | (refine' Mine.callInit ?k0Zc ?k1Zc ?k2Zc ?k3Zc ?k4Zc ?_; (case k0Zc => k_asm); (case k1Zc => k_asm); (case k2Zc => k_mem); (case k3Zc => k_upd); (case k4Zc => first | size_fits | (rw [sizeLine_eq]; omega) | (rw [sizeLine_eq]; exact Nat.le_of_ble_eq_true rfl)); k_whole; intro hqZn FqZn NqZn; (try k_sweep)) | (refine' Mine.callPop ?k0Zc ?kXZc ?k1Zc ?k2Zc ?k3Zc ?k4Zc ?k5Zc ?k6Zc ?k7Zc ?k8Zc ?k9Zc ?k10Zc ?_; (case k0Zc => k_asm); (case kXZc => k_asm); (case k1Zc => k_asm); (case k2Zc => k_mem); (case k8Zc => first | assumption | rfl); (case k9Zc => k_upd); (case k3Zc => k_mem); (case k4Zc => k_is); (case k5Zc => k_is); (case k6Zc => rfl); (case k7Zc => k_is); (case k10Zc => rw [sizeLine_eq]; simp at *; omega); k_whole; intro hqZn FqZn NqZn; (try k_sweep)))))
  k_with "wpAt" => ((dsimp only; ks_step "execs cons"; refine ks_wpAt_execs_cons ?_))
  k_with "wpAt" => ((ks_step "eval Call"; k_dflt (refine ks_wpAt_MethodCall ?_)))
  k_with "mine os" => (first | rfl | assumption | (simp only [*]; done))
  k_with "wpAt" => ((ks_step "exec Expr"; k_dflt (refine ks_wpAt_Expr_any ?_)))
  k_with "mine upto" => (repeat' ((fail_if_success (with_reducible show wpAny _ _ (exec (Stmt.For _ _ _ _ _) _) _ _ _)); first | (k_unfold; (try dsimp only)) | (k_end; wrow_close) | walk1 | (dsimp only; walk1) | (leave1; try dsimp only)))
  trivial
theorem Mine.rstP1 : True := by w_top off; trivial
namespace Mine
theorem con_push {x dx : Addr} {its : List Value} {n : Nat} {t1 t2 : Tok} {u v : Value} {p : Program} {loose : List Str} {mean : ExcName → Option Value} {mg mb : Str → Option Value} {w : World} {dp un : Nat} {gd : Option (List Code)} {cn : Str} {cs : Scope} {ca : Addr} {ccd : Value} {cl : List (Str × Addr)} {outer : List Env} {A₀ : Around} {base h₀ : Heap} {L : Addr} {m : Str → Option Value} {s : Shared} {Q E : Value → Shared → Prop} {rest : List (Addr × Obj)}
  (B : Below A₀ base outer h₀) (F : Fr h₀ L s.heap m) (X : (hd.heap_1 w.params).In h₀) (N : News h₀ L s.heap ((x, accO dx its n) :: (dx, dictOf (accE w t1 t2) 1) :: rest)) (T : Top p loose mean mg mb h₀) (hk : cs.kind = .function) (hd' : dp + 1 < recursionLimit) (hu : un + 8 * 1 < cLine)
  (hr : ∀ p ∈ rest, p.1 ≠ x) (hdx : @Ne Nat dx x) (hsz : its.length ≤ 1000)
  (ret : ∀ s' t, Fr h₀ L s'.heap m → News h₀ L s'.heap ((t, tupO u v) :: (x, accO dx (its ++ [.ref t]) (n + 1)) :: (dx, dictOf (accE w t1 t2) 1) :: rest) → s'.gens = s.gens → s'.os = s.os → (@LT.lt Nat _ x t ∧ @LT.lt Nat _ dx t ∧ AllLt t rest) → Q .none s') :
  wpAny (model Challenge.rw_wo0053_01.row.prog w) (ktrTop dp un gd cn cs L ca ccd cl outer) (call (.ref 122) [.ref x, u, v]) Q E s := by
  revert X; k_fill; intro X
  refine wpAny_call ?_
  k_dflt (walk_at "mine enter")
  k_steps
  all_goals (exact ret _ _ (by k_asm) (by walk_at "mine news") rfl rfl (by assumption))
end Mine

theorem Mine.rstP2 : True := by w_top off; trivial
namespace Mine
theorem con_pop_from {x dx : Addr} {its : List Value} {n i : Nat} {t1 t2 t3 : Tok} {p : Program} {loose : List Str} {mean : ExcName → Option Value} {mg mb : Str → Option Value} {w : World} {dp un : Nat} {gd : Option (List Code)} {cn : Str} {cs : Scope} {ca : Addr} {ccd : Value} {cl : List (Str × Addr)} {outer : List Env} {A₀ : Around} {base h₀ : Heap} {L : Addr} {m : Str → Option Value} {s : Shared} {Q E : Value → Shared → Prop} {rest : List (Addr × Obj)}
  (B : Below A₀ base outer h₀) (F : Fr h₀ L s.heap m) (X : (hd.heap_1 w.params).In h₀) (N : News h₀ L s.heap ((x, accO dx its n) :: (dx, dictOf (accE w t1 t2) 1) :: rest)) (T : Top p loose mean mg mb h₀) (hk : cs.kind = .function) (hd' : dp + 1 < recursionLimit) (hu : un + 8 * 1 < cLine)
  (hr : ∀ p ∈ rest, p.1 ≠ x) (hdx : @Ne Nat dx x) (hsz : its.length ≤ 1000) (hi : i ≤ its.length)
  (ret : ∀ s' t n', Fr h₀ L s'.heap m → News h₀ L s'.heap ((t, listOf (its.drop i).toArray 0) :: (x, accO dx (its.take i) n') :: (dx, dictOf (accE w t1 t2) 1) :: rest) → s'.gens = s.gens → s'.os = s.os → (@LT.lt Nat _ x t ∧ @LT.lt Nat _ dx t ∧ AllLt t rest) → Q (.ref t) s') :
  wpAny (model Challenge.rw_wo0053_01.row.prog w) (ktrTop dp un gd cn cs L ca ccd cl outer) (call (.ref 130) [.ref x, .int (i : Int) t3]) Q E s := by
  revert X; k_fill; intro X
  refine wpAny_call ?_
  k_dflt (walk_at "mine enter")
  k_steps
  all_goals (exact ret _ _ _ (by k_asm) (by walk_at "mine news") rfl rfl (by assumption))
end Mine

theorem Mine.rstP3 : True := by w_top off; trivial
namespace Mine
theorem con_reset {x dx v : Addr} {its new : List Value} {n c : Nat} {t1 t2 : Tok} {p : Program} {loose : List Str} {mean : ExcName → Option Value} {mg mb : Str → Option Value} {w : World} {dp un : Nat} {gd : Option (List Code)} {cn : Str} {cs : Scope} {ca : Addr} {ccd : Value} {cl : List (Str × Addr)} {outer : List Env} {A₀ : Around} {base h₀ : Heap} {L : Addr} {m : Str → Option Value} {s : Shared} {Q E : Value → Shared → Prop} {rest : List (Addr × Obj)}
  (B : Below A₀ base outer h₀) (F : Fr h₀ L s.heap m) (X : (hd.heap_1 w.params).In h₀) (N : News h₀ L s.heap ((x, accO dx its n) :: (dx, dictOf (accE w t1 t2) 1) :: (v, listOf new.toArray c) :: rest)) (T : Top p loose mean mg mb h₀) (hk : cs.kind = .function) (hd' : dp + 1 < recursionLimit) (hu : un + 8 * 1 < cLine)
  (hr : ∀ p ∈ rest, p.1 ≠ x) (hr2 : ∀ p ∈ rest, p.1 ≠ dx) (hdx : @Ne Nat dx x) (hvx : @Ne Nat v x) (hvd : @Ne Nat v dx) (hsz : its.length + new.length ≤ 1000)
  (ret : ∀ s' t1 t2 n', Fr h₀ L s'.heap m → News h₀ L s'.heap ((x, accO dx new n') :: (dx, dictOf (accE w t1 t2) 1) :: (v, listOf new.toArray c) :: rest) → s'.gens = s.gens → s'.os = s.os → Q .none s') :
  wpAny (model Challenge.rw_wo0053_01.row.prog w) (ktrTop dp un gd cn cs L ca ccd cl outer) (call (.ref 160) [.ref x, .ref v]) Q E s := by
  revert X; k_fill; intro X
  refine wpAny_call ?_
  k_dflt (walk_at "mine enter")
  k_steps
  all_goals (exact ret _ _ _ _ (by k_asm) (by walk_at "mine news") rfl rfl)
theorem con_reset0 {x dx : Addr} {its : List Value} {n : Nat} {t1 t2 : Tok} {p : Program} {loose : List Str} {mean : ExcName → Option Value} {mg mb : Str → Option Value} {w : World} {dp un : Nat} {gd : Option (List Code)} {cn : Str} {cs : Scope} {ca : Addr} {ccd : Value} {cl : List (Str × Addr)} {outer : List Env} {A₀ : Around} {base h₀ : Heap} {L : Addr} {m : Str → Option Value} {s : Shared} {Q E : Value → Shared → Prop} {rest : List (Addr × Obj)}
  (B : Below A₀ base outer h₀) (F : Fr h₀ L s.heap m) (X : (hd.heap_1 w.params).In h₀) (N : News h₀ L s.heap ((x, accO dx its n) :: (dx, dictOf (accE w t1 t2) 1) :: rest)) (T : Top p loose mean mg mb h₀) (hk : cs.kind = .function) (hd' : dp + 1 < recursionLimit) (hu : un + 8 * 1 < cLine)
  (hr : ∀ p ∈ rest, p.1 ≠ x) (hr2 : ∀ p ∈ rest, p.1 ≠ dx) (hdx : @Ne Nat dx x) (hsz : its.length ≤ 1000)
  (ret : ∀ s' t1 t2 n', Fr h₀ L s'.heap m → News h₀ L s'.heap ((x, accO dx [] n') :: (dx, dictOf (accE w t1 t2) 1) :: rest) → s'.gens = s.gens → s'.os = s.os → Q .none s') :
  wpAny (model Challenge.rw_wo0053_01.row.prog w) (ktrTop dp un gd cn cs L ca ccd cl outer) (call (.ref 160) [.ref x]) Q E s := by
  revert X; k_fill; intro X
  refine wpAny_call ?_
  k_dflt (walk_at "mine enter")
  k_steps
  all_goals (exact ret _ _ _ _ (by k_asm) (by walk_at "mine news") rfl rfl)
end Mine

theorem Mine.rstP4 : True := by w_top off; trivial
namespace Mine
theorem con_count {x dx : Addr} {its : List Value} {n : Nat} {t1 t2 : Tok} {p : Program} {loose : List Str} {mean : ExcName → Option Value} {mg mb : Str → Option Value} {w : World} {dp un : Nat} {gd : Option (List Code)} {cn : Str} {cs : Scope} {ca : Addr} {ccd : Value} {cl : List (Str × Addr)} {outer : List Env} {A₀ : Around} {base h₀ : Heap} {L : Addr} {m : Str → Option Value} {s : Shared} {Q E : Value → Shared → Prop} {rest : List (Addr × Obj)}
  (B : Below A₀ base outer h₀) (F : Fr h₀ L s.heap m) (X : (hd.heap_1 w.params).In h₀) (N : News h₀ L s.heap ((x, accO dx its n) :: (dx, dictOf (accE w t1 t2) 1) :: rest)) (T : Top p loose mean mg mb h₀) (hk : cs.kind = .function) (hd' : dp + 1 < recursionLimit) (hu : un + 8 * 1 < cLine)
  (ret : ∀ s' t, Fr h₀ L s'.heap m → News h₀ L s'.heap ((x, accO dx its n) :: (dx, dictOf (accE w t1 t2) 1) :: rest) → s'.gens = s.gens → s'.os = s.os → Q (.int (its.length : Nat) t) s') :
  wpAny (model Challenge.rw_wo0053_01.row.prog w) (ktrTop dp un gd cn cs L ca ccd cl outer) (call (.ref 175) [.ref x]) Q E s := by
  revert X; k_fill; intro X
  refine wpAny_call ?_
  k_dflt (walk_at "mine senter")
  k_steps
  all_goals (exact ret _ _ (by k_asm) (by walk_at "mine news") rfl rfl)
theorem use_count {x dx : Addr} {its : List Value} {n : Nat} {t1 t2 : Tok} {news : List (Addr × Obj)} {p : Program} {loose : List Str} {mean : ExcName → Option Value} {mg mb : Str → Option Value} {w : World} {dp un : Nat} {gd : Option (List Code)} {cn : Str} {cs : Scope} {ca : Addr} {ccd : Value} {cl : List (Str × Addr)} {outer : List Env} {A₀ : Around} {base h₀ : Heap} {L : Addr} {m : Str → Option Value} {s : Shared} {Q E : Value → Shared → Prop}
  (B : Below A₀ base outer h₀) (F : Fr h₀ L s.heap m) (X : (hd.heap_1 w.params).In h₀) (N : News h₀ L s.heap (news)) (T : Top p loose mean mg mb h₀) (hk : cs.kind = .function) (hd' : dp + 1 < recursionLimit) (hu : un + 8 * 1 < cLine) (h1 : (x, accO dx its n) ∈ news) (h2 : (dx, dictOf (accE w t1 t2) 1) ∈ news)
  (ret : ∀ s' t, Fr h₀ L s'.heap m → News h₀ L s'.heap news → s'.gens = s.gens → s'.os = s.os → Q (.int (its.length : Nat) t) s') :
  wpAny (model Challenge.rw_wo0053_01.row.prog w) (ktrTop dp un gd cn cs L ca ccd cl outer) (call (.ref 175) [.ref x]) Q E s :=
  con_count (rest := news) B F X (fun p hp => by rcases List.mem_cons.mp hp with rfl | hp; exact N _ h1; rcases List.mem_cons.mp hp with rfl | hp; exact N _ h2; exact N _ hp) T hk hd' hu
    (fun s' t F' N' => ret s' t F' fun p hp => N' p (.tail _ (.tail _ hp)))
end Mine

theorem Mine.rstP5 : True := by w_top off; trivial
theorem Mine.regF2 : True := by
  k_with "call ref" => ((k_here; k_dflt (refine' Mine.use_count ?k1Zc ?k2Zc ?k3Zc ?k4Zc ?k5Zc ?k6Zc ?k7Zc ?k8Zc ?k9Zc ?k10Zc ?_; (case k1Zc => k_asm); (case k2Zc => k_asm); (case k3Zc => k_asm); (case k4Zc => k_asm); (case k5Zc => k_asm); (case k6Zc => first | exact rfl | assumption); (case k7Zc => ktr_room); (case k8Zc => ktr_units); (case k9Zc => k_mem); (case k10Zc => k_mem); k_whole; intro sqZn tqZn FqZn NqZn gqZn oqZn)))
  trivial
namespace Mine
theorem con_pop {x dx : Addr} {its pi : List Value} {y : Value} {n : Nat} {t1 t2 : Tok} {p : Program} {loose : List Str} {mean : ExcName → Option Value} {mg mb : Str → Option Value} {w : World} {dp un : Nat} {gd : Option (List Code)} {cn : Str} {cs : Scope} {ca : Addr} {ccd : Value} {cl : List (Str × Addr)} {outer : List Env} {A₀ : Around} {base h₀ : Heap} {L : Addr} {m : Str → Option Value} {s : Shared} {Q E : Value → Shared → Prop} {rest : List (Addr × Obj)}
  (B : Below A₀ base outer h₀) (F : Fr h₀ L s.heap m) (X : (hd.heap_1 w.params).In h₀) (N : News h₀ L s.heap ((x, accO dx its n) :: (dx, dictOf (accE w t1 t2) 1) :: rest)) (T : Top p loose mean mg mb h₀) (hk : cs.kind = .function) (hd' : dp + 2 < recursionLimit) (hu : un + 8 * 2 < cLine)
  (hr : ∀ p ∈ rest, p.1 ≠ x) (hdx : @Ne Nat dx x) (hsz : its.length ≤ 1000) (hi : its = pi ++ [y])
  (ret : ∀ s', Fr h₀ L s'.heap m → News h₀ L s'.heap ((x, accO dx pi (n + 1)) :: (dx, dictOf (accE w t1 t2) 1) :: rest) → s'.gens = s.gens → s'.os = s.os → Q y s') :
  wpAny (model Challenge.rw_wo0053_01.row.prog w) (ktrTop dp un gd cn cs L ca ccd cl outer) (call (.ref 138) [.ref x]) Q E s := by
  revert X; k_fill; intro X
  refine wpAny_call ?_
  k_dflt (walk_at "mine senter")
  k_steps
  · exfalso; subst hi; simp at *; omega
  · exact ret _ (by k_asm) (by walk_at "mine news") (by assumption) (by assumption)
end Mine


namespace Mine
theorem use_push {x dx : Addr} {its : List Value} {n : Nat} {t1 t2 : Tok} {u v : Value} {news : List (Addr × Obj)} {nw : Obj → List (Addr × Obj)} {p : Program} {loose : List Str} {mean : ExcName → Option Value} {mg mb : Str → Option Value} {w : World} {dp un : Nat} {gd : Option (List Code)} {cn : Str} {cs : Scope} {ca : Addr} {ccd : Value} {cl : List (Str × Addr)} {outer : List Env} {A₀ : Around} {base h₀ : Heap} {L : Addr} {m : Str → Option Value} {s : Shared} {Q E : Value → Shared → Prop}
  (B : Below A₀ base outer h₀) (F : Fr h₀ L s.heap m) (X : (hd.heap_1 w.params).In h₀) (N : News h₀ L s.heap (news)) (T : Top p loose mean mg mb h₀) (hk : cs.kind = .function) (hd' : dp + 1 < recursionLimit) (hu : un + 8 * 1 < cLine) (h2 : (dx, dictOf (accE w t1 t2) 1) ∈ news) (hdx : @Ne Nat dx x) (hsz : its.length ≤ 1000) (U : ∀ o', Upd x (accO dx its n) o' news (nw o'))
  (ret : ∀ s' t, Fr h₀ L s'.heap m → News h₀ L s'.heap ((t, tupO u v) :: nw (accO dx (its ++ [.ref t]) (n + 1))) → s'.gens = s.gens → s'.os = s.os → (∀ p ∈ news, @LT.lt Nat _ p.1 t) → Q .none s') :
  wpAny (model Challenge.rw_wo0053_01.row.prog w) (ktrTop dp un gd cn cs L ca ccd cl outer) (call (.ref 122) [.ref x, u, v]) Q E s := by
  refine con_push (rest := but2 x dx news) B F X (own2 N (upd_mem (U (accO dx its n))) h2) T hk hd' hu but2_x hdx hsz fun s' t F' N' g o lt => ret s' t F' (fun p hp => ?_) g o (but2_lt lt)
  rcases List.mem_cons.mp hp with rfl | hp
  · exact N' _ (.head _)
  · exact back1 (own := [(t, tupO u v), (x, accO dx (its ++ [.ref t]) (n + 1)), (dx, dictOf (accE w t1 t2) 1)]) N h2 (U _) N' (.tail _ (.head _)) (.tail _ (.tail _ (.head _))) p hp
theorem use_pop_from {x dx : Addr} {its : List Value} {n i : Nat} {t1 t2 t3 : Tok} {news : List (Addr × Obj)} {nw : Obj → List (Addr × Obj)} {p : Program} {loose : List Str} {mean : ExcName → Option Value} {mg mb : Str → Option Value} {w : World} {dp un : Nat} {gd : Option (List Code)} {cn : Str} {cs : Scope} {ca : Addr} {ccd : Value} {cl : List (Str × Addr)} {outer : List Env} {A₀ : Around} {base h₀ : Heap} {L : Addr} {m : Str → Option Value} {s : Shared} {Q E : Value → Shared → Prop}
  (B : Below A₀ base outer h₀) (F : Fr h₀ L s.heap m) (X : (hd.heap_1 w.params).In h₀) (N : News h₀ L s.heap (news)) (T : Top p loose mean mg mb h₀) (hk : cs.kind = .function) (hd' : dp + 1 < recursionLimit) (hu : un + 8 * 1 < cLine) (h2 : (dx, dictOf (accE w t1 t2) 1) ∈ news) (hdx : @Ne Nat dx x) (hsz : its.length ≤ 1000) (hi : i ≤ its.length) (U : ∀ o', Upd x (accO dx its n) o' news (nw o'))
  (ret : ∀ s' t n', Fr h₀ L s'.heap m → News h₀ L s'.heap ((t, listOf (its.drop i).toArray 0) :: nw (accO dx (its.take i) n')) → s'.gens = s.gens → s'.os = s.os → (∀ p ∈ news, @LT.lt Nat _ p.1 t) → Q (.ref t) s') :
  wpAny (model Challenge.rw_wo0053_01.row.prog w) (ktrTop dp un gd cn cs L ca ccd cl outer) (call (.ref 130) [.ref x, .int (i : Int) t3]) Q E s := by
  refine con_pop_from (rest := but2 x dx news) B F X (own2 N (upd_mem (U (accO dx its n))) h2) T hk hd' hu but2_x hdx hsz hi fun s' t n' F' N' g o lt => ret s' t n' F' (fun p hp => ?_) g o (but2_lt lt)
  rcases List.mem_cons.mp hp with rfl | hp
  · exact N' _ (.head _)
  · exact back1 (own := [(t, listOf (its.drop i).toArray 0), (x, accO dx (its.take i) n'), (dx, dictOf (accE w t1 t2) 1)]) N h2 (U _) N' (.tail _ (.head _)) (.tail _ (.tail _ (.head _))) p hp
theorem use_pop {x dx : Addr} {its pi : List Value} {y : Value} {n : Nat} {t1 t2 : Tok} {news : List (Addr × Obj)} {nw : Obj → List (Addr × Obj)} {p : Program} {loose : List Str} {mean : ExcName → Option Value} {mg mb : Str → Option Value} {w : World} {dp un : Nat} {gd : Option (List Code)} {cn : Str} {cs : Scope} {ca : Addr} {ccd : Value} {cl : List (Str × Addr)} {outer : List Env} {A₀ : Around} {base h₀ : Heap} {L : Addr} {m : Str → Option Value} {s : Shared} {Q E : Value → Shared → Prop}
  (B : Below A₀ base outer h₀) (F : Fr h₀ L s.heap m) (X : (hd.heap_1 w.params).In h₀) (N : News h₀ L s.heap (news)) (T : Top p loose mean mg mb h₀) (hk : cs.kind = .function) (hd' : dp + 2 < recursionLimit) (hu : un + 8 * 2 < cLine) (h2 : (dx, dictOf (accE w t1 t2) 1) ∈ news) (hdx : @Ne Nat dx x) (hsz : its.length ≤ 1000) (hi : its = pi ++ [y]) (U : ∀ o', Upd x (accO dx its n) o' news (nw o'))
  (ret : ∀ s', Fr h₀ L s'.heap m → News h₀ L s'.heap (nw (accO dx pi (n + 1))) → s'.gens = s.gens → s'.os = s.os → Q y s') :
  wpAny (model Challenge.rw_wo0053_01.row.prog w) (ktrTop dp un gd cn cs L ca ccd cl outer) (call (.ref 138) [.ref x]) Q E s := by
  refine con_pop (rest := but2 x dx news) B F X (own2 N (upd_mem (U (accO dx its n))) h2) T hk hd' hu but2_x hdx hsz hi fun s' F' N' g o => ret s' F' ?_ g o
  exact back1 (own := [(x, accO dx pi (n + 1)), (dx, dictOf (accE w t1 t2) 1)]) N h2 (U _) N' (.head _) (.tail _ (.head _))
theorem use_reset0 {x dx : Addr} {its : List Value} {n : Nat} {t1 t2 : Tok} {news : List (Addr × Obj)} {nw : Obj → List (Addr × Obj)} {nw2 : Obj → Obj → List (Addr × Obj)} {p : Program} {loose : List Str} {mean : ExcName → Option Value} {mg mb : Str → Option Value} {w : World} {dp un : Nat} {gd : Option (List Code)} {cn : Str} {cs : Scope} {ca : Addr} {ccd : Value} {cl : List (Str × Addr)} {outer : List Env} {A₀ : Around} {base h₀ : Heap} {L : Addr} {m : Str → Option Value} {s : Shared} {Q E : Value → Shared → Prop}
  (B : Below A₀ base outer h₀) (F : Fr h₀ L s.heap m) (X : (hd.heap_1 w.params).In h₀) (N : News h₀ L s.heap (news)) (T : Top p loose mean mg mb h₀) (hk : cs.kind = .function) (hd' : dp + 1 < recursionLimit) (hu : un + 8 * 1 < cLine) (hdx : @Ne Nat dx x) (hsz : its.length ≤ 1000) (h2 : (dx, dictOf (accE w t1 t2) 1) ∈ news) (U : ∀ o', Upd x (accO dx its n) o' news (nw o')) (U2 : ∀ o1 o', Upd dx (dictOf (accE w t1 t2) 1) o' (nw o1) (nw2 o1 o'))
  (ret : ∀ s' t1 t2 n', Fr h₀ L s'.heap m → News h₀ L s'.heap (nw2 (accO dx [] n') (dictOf (accE w t1 t2) 1)) → s'.gens = s.gens → s'.os = s.os → Q .none s') :
  wpAny (model Challenge.rw_wo0053_01.row.prog w) (ktrTop dp un gd cn cs L ca ccd cl outer) (call (.ref 160) [.ref x]) Q E s := by
  refine con_reset0 (rest := but2 x dx news) B F X (own2 N (upd_mem (U (accO dx its n))) h2) T hk hd' hu but2_x but2_dx hdx hsz fun s' t1 t2 n' F' N' g o => ret s' t1 t2 n' F' ?_ g o
  exact back2 (own := [(x, accO dx [] n'), (dx, dictOf (accE w t1 t2) 1)]) (U _) (U2 _ _) N' (.head _) (.tail _ (.head _))
theorem use_reset {x dx v : Addr} {its new : List Value} {n c : Nat} {t1 t2 : Tok} {news : List (Addr × Obj)} {nw : Obj → List (Addr × Obj)} {nw2 : Obj → Obj → List (Addr × Obj)} {p : Program} {loose : List Str} {mean : ExcName → Option Value} {mg mb : Str → Option Value} {w : World} {dp un : Nat} {gd : Option (List Code)} {cn : Str} {cs : Scope} {ca : Addr} {ccd : Value} {cl : List (Str × Addr)} {outer : List Env} {A₀ : Around} {base h₀ : Heap} {L : Addr} {m : Str → Option Value} {s : Shared} {Q E : Value → Shared → Prop}
  (B : Below A₀ base outer h₀) (F : Fr h₀ L s.heap m) (X : (hd.heap_1 w.params).In h₀) (N : News h₀ L s.heap (news)) (T : Top p loose mean mg mb h₀) (hk : cs.kind = .function) (hd' : dp + 1 < recursionLimit) (hu : un + 8 * 1 < cLine) (hdx : @Ne Nat dx x) (hvx : @Ne Nat v x) (hvd : @Ne Nat v dx) (hsz : its.length + new.length ≤ 1000) (h2 : (dx, dictOf (accE w t1 t2) 1) ∈ news) (h3 : (v, listOf new.toArray c) ∈ news) (U : ∀ o', Upd x (accO dx its n) o' news (nw o')) (U2 : ∀ o1 o', Upd dx (dictOf (accE w t1 t2) 1) o' (nw o1) (nw2 o1 o'))
  (ret : ∀ s' t1 t2 n', Fr h₀ L s'.heap m → News h₀ L s'.heap (nw2 (accO dx new n') (dictOf (accE w t1 t2) 1)) → s'.gens = s.gens → s'.os = s.os → Q .none s') :
  wpAny (model Challenge.rw_wo0053_01.row.prog w) (ktrTop dp un gd cn cs L ca ccd cl outer) (call (.ref 160) [.ref x, .ref v]) Q E s := by
  have N0 := own2 N (upd_mem (U (accO dx its n))) h2
  refine con_reset (rest := but2 x dx news) (t1 := t1) (t2 := t2) (n := n) (c := c) B F X (fun p hp => ?_) T hk hd' hu but2_x but2_dx hdx hvx hvd hsz fun s' t1 t2 n' F' N' g o => ret s' t1 t2 n' F' ?_ g o
  · rcases List.mem_cons.mp hp with rfl | hp
    · exact N0 _ (.head _)
    rcases List.mem_cons.mp hp with rfl | hp
    · exact N0 _ (.tail _ (.head _))
    rcases List.mem_cons.mp hp with rfl | hp
    · exact N _ h3
    exact N0 _ (.tail _ (.tail _ hp))
  · exact back2 (own := [(x, accO dx new n'), (dx, dictOf (accE w t1 t2) 1), (v, listOf new.toArray c)]) (U _) (U2 _ _) N' (.head _) (.tail _ (.head _))
end Mine

theorem Mine.rstP7 : True := by w_top off; trivial
namespace Mine
theorem tab_len {w : World} {h : Heap} (X : (hd.heap_1 w.params).In h) : TabFacts (hd.heap_1 w.params) 144 140 := by
  revert X
  have : Challenge.rw_wo0053_01.row.prog = Challenge.rw_wo0053_01.row.prog → (hd.heap_1 w.params).In h → TabFacts (hd.heap_1 w.params) 144 140 := by
    k_fill
    intro _ _
    refine' TabFacts.of ?e1 ?e2 ?e4 ?e6 ?e7 ?e8 ?e9 ?e10
    case e1 => k_is
    case e2 => rfl
    case e4 => rfl
    case e6 => rfl
    case e7 => rfl
    case e8 => rfl
    case e9 => rfl
    case e10 => decide
  exact this rfl
theorem tab_str {w : World} {h : Heap} (X : (hd.heap_1 w.params).In h) : TabFacts (hd.heap_1 w.params) 151 147 := by
  revert X
  have : Challenge.rw_wo0053_01.row.prog = Challenge.rw_wo0053_01.row.prog → (hd.heap_1 w.params).In h → TabFacts (hd.heap_1 w.params) 151 147 := by
    k_fill
    intro _ _
    refine' TabFacts.of ?e1 ?e2 ?e4 ?e6 ?e7 ?e8 ?e9 ?e10
    case e1 => k_is
    case e2 => rfl
    case e4 => rfl
    case e6 => rfl
    case e7 => rfl
    case e8 => rfl
    case e9 => rfl
    case e10 => decide
  exact this rfl
end Mine
theorem Mine.regF3 : True := by
  k_with "mine parts" => (repeat' (first | assumption | apply Mine.Parts.tail))
  k_with "eval GeneratorExp" => ((k_here; k_dflt (refine' Mine.genLenK ?hhZc ?hroomZc ?kFZc ?kXZc ?kNZc ?kTZc ?kGZc ?hselfZc ?h1Zc ?h2Zc ?UZc ?htrZc ?hTZc ?hwsZc ?hfZc ?hsckZc ?hlZc ?hmZc ?hiZc ?hglenZc ?hcoZc ?hclosZc ?hcellZc ?hzZc ?hxaZc ?hxbZc ?hxlZc ?habZc ?hkindZc ?hdaZc ?hdbZc ?_; (case hhZc => exact rfl); (case hroomZc => ktr_room); (case kFZc => k_asm); (case kXZc => k_asm); (case kNZc => k_asm); (case kTZc => k_asm); (case kGZc => assumption); (case hselfZc => exact rfl); (case h1Zc => k_mem); (case h2Zc => k_mem); (case UZc => intro oqZn; k_upd); (case htrZc => assumption); (case hTZc => first | exact Mine.tab_len (by k_asm) | exact Mine.tab_str (by k_asm)); (case hwsZc => walk_at "mine parts"); (case hfZc => assumption); (case hsckZc => exact rfl); (case hlZc => exact rfl); (case hmZc => k_is); (case hiZc => k_is); (case hglenZc => k_is); (case hcoZc => exact rfl); (case hclosZc => exact rfl); (case hcellZc => decide); (case hzZc => exact rfl); (case hxaZc => exact rfl); (case hxbZc => exact rfl); (case hxlZc => exact rfl); (case habZc => decide); (case hkindZc => exact rfl); (case hdaZc => decide); (case hdbZc => decide); k_whole); intro aqZn sqZn moreqZn FqZn NqZn GqZn oqZn trqZn bnqZn gxqZn))
  k_with "call builtin:sum" => ((k_here; (with_reducible rename Mine.GenX _ _ _ _ _ _ _ _ => gXqZn); k_dflt (refine' Mine.genSumK ?kFZc ?kNZc ?kGZc gXqZn ?kbZc ?kfZc ?ktZc ?_; (case kFZc => k_asm); (case kNZc => k_asm); (case kGZc => assumption); (case kbZc => assumption); (case kfZc => assumption); (case ktZc => omega); k_whole); intro sqZn tqZn FqZn NqZn GqZn oqZn))
  trivial
namespace Mine
theorem con_len {x dx : Addr} {ws : List (Addr × Str)} {n : Nat} {t1 t2 : Tok} {ps : Array Value} {p : Program} {loose : List Str} {mean : ExcName → Option Value} {mg mb : Str → Option Value} {w : World} {dp un : Nat} {gd : Option (List Code)} {cn : Str} {cs : Scope} {ca : Addr} {ccd : Value} {cl : List (Str × Addr)} {outer : List Env} {A₀ : Around} {base h₀ : Heap} {L : Addr} {m : Str → Option Value} {s : Shared} {Q E : Value → Shared → Prop} {rest : List (Addr × Obj)}
  (B : Below A₀ base outer h₀) (F : Fr h₀ L s.heap m) (X : (hd.heap_1 w.params).In h₀) (N : News h₀ L s.heap ((x, accO dx (ws.map fun a => .ref a.1) n) :: (dx, dictOf (accE w t1 t2) 1) :: (140, tabO ps) :: rest)) (T : Top p loose mean mg mb h₀) (hk : cs.kind = .function) (hd' : dp + 1 < recursionLimit) (hu : un + 8 * 1 < cLine)
  (hx : @Ne Nat x 140) (hdx : @Ne Nat dx 140) (hr : ∀ p ∈ rest, p.1 ≠ 140) (hws : Parts ws rest) (hf : Fine ws) (htr : TriplesOk ps.toList) (G : AllBare s.gens)
  (ret : ∀ s' t more, Fr h₀ L s'.heap m → News h₀ L s'.heap ((x, accO dx (ws.map fun a => .ref a.1) n) :: (dx, dictOf (accE w t1 t2) 1) :: (140, tabO (ps ++ more)) :: rest) → TriplesOk (ps ++ more).toList → AllBare s'.gens → s'.os = s.os → Q (.int (partsLen ws) t) s') :
  wpAny (model Challenge.rw_wo0053_01.row.prog w) (ktrTop dp un gd cn cs L ca ccd cl outer) (call (.ref 145) [.ref x]) Q E s := by
  revert X; k_fill; intro X
  refine wpAny_call ?_
  k_dflt (walk_at "mine enter")
  k_steps
  all_goals (exact ret _ _ _ (by k_asm) (by walk_at "mine news") (by assumption) (by assumption) (by walk_at "mine os"))
end Mine


theorem Mine.regF4 : True := by
  k_with_none
  k_with "own kne" => ((refine neN ?_; (try dsimp only); walk_at "mine apart"))
  k_with "own ktrroom" => (((try simp only [depth_under_make, depth_under_kw, depth_in1, depth_deeper, depth_caller]); (try dsimp only [ktrTop]); walk_at "mine near"))
  k_with "own ktrunits" => (((try simp only [units_in1, units_deeper, Around.mark_units, units_caller]); (try dsimp only [ktrTop]); walk_at "mine near"))
  k_with "mine near" => (((try simp only [Nat.add_assoc]); first | exact Mine.roomOf ‹_› (by decide) | exact Mine.roomOf0 ‹_› | decide))
  k_with "mine apart" => (first | assumption | exact Ne.symm ‹_› | exact Nat.ne_of_lt ‹_› | exact Nat.ne_of_gt ‹_› | exact Nat.ne_of_lt (Mine.A0 ‹_›) | exact Nat.ne_of_gt (Mine.A0 ‹_›) | exact Mine.A0 ‹_› | exact Ne.symm (Mine.A0 ‹_›) | exact Nat.ne_of_lt (Mine.A1 ‹_›) | exact Nat.ne_of_gt (Mine.A1 ‹_›) | exact Mine.A1 ‹_› | exact Ne.symm (Mine.A1 ‹_›) | exact Nat.ne_of_lt (Mine.A2 ‹_›) | exact Nat.ne_of_gt (Mine.A2 ‹_›) | exact Mine.A2 ‹_› | exact Ne.symm (Mine.A2 ‹_›) | exact Nat.ne_of_lt (Mine.A3 ‹_›) | exact Nat.ne_of_gt (Mine.A3 ‹_›) | exact Mine.A3 ‹_› | exact Ne.symm (Mine.A3 ‹_›) | exact Nat.ne_of_lt (Mine.A4 ‹_›) | exact Nat.ne_of_gt (Mine.A4 ‹_›) | exact Mine.A4 ‹_› | exact Ne.symm (Mine.A4 ‹_›) | exact Nat.ne_of_lt (Mine.A5 ‹_›) | exact Nat.ne_of_gt (Mine.A5 ‹_›) | exact Mine.A5 ‹_› | exact Ne.symm (Mine.A5 ‹_›) | exact Nat.ne_of_lt (Mine.A6 ‹_›) | exact Nat.ne_of_gt (Mine.A6 ‹_›) | exact Mine.A6 ‹_› | exact Ne.symm (Mine.A6 ‹_›) | exact Nat.ne_of_lt (Mine.A7 ‹_›) | exact Nat.ne_of_gt (Mine.A7 ‹_›) | exact Mine.A7 ‹_› | exact Ne.symm (Mine.A7 ‹_›) | exact Nat.ne_of_lt (Mine.A8 ‹_›) | exact Nat.ne_of_gt (Mine.A8 ‹_›) | exact Mine.A8 ‹_› | exact Ne.symm (Mine.A8 ‹_›) | exact Nat.ne_of_lt (Mine.A9 ‹_›) | exact Nat.ne_of_gt (Mine.A9 ‹_›) | exact Mine.A9 ‹_› | exact Ne.symm (Mine.A9 ‹_›) | exact Nat.ne_of_lt (Mine.A10 ‹_›) | exact Nat.ne_of_gt (Mine.A10 ‹_›) | exact Mine.A10 ‹_› | exact Ne.symm (Mine.A10 ‹_›) | decide | omega)
  k_with "getMethod ref" => ((k_here; k_dflt (refine' Mine.accK_method ?k1Zc ?k2Zc ?k3Zc ?k4Zc ?k5Zc ?k6Zc ?k7Zc ?k8Zc ?k9Zc ?k10Zc ?k11Zc ?_; (case k1Zc => k_asm); (case k2Zc => k_asm); (case k3Zc => k_asm); (case k4Zc => k_mem); (case k5Zc => k_mem); (case k6Zc => k_is); (case k7Zc => k_is); (case k8Zc => k_is); (case k9Zc => k_is); (case k10Zc => decide); (case k11Zc => k_get); k_whole)))
  k_with "call builtin:list.append" => ((k_here; (with_reducible show wpAny _ _ (call (Value.builtin _) [Value.ref _, _]) _ _ _); k_dflt (refine' Mine.accK_append ?k1Zc ?k2Zc ?k3Zc ?k4Zc ?k5Zc ?k6Zc ?_ ?zZc; (case k1Zc => k_asm); (case k2Zc => k_asm); (case k3Zc => k_asm); (case k6Zc => k_upd); (case k4Zc => k_mem); (case k5Zc => k_is); (case zZc => first | size_fits | (rw [sizeLine_eq]; omega)); k_whole); intro hqZn FqZn NqZn; (try k_sweep)))
  k_with "getAttr ref" => ((k_here; k_dflt (refine' Mine.accK_get ?k1Zc ?k2Zc ?k3Zc ?k4Zc ?k5Zc ?k6Zc ?k7Zc ?k8Zc ?k9Zc ?k10Zc ?k11Zc ?k12Zc ?k13Zc ?_; (case k1Zc => k_asm); (case k2Zc => k_asm); (case k3Zc => k_asm); (case k4Zc => k_mem); (case k5Zc => k_mem); (case k6Zc => k_is); (case k7Zc => k_is); (case k8Zc => k_is); (case k9Zc => k_is); (case k10Zc => k_is); (case k11Zc => k_is); (case k12Zc => k_get); (case k13Zc => k_handed); k_whole)))
  k_with "setAttr ref" => ((k_here; k_dflt (refine' Mine.accK_set ?k1Zc ?k2Zc ?k3Zc ?k4Zc ?k5Zc ?k6Zc ?k7Zc ?k8Zc ?k9Zc ?k10Zc ?k11Zc ?k12Zc ?k13Zc ?k14Zc ?_; (case k1Zc => k_asm); (case k2Zc => k_asm); (case k3Zc => k_asm); (case k4Zc => k_mem); (case k5Zc => k_mem); (case k6Zc => k_is); (case k7Zc => k_is); (case k8Zc => rfl); (case k9Zc => rfl); (case k10Zc => k_is); (case k11Zc => k_get); (case k12Zc => k_put); (case k13Zc => k_upd); (case k14Zc => exact Nat.le_of_ble_eq_true rfl); k_whole); intro hqZn FqZn NqZn; (try k_sweep)))
  k_with "call builtin:len" => ((k_here; (with_reducible show wpAny _ _ (call (Value.builtin "len") [Value.ref _]) _ _ _); k_dflt (refine' Mine.accK_len ?k1Zc ?k2Zc ?k3Zc ?k4Zc ?k5Zc ?k6Zc ?k7Zc ?_; (case k1Zc => k_asm); (case k2Zc => k_asm); (case k3Zc => k_asm); (case k4Zc => k_mem); (case k5Zc => k_mem); (case k6Zc => k_is); (case k7Zc => k_is); k_whole)))
  k_with "subscriptTail" => ((k_here; (with_reducible show wpAny _ _ (subscriptTail _ _ (Value.ref _) (Value.ref _)) _ _ _); k_dflt (refine' Mine.accK_slice ?k1Zc ?k2Zc ?k3Zc ?k4Zc ?k5Zc ?k6Zc ?k7Zc ?k8Zc ?k9Zc ?k10Zc ?k11Zc ?zZc ?_ ?k12Zc; (case k1Zc => k_asm); (case k2Zc => k_asm); (case k3Zc => k_asm); (case k4Zc => k_mem); (case k5Zc => k_mem); (case k6Zc => k_is); (case k7Zc => k_is); (case k8Zc => k_is); (case k9Zc => first | exact .none | exact .int _ _); (case k10Zc => first | exact .none | exact .int _ _); (case k11Zc => exact Mine.accPick _ _); (case zZc => first | size_fits | (rw [sizeLine_eq]; omega)); (case k12Zc => intro slZn; with_unfolding_all rfl); k_whole); intro lqZn hqZn FqZn NqZn l1Zn; (try k_lt l1Zn); (try k_sweep)))
  k_with "setItem ref" => ((k_here; (with_reducible show wpAny _ _ (setItem (Value.ref _) (Value.ref _) (Value.ref _)) _ _ _); k_dflt (refine' Mine.accK_setSlice ?k1Zc ?k2Zc ?k3Zc ?k4Zc ?k5Zc ?k6Zc ?k7Zc ?k8Zc ?k10Zc ?k11Zc ?k12Zc ?k13Zc ?k14Zc ?zZc ?_; (case k1Zc => k_asm); (case k2Zc => k_asm); (case k3Zc => k_asm); (case k4Zc => k_mem); (case k5Zc => k_mem); (case k6Zc => k_is); (case k7Zc => k_is); (case k8Zc => k_is); (case k10Zc => k_mem); (case k11Zc => first | exact .none | exact .int _ _); (case k12Zc => first | exact .none | exact .int _ _); (case k13Zc => first | exact Mine.accB_all _ _ | exact Mine.accB_del _ _ (by assumption)); (case k14Zc => k_upd); (case zZc => first | size_fits | (simp only [List.length_nil, List.length_cons]; rw [sizeLine_eq]; omega)); k_whole); intro hqZn FqZn NqZn; (try k_sweep)))
  k_with "subscriptTail" => ((k_here; (with_reducible show wpAny _ _ (subscriptTail _ _ (Value.ref _) (Value.int _ _)) _ _ _); k_dflt (refine' Mine.accK_item ?k1Zc ?k2Zc ?k3Zc ?k4Zc ?k5Zc ?k6Zc ?k7Zc ?k8Zc ?k9Zc ?k10Zc ?k11Zc ?_ ?k12Zc; (case k1Zc => k_asm); (case k2Zc => k_asm); (case k3Zc => k_asm); (case k4Zc => k_mem); (case k5Zc => k_mem); (case k6Zc => k_is); (case k7Zc => k_is); (case k8Zc => k_is); (case k9Zc => omega); (case k10Zc => omega); (case k11Zc => first | assumption | rfl); (case k12Zc => with_unfolding_all rfl); k_whole)))
  k_with "mine enter" => ((refine' code_def ?k1Zc ?k2Zc ?k3Zc ?k4Zc ?k5Zc ?kAZc ?kFZc ?kKZc ?k6Zc ?k7Zc ?k8Zc ?k9Zc ?kBZc ?_ ?c2Zc ?c3Zc ?c4Zc ?c5Zc; (case kAZc => exact rfl); (case kFZc => exact rfl); (case kKZc => assumption); (case k1Zc => k_asm); (case k2Zc => k_asm); (case k3Zc => k_asm); (case k4Zc => k_asm); (case k5Zc => k_asm); (case k6Zc => k_is); (case k7Zc => k_is); (case k8Zc => ktr_room); (case k9Zc => first | exact BindsTo.of_eq rfl | exact binds_K (by k_in) rfl (by k_is) rfl rfl rfl); (case c5Zc => decide); (case kBZc => exact locs rfl); (case c2Zc => exact rfl); (case c3Zc => exact rfl); (case c4Zc => exact rfl); k_whole; intro gqZn LqZn hqZn FGqZn FqZn NqZn BqZn XqZn TqZn; (try dsimp only); (try k_lift BqZn); (try k_fold)))
  k_with "mine sub" => (first | exact fun _ h => h | (refine' List.forall_mem_cons.mpr ⟨?maZc, ?mbZc⟩; (case maZc => k_mem); (case mbZc => walk_at "mine sub")) | (intro pZn hpZn; (repeat' first | exact hpZn | apply List.Mem.tail)))
  k_with "mine news" => (first | k_asm | (refine' cb_drop ?cbNZc ?cbSZc; (case cbNZc => assumption); (case cbSZc => walk_at "mine sub")))
  k_with "mine senter" => ((refine' ks_code_super ?k1Zc ?k2Zc ?k3Zc ?k4Zc ?k5Zc ?kAZc ?kFZc ?kKZc ?k6Zc ?k7Zc ?k8Zc ?k9Zc ?kBZc ?_ ?c1Zc ?c2Zc ?c3Zc ?c4Zc; (case kAZc => exact rfl); (case kFZc => exact rfl); (case kKZc => assumption); (case k1Zc => k_asm); (case k2Zc => k_asm); (case k3Zc => k_asm); (case k4Zc => k_asm); (case k5Zc => k_asm); (case k6Zc => k_is); (case k7Zc => k_is); (case k8Zc => ktr_room); (case k9Zc => first | exact BindsTo.of_eq rfl | exact binds_K (by k_in) rfl (by k_is) rfl rfl rfl); (case kBZc => exact locs rfl); (case c1Zc => decide); (case c2Zc => exact rfl); (case c3Zc => exact rfl); (case c4Zc => exact rfl); intro gqZn LqZn hqZn FGqZn FqZn NqZn BqZn XqZn TqZn l1Zn; (try k_lt l1Zn); (try dsimp only); (try k_lift BqZn)))
  k_with "wpAt" => ((ks_step "attributeBase Call"; k_here; k_dflt (refine ks_node (by k_asm) (by k_asm) (by k_asm) (by k_asm) (by k_is) (by rfl) (by rfl) (Mine.accI (by k_asm) (by k_mem) (by k_mem)) (by k_is) (by rfl) (by first | rfl | decide +kernel) (by k_is) (by k_is) (by k_is) (by k_is) (by decide) (by rfl) (by rfl) (by rfl) (by rfl) (by decide +kernel) (by first | boot_by_name | rfl | kernel_rfl) ?_; intro soqZn hqZn FqZn NqZn l1Zn; (try k_lt l1Zn))))
  k_with "getMethod ref" => ((k_here; k_dflt (first | ((with_reducible show wpAny _ _ (getMethod (Value.ref _) (PySem.Str.ofString "pop") _) _ _ _); refine' Mine.accK_supPop ?k1Zc ?k2Zc ?k3Zc ?k4Zc ?k5Zc ?k6Zc ?k7Zc ?k8Zc ?k9Zc ?k10Zc ?_; (case k1Zc => k_asm); (case k2Zc => k_asm); (case k3Zc => k_asm); (case k4Zc => k_mem); (case k5Zc => k_mem); (case k6Zc => k_mem); (case k7Zc => k_is); (case k8Zc => k_is); (case k9Zc => ks_is); (case k10Zc => k_is); intro qqZn hqZn FqZn NqZn l1Zn; (try k_lt l1Zn)) | ((with_reducible show wpAny _ _ (getMethod (Value.ref _) (PySem.Str.ofString "__len__") _) _ _ _); refine' Mine.accK_supLen ?k1Zc ?k2Zc ?k3Zc ?k4Zc ?k5Zc ?k6Zc ?k7Zc ?k8Zc ?k9Zc ?k10Zc ?_; (case k1Zc => k_asm); (case k2Zc => k_asm); (case k3Zc => k_asm); (case k4Zc => k_mem); (case k5Zc => k_mem); (case k6Zc => k_mem); (case k7Zc => k_is); (case k8Zc => k_is); (case k9Zc => ks_is); (case k10Zc => k_is); intro qqZn hqZn FqZn NqZn l1Zn; (try k_lt l1Zn)) | ((with_reducible show wpAny _ _ (getMethod (Value.ref _) (PySem.Str.ofString "__init__") _) _ _ _); refine' Mine.accK_supInit ?k1Zc ?k2Zc ?k3Zc ?k4Zc ?k5Zc ?k6Zc ?k7Zc ?k8Zc ?k9Zc ?k10Zc ?_; (case k1Zc => k_asm); (case k2Zc => k_asm); (case k3Zc => k_asm); (case k4Zc => k_mem); (case k5Zc => k_mem); (case k6Zc => k_mem); (case k7Zc => k_is); (case k8Zc => k_is); (case k9Zc => ks_is); (case k10Zc => k_is); intro qqZn hqZn FqZn NqZn l1Zn; (try k_lt l1Zn)))))
  k_with "callWith ref" => ((k_here; (with_reducible show wpAny _ _ (callWith _ (Value.ref _) [] (backTo _ (starEach [] _)) []) _ _ _); k_dflt (first | (refine' Mine.callLen ?k1Zc ?k2Zc ?k3Zc ?_; (case k1Zc => k_asm); (case k2Zc => k_mem); (case k3Zc => k_mem); k_whole) | (refine' Mine.callInit ?k0Zc ?k1Zc ?k2Zc ?k3Zc ?k4Zc ?_; (case k0Zc => k_asm); (case k1Zc => k_asm); (case k2Zc => k_mem); (case k3Zc => k_upd); (case k4Zc => first | size_fits | (rw [sizeLine_eq]; omega) | (rw [sizeLine_eq]; exact Nat.le_of_ble_eq_true rfl)); k_whole; intro hqZn FqZn NqZn; (try k_sweep)) | (refine' Mine.callPop ?k0Zc ?kXZc ?k1Zc ?k2Zc ?k3Zc ?k4Zc ?k5Zc ?k6Zc ?k7Zc ?k8Zc ?k9Zc ?k10Zc ?_; (case k0Zc => k_asm); (case kXZc => k_asm); (case k1Zc => k_asm); (case k2Zc => k_mem); (case k8Zc => first | assumption | rfl); (case k9Zc => k_upd); (case k3Zc => k_mem); (case k4Zc => k_is); (case k5Zc => k_is); (case k6Zc => rfl); (case k7Zc => k_is); (case k10Zc => rw [sizeLine_eq]; simp at *; omega); k_whole; intro hqZn FqZn NqZn; (try k_sweep)))))
  k_with "wpAt" => ((dsimp only; ks_step "execs cons"; refine ks_wpAt_execs_cons ?_))
  k_with "wpAt" => ((ks_step "eval Call"; k_dflt (refine ks_wpAt_MethodCall ?_)))
  k_with "mine os" => (first | rfl | assumption | (simp only [*]; done))
  k_with "wpAt" => ((ks_step "exec Expr"; k_dflt (refine ks_wpAt_Expr_any ?_)))
  k_with "mine upto" => (repeat' ((fail_if_success (with_reducible show wpAny _ _ (exec (Stmt.For _ _ _ _ _) _) _ _ _)); first | (k_unfold; (try dsimp only)) | (k_end; wrow_close) | walk1 | (dsimp only; walk1) | (leave1; try dsimp only)))
  trivial
theorem Mine.rstP8 : True := by w_top off; trivial
theorem Mine.regF5 : True := by
  k_with "mine parts" => (repeat' (first | assumption | apply Mine.Parts.tail))
  k_with "eval GeneratorExp" => ((k_here; k_dflt (refine' Mine.genStrK ?hhZc ?hroomZc ?kFZc ?kXZc ?kNZc ?kTZc ?kGZc ?hselfZc ?h1Zc ?h2Zc ?UZc ?htrZc ?hTZc ?hwsZc ?hfZc ?hsckZc ?hlZc ?hmZc ?hiZc ?hglenZc ?hcoZc ?hclosZc ?hcellZc ?hzZc ?hxaZc ?hxbZc ?hxlZc ?habZc ?hkindZc ?hdaZc ?hdbZc ?hdgZc ?hlineZc ?_; (case hhZc => exact rfl); (case hroomZc => ktr_room); (case kFZc => k_asm); (case kXZc => k_asm); (case kNZc => k_asm); (case kTZc => k_asm); (case kGZc => assumption); (case hselfZc => exact rfl); (case h1Zc => k_mem); (case h2Zc => k_mem); (case UZc => intro oqZn; k_upd); (case htrZc => assumption); (case hTZc => first | exact Mine.tab_len (by k_asm) | exact Mine.tab_str (by k_asm)); (case hwsZc => walk_at "mine parts"); (case hfZc => assumption); (case hsckZc => exact rfl); (case hlZc => exact rfl); (case hmZc => k_is); (case hiZc => k_is); (case hglenZc => k_is); (case hcoZc => exact rfl); (case hclosZc => exact rfl); (case hcellZc => decide); (case hzZc => exact rfl); (case hxaZc => exact rfl); (case hxbZc => exact rfl); (case hxlZc => exact rfl); (case habZc => decide); (case hkindZc => exact rfl); (case hdaZc => decide); (case hdbZc => decide); (case hdgZc => decide); (case hlineZc => decide); k_whole); intro aqZn sqZn moreqZn FqZn NqZn GqZn oqZn trqZn bnqZn gxqZn))
  k_with "call builtin:str.join" => ((k_here; (with_reducible rename Mine.GenX _ _ _ _ _ _ _ _ => gXqZn); k_dflt (refine' Mine.genJoinK ?kFZc ?kNZc ?kGZc gXqZn ?kbZc ?kfZc ?ktZc ?_; (case kFZc => k_asm); (case kNZc => k_asm); (case kGZc => assumption); (case kbZc => assumption); (case kfZc => assumption); (case ktZc => omega); k_whole); intro sqZn tqZn FqZn NqZn GqZn oqZn))
  trivial
namespace Mine
theorem con_str {x dx : Addr} {ws : List (Addr × Str)} {n : Nat} {t1 t2 : Tok} {ps : Array Value} {p : Program} {loose : List Str} {mean : ExcName → Option Value} {mg mb : Str → Option Value} {w : World} {dp un : Nat} {gd : Option (List Code)} {cn : Str} {cs : Scope} {ca : Addr} {ccd : Value} {cl : List (Str × Addr)} {outer : List Env} {A₀ : Around} {base h₀ : Heap} {L : Addr} {m : Str → Option Value} {s : Shared} {Q E : Value → Shared → Prop} {rest : List (Addr × Obj)}
  (B : Below A₀ base outer h₀) (F : Fr h₀ L s.heap m) (X : (hd.heap_1 w.params).In h₀) (N : News h₀ L s.heap ((x, accO dx (ws.map fun a => .ref a.1) n) :: (dx, dictOf (accE w t1 t2) 1) :: (147, tabO ps) :: rest)) (T : Top p loose mean mg mb h₀) (hk : cs.kind = .function) (hd' : dp + 1 < recursionLimit) (hu : un + 8 * 1 < cLine)
  (hx : @Ne Nat x 147) (hdx : @Ne Nat dx 147) (hr : ∀ p ∈ rest, p.1 ≠ 147) (hws : Parts ws rest) (hf : Fine ws) (htr : TriplesOk ps.toList) (G : AllBare s.gens)
  (ret : ∀ s' t more, Fr h₀ L s'.heap m → News h₀ L s'.heap ((x, accO dx (ws.map fun a => .ref a.1) n) :: (dx, dictOf (accE w t1 t2) 1) :: (147, tabO (ps ++ more)) :: rest) → TriplesOk (ps ++ more).toList → AllBare s'.gens → s'.os = s.os → Q (.str (partsTxt ws) t) s') :
  wpAny (model Challenge.rw_wo0053_01.row.prog w) (ktrTop dp un gd cn cs L ca ccd cl outer) (call (.ref 152) [.ref x]) Q E s := by
  revert X; k_fill; intro X
  refine wpAny_call ?_
  k_dflt (walk_at "mine enter")
  k_steps
  all_goals (exact ret _ _ _ (by k_asm) (by walk_at "mine news") (by assumption) (by assumption) (by walk_at "mine os"))
end Mine


theorem Mine.regF6 : True := by
  k_with_none
  k_with "own kne" => ((refine neN ?_; (try dsimp only); walk_at "mine apart"))
  k_with "own ktrroom" => (((try simp only [depth_under_make, depth_under_kw, depth_in1, depth_deeper, depth_caller]); (try dsimp only [ktrTop]); walk_at "mine near"))
  k_with "own ktrunits" => (((try simp only [units_in1, units_deeper, Around.mark_units, units_caller]); (try dsimp only [ktrTop]); walk_at "mine near"))
  k_with "mine near" => (((try simp only [Nat.add_assoc]); first | exact Mine.roomOf ‹_› (by decide) | exact Mine.roomOf0 ‹_› | decide))
  k_with "mine apart" => (first | assumption | exact Ne.symm ‹_› | exact Nat.ne_of_lt ‹_› | exact Nat.ne_of_gt ‹_› | exact Nat.ne_of_lt (Mine.A0 ‹_›) | exact Nat.ne_of_gt (Mine.A0 ‹_›) | exact Mine.A0 ‹_› | exact Ne.symm (Mine.A0 ‹_›) | exact Nat.ne_of_lt (Mine.A1 ‹_›) | exact Nat.ne_of_gt (Mine.A1 ‹_›) | exact Mine.A1 ‹_› | exact Ne.symm (Mine.A1 ‹_›) | exact Nat.ne_of_lt (Mine.A2 ‹_›) | exact Nat.ne_of_gt (Mine.A2 ‹_›) | exact Mine.A2 ‹_› | exact Ne.symm (Mine.A2 ‹_›) | exact Nat.ne_of_lt (Mine.A3 ‹_›) | exact Nat.ne_of_gt (Mine.A3 ‹_›) | exact Mine.A3 ‹_› | exact Ne.symm (Mine.A3 ‹_›) | exact Nat.ne_of_lt (Mine.A4 ‹_›) | exact Nat.ne_of_gt (Mine.A4 ‹_›) | exact Mine.A4 ‹_› | exact Ne.symm (Mine.A4 ‹_›) | exact Nat.ne_of_lt (Mine.A5 ‹_›) | exact Nat.ne_of_gt (Mine.A5 ‹_›) | exact Mine.A5 ‹_› | exact Ne.symm (Mine.A5 ‹_›) | exact Nat.ne_of_lt (Mine.A6 ‹_›) | exact Nat.ne_of_gt (Mine.A6 ‹_›) | exact Mine.A6 ‹_› | exact Ne.symm (Mine.A6 ‹_›) | exact Nat.ne_of_lt (Mine.A7 ‹_›) | exact Nat.ne_of_gt (Mine.A7 ‹_›) | exact Mine.A7 ‹_› | exact Ne.symm (Mine.A7 ‹_›) | exact Nat.ne_of_lt (Mine.A8 ‹_›) | exact Nat.ne_of_gt (Mine.A8 ‹_›) | exact Mine.A8 ‹_› | exact Ne.symm (Mine.A8 ‹_›) | exact Nat.ne_of_lt (Mine.A9 ‹_›) | exact Nat.ne_of_gt (Mine.A9 ‹_›) | exact Mine.A9 ‹_› | exact Ne.symm (Mine.A9 ‹_›) | exact Nat.ne_of_lt (Mine.A10 ‹_›) | exact Nat.ne_of_gt (Mine.A10 ‹_›) | exact Mine.A10 ‹_› | exact Ne.symm (Mine.A10 ‹_›) | decide | omega)
  k_with "getMethod ref" => ((k_here; k_dflt (refine' Mine.accK_method ?k1Zc ?k2Zc ?k3Zc ?k4Zc ?k5Zc ?k6Zc ?k7Zc ?k8Zc ?k9Zc ?k10Zc ?k11Zc ?_; (case k1Zc => k_asm); (case k2Zc => k_asm); (case k3Zc => k_asm); (case k4Zc => k_mem); (case k5Zc => k_mem); (case k6Zc => k_is); (case k7Zc => k_is); (case k8Zc => k_is); (case k9Zc => k_is); (case k10Zc => decide); (case k11Zc => k_get); k_whole)))
  k_with "call builtin:list.append" => ((k_here; (with_reducible show wpAny _ _ (call (Value.builtin _) [Value.ref _, _]) _ _ _); k_dflt (refine' Mine.accK_append ?k1Zc ?k2Zc ?k3Zc ?k4Zc ?k5Zc ?k6Zc ?_ ?zZc; (case k1Zc => k_asm); (case k2Zc => k_asm); (case k3Zc => k_asm); (case k6Zc => k_upd); (case k4Zc => k_mem); (case k5Zc => k_is); (case zZc => first | size_fits | (rw [sizeLine_eq]; omega)); k_whole); intro hqZn FqZn NqZn; (try k_sweep)))
  k_with "getAttr ref" => ((k_here; k_dflt (refine' Mine.accK_get ?k1Zc ?k2Zc ?k3Zc ?k4Zc ?k5Zc ?k6Zc ?k7Zc ?k8Zc ?k9Zc ?k10Zc ?k11Zc ?k12Zc ?k13Zc ?_; (case k1Zc => k_asm); (case k2Zc => k_asm); (case k3Zc => k_asm); (case k4Zc => k_mem); (case k5Zc => k_mem); (case k6Zc => k_is); (case k7Zc => k_is); (case k8Zc => k_is); (case k9Zc => k_is); (case k10Zc => k_is); (case k11Zc => k_is); (case k12Zc => k_get); (case k13Zc => k_handed); k_whole)))
  k_with "setAttr ref" => ((k_here; k_dflt (refine' Mine.accK_set ?k1Zc ?k2Zc ?k3Zc ?k4Zc ?k5Zc ?k6Zc ?k7Zc ?k8Zc ?k9Zc ?k10Zc ?k11Zc ?k12Zc ?k13Zc ?k14Zc ?_; (case k1Zc => k_asm); (case k2Zc => k_asm); (case k3Zc => k_asm); (case k4Zc => k_mem); (case k5Zc => k_mem); (case k6Zc => k_is); (case k7Zc => k_is); (case k8Zc => rfl); (case k9Zc => rfl); (case k10Zc => k_is); (case k11Zc => k_get); (case k12Zc => k_put); (case k13Zc => k_upd); (case k14Zc => exact Nat.le_of_ble_eq_true rfl); k_whole); intro hqZn FqZn NqZn; (try k_sweep)))
  k_with "call builtin:len" => ((k_here; (with_reducible show wpAny _ _ (call (Value.builtin "len") [Value.ref _]) _ _ _); k_dflt (refine' Mine.accK_len ?k1Zc ?k2Zc ?k3Zc ?k4Zc ?k5Zc ?k6Zc ?k7Zc ?_; (case k1Zc => k_asm); (case k2Zc => k_asm); (case k3Zc => k_asm); (case k4Zc => k_mem); (case k5Zc => k_mem); (case k6Zc => k_is); (case k7Zc => k_is); k_whole)))
  k_with "subscriptTail" => ((k_here; (with_reducible show wpAny _ _ (subscriptTail _ _ (Value.ref _) (Value.ref _)) _ _ _); k_dflt (refine' Mine.accK_slice ?k1Zc ?k2Zc ?k3Zc ?k4Zc ?k5Zc ?k6Zc ?k7Zc ?k8Zc ?k9Zc ?k10Zc ?k11Zc ?zZc ?_ ?k12Zc; (case k1Zc => k_asm); (case k2Zc => k_asm); (case k3Zc => k_asm); (case k4Zc => k_mem); (case k5Zc => k_mem); (case k6Zc => k_is); (case k7Zc => k_is); (case k8Zc => k_is); (case k9Zc => first | exact .none | exact .int _ _); (case k10Zc => first | exact .none | exact .int _ _); (case k11Zc => exact Mine.accPick _ _); (case zZc => first | size_fits | (rw [sizeLine_eq]; omega)); (case k12Zc => intro slZn; with_unfolding_all rfl); k_whole); intro lqZn hqZn FqZn NqZn l1Zn; (try k_lt l1Zn); (try k_sweep)))
  k_with "setItem ref" => ((k_here; (with_reducible show wpAny _ _ (setItem (Value.ref _) (Value.ref _) (Value.ref _)) _ _ _); k_dflt (refine' Mine.accK_setSlice ?k1Zc ?k2Zc ?k3Zc ?k4Zc ?k5Zc ?k6Zc ?k7Zc ?k8Zc ?k10Zc ?k11Zc ?k12Zc ?k13Zc ?k14Zc ?zZc ?_; (case k1Zc => k_asm); (case k2Zc => k_asm); (case k3Zc => k_asm); (case k4Zc => k_mem); (case k5Zc => k_mem); (case k6Zc => k_is); (case k7Zc => k_is); (case k8Zc => k_is); (case k10Zc => k_mem); (case k11Zc => first | exact .none | exact .int _ _); (case k12Zc => first | exact .none | exact .int _ _); (case k13Zc => first | exact Mine.accB_all _ _ | exact Mine.accB_del _ _ (by assumption)); (case k14Zc => k_upd); (case zZc => first | size_fits | (simp only [List.length_nil, List.length_cons]; rw [sizeLine_eq]; omega)); k_whole); intro hqZn FqZn NqZn; (try k_sweep)))
  k_with "subscriptTail" => ((k_here; (with_reducible show wpAny _ _ (subscriptTail _ _ (Value.ref _) (Value.int _ _)) _ _ _); k_dflt (refine' Mine.accK_item ?k1Zc ?k2Zc ?k3Zc ?k4Zc ?k5Zc ?k6Zc ?k7Zc ?k8Zc ?k9Zc ?k10Zc ?k11Zc ?_ ?k12Zc; (case k1Zc => k_asm); (case k2Zc => k_asm); (case k3Zc => k_asm); (case k4Zc => k_mem); (case k5Zc => k_mem); (case k6Zc => k_is); (case k7Zc => k_is); (case k8Zc => k_is); (case k9Zc => omega); (case k10Zc => omega); (case k11Zc => first | assumption | rfl); (case k12Zc => with_unfolding_all rfl); k_whole)))
  k_with "mine enter" => ((refine' code_def ?k1Zc ?k2Zc ?k3Zc ?k4Zc ?k5Zc ?kAZc ?kFZc ?kKZc ?k6Zc ?k7Zc ?k8Zc ?k9Zc ?kBZc ?_ ?c2Zc ?c3Zc ?c4Zc ?c5Zc; (case kAZc => exact rfl); (case kFZc => exact rfl); (case kKZc => assumption); (case k1Zc => k_asm); (case k2Zc => k_asm); (case k3Zc => k_asm); (case k4Zc => k_asm); (case k5Zc => k_asm); (case k6Zc => k_is); (case k7Zc => k_is); (case k8Zc => ktr_room); (case k9Zc => first | exact BindsTo.of_eq rfl | exact binds_K (by k_in) rfl (by k_is) rfl rfl rfl); (case c5Zc => decide); (case kBZc => exact locs rfl); (case c2Zc => exact rfl); (case c3Zc => exact rfl); (case c4Zc => exact rfl); k_whole; intro gqZn LqZn hqZn FGqZn FqZn NqZn BqZn XqZn TqZn; (try dsimp only); (try k_lift BqZn); (try k_fold)))
  k_with "mine sub" => (first | exact fun _ h => h | (refine' List.forall_mem_cons.mpr ⟨?maZc, ?mbZc⟩; (case maZc => k_mem); (case mbZc => walk_at "mine sub")) | (intro pZn hpZn; (repeat' first | exact hpZn | apply List.Mem.tail)))
  k_with "mine news" => (first | k_asm | (refine' cb_drop ?cbNZc ?cbSZc; (case cbNZc => assumption); (case cbSZc => walk_at "mine sub")))
  k_with "mine senter" => ((refine' ks_code_super ?k1Zc ?k2Zc ?k3Zc ?k4Zc ?k5Zc ?kAZc ?kFZc ?kKZc ?k6Zc ?k7Zc ?k8Zc ?k9Zc ?kBZc ?_ ?c1Zc ?c2Zc ?c3Zc ?c4Zc; (case kAZc => exact rfl); (case kFZc => exact rfl); (case kKZc => assumption); (case k1Zc => k_asm); (case k2Zc => k_asm); (case k3Zc => k_asm); (case k4Zc => k_asm); (case k5Zc => k_asm); (case k6Zc => k_is); (case k7Zc => k_is); (case k8Zc => ktr_room); (case k9Zc => first | exact BindsTo.of_eq rfl | exact binds_K (by k_in) rfl (by k_is) rfl rfl rfl); (case kBZc => exact locs rfl); (case c1Zc => decide); (case c2Zc => exact rfl); (case c3Zc => exact rfl); (case c4Zc => exact rfl); intro gqZn LqZn hqZn FGqZn FqZn NqZn BqZn XqZn TqZn l1Zn; (try k_lt l1Zn); (try dsimp only); (try k_lift BqZn)))
  k_with "wpAt" => ((ks_step "attributeBase Call"; k_here; k_dflt (refine ks_node (by k_asm) (by k_asm) (by k_asm) (by k_asm) (by k_is) (by rfl) (by rfl) (Mine.accI (by k_asm) (by k_mem) (by k_mem)) (by k_is) (by rfl) (by first | rfl | decide +kernel) (by k_is) (by k_is) (by k_is) (by k_is) (by decide) (by rfl) (by rfl) (by rfl) (by rfl) (by decide +kernel) (by first | boot_by_name | rfl | kernel_rfl) ?_; intro soqZn hqZn FqZn NqZn l1Zn; (try k_lt l1Zn))))
  k_with "getMethod ref" => ((k_here; k_dflt (first | ((with_reducible show wpAny _ _ (getMethod (Value.ref _) (PySem.Str.ofString "pop") _) _ _ _); refine' Mine.accK_supPop ?k1Zc ?k2Zc ?k3Zc ?k4Zc ?k5Zc ?k6Zc ?k7Zc ?k8Zc ?k9Zc ?k10Zc ?_; (case k1Zc => k_asm); (case k2Zc => k_asm); (case k3Zc => k_asm); (case k4Zc => k_mem); (case k5Zc => k_mem); (case k6Zc => k_mem); (case k7Zc => k_is); (case k8Zc => k_is); (case k9Zc => ks_is); (case k10Zc => k_is); intro qqZn hqZn FqZn NqZn l1Zn; (try k_lt l1Zn)) | ((with_reducible show wpAny _ _ (getMethod (Value.ref _) (PySem.Str.ofString "__len__") _) _ _ _); refine' Mine.accK_supLen ?k1Zc ?k2Zc ?k3Zc ?k4Zc ?k5Zc ?k6Zc ?k7Zc ?k8Zc ?k9Zc ?k10Zc ?_; (case k1Zc => k_asm); (case k2Zc => k_asm); (case k3Zc => k_asm); (case k4Zc => k_mem); (case k5Zc => k_mem); (case k6Zc => k_mem); (case k7Zc => k_is); (case k8Zc => k_is); (case k9Zc => ks_is); (case k10Zc => k_is); intro qqZn hqZn FqZn NqZn l1Zn; (try k_lt l1Zn)) | ((with_reducible show wpAny _ _ (getMethod (Value.ref _) (PySem.Str.ofString "__init__") _) _ _ _); refine' Mine.accK_supInit ?k1Zc ?k2Zc ?k3Zc ?k4Zc ?k5Zc ?k6Zc ?k7Zc ?k8Zc ?k9Zc ?k10Zc ?_; (case k1Zc => k_asm); (case k2Zc => k_asm); (case k3Zc => k_asm); (case k4Zc => k_mem); (case k5Zc => k_mem); (case k6Zc => k_mem); (case k7Zc => k_is); (case k8Zc => k_is); (case k9Zc => ks_is); (case k10Zc => k_is); intro qqZn hqZn FqZn NqZn l1Zn; (try k_lt l1Zn)))))
  k_with "callWith ref" => ((k_here; (with_reducible show wpAny _ _ (callWith _ (Value.ref _) [] (backTo _ (starEach [] _)) []) _ _ _); k_dflt (first | (refine' Mine.callLen ?k1Zc ?k2Zc ?k3Zc ?_; (case k1Zc => k_asm); (case k2Zc => k_mem); (case k3Zc => k_mem); k_whole) | (refine' Mine.callInit ?k0Zc ?k1Zc ?k2Zc ?k3Zc ?k4Zc ?_; (case k0Zc => k_asm); (case k1Zc => k_asm); (case k2Zc => k_mem); (case k3Zc => k_upd); (case k4Zc => first | size_fits | (rw [sizeLine_eq]; omega) | (rw [sizeLine_eq]; exact Nat.le_of_ble_eq_true rfl)); k_whole; intro hqZn FqZn NqZn; (try k_sweep)) | (refine' Mine.callPop ?k0Zc ?kXZc ?k1Zc ?k2Zc ?k3Zc ?k4Zc ?k5Zc ?k6Zc ?k7Zc ?k8Zc ?k9Zc ?k10Zc ?_; (case k0Zc => k_asm); (case kXZc => k_asm); (case k1Zc => k_asm); (case k2Zc => k_mem); (case k8Zc => first | assumption | rfl); (case k9Zc => k_upd); (case k3Zc => k_mem); (case k4Zc => k_is); (case k5Zc => k_is); (case k6Zc => rfl); (case k7Zc => k_is); (case k10Zc => rw [sizeLine_eq]; simp at *; omega); k_whole; intro hqZn FqZn NqZn; (try k_sweep)))))
  k_with "wpAt" => ((dsimp only; ks_step "execs cons"; refine ks_wpAt_execs_cons ?_))
  k_with "wpAt" => ((ks_step "eval Call"; k_dflt (refine ks_wpAt_MethodCall ?_)))
  k_with "mine os" => (first | rfl | assumption | (simp only [*]; done))
  k_with "wpAt" => ((ks_step "exec Expr"; k_dflt (refine ks_wpAt_Expr_any ?_)))
  k_with "mine upto" => (repeat' ((fail_if_success (with_reducible show wpAny _ _ (exec (Stmt.For _ _ _ _ _) _) _ _ _)); first | (k_unfold; (try dsimp only)) | (k_end; wrow_close) | walk1 | (dsimp only; walk1) | (leave1; try dsimp only)))
  trivial
theorem Mine.rstP9 : True := by w_top off; trivial
namespace Mine
theorem con_acc {t : Tok} {p : Program} {loose : List Str} {mean : ExcName → Option Value} {mg mb : Str → Option Value} {w : World} {dp un : Nat} {gd : Option (List Code)} {cn : Str} {cs : Scope} {ca : Addr} {ccd : Value} {cl : List (Str × Addr)} {outer : List Env} {A₀ : Around} {base h₀ : Heap} {L : Addr} {m : Str → Option Value} {s : Shared} {Q E : Value → Shared → Prop} {rest : List (Addr × Obj)}
  (B : Below A₀ base outer h₀) (F : Fr h₀ L s.heap m) (X : (hd.heap_1 w.params).In h₀) (N : News h₀ L s.heap (rest)) (T : Top p loose mean mg mb h₀) (hk : cs.kind = .function) (hd' : dp + 3 < recursionLimit) (hu : un + 8 * 3 < cLine)
  (ret : ∀ s' x dx t1 t2 n', Fr h₀ L s'.heap m → News h₀ L s'.heap ((x, accO dx [] n') :: (dx, dictOf (accE w t1 t2) 1) :: rest) → s'.gens = s.gens → s'.os = s.os → (∀ p ∈ rest, @LT.lt Nat _ p.1 dx) → @LT.lt Nat _ dx x → Q (.ref x) s') :
  wpAny (model Challenge.rw_wo0053_01.row.prog w) (ktrTop dp un gd cn cs L ca ccd cl outer) (call (.ref 178) [.int 0 t]) Q E s := by
  revert X; k_fill; intro X
  refine Mine.callL (by k_asm) (by k_asm) (by k_asm) (Mine.makesL_of (Frag.In.keeps (by k_asm) (Fr.keep (by k_asm))) (by k_is) rfl rfl rfl rfl (by k_is) (by k_is) (by k_is) (by k_is)) (by k_is) (by k_is) ?_
  intro x dx h' F' N' l1 l2
  have hr1 : ∀ p ∈ rest, p.1 ≠ dx := fun p hp => Nat.ne_of_lt (l1 p hp)
  have hr2 : ∀ p ∈ rest, p.1 ≠ x := fun p hp => Nat.ne_of_lt (Nat.lt_trans (l1 p hp) l2)
  try k_lt l1
  try k_lt2 l2
  k_dflt (walk_at "mine senter")
  k_steps
  all_goals (exact ret _ _ _ _ _ _ (by k_asm) (by walk_at "mine news") (by walk_at "mine os") (by walk_at "mine os") (by assumption) (by assumption))
end Mine

namespace Mine
section
variable {h₀ h h' : Heap} {L : Addr} {m : Str → Option Value} {news n1 : List (Addr × Obj)} {x dx P : Addr} {o1 o2 o3 o3' : Obj}
abbrev but1 (P : Addr) (news : List (Addr × Obj)) : List (Addr × Obj) := news.filter (fun p => decide (p.1 ≠ P))
theorem but1_ne : ∀ p ∈ but1 P news, p.1 ≠ P := fun p hp => by
  have := (List.mem_filter.mp hp).2
  simpa only [decide_eq_true_eq] using this
theorem own3 (N : News h₀ L h news) (h1 : (x, o1) ∈ news) (h2 : (dx, o2) ∈ news) (h3 : (P, o3) ∈ news) : News h₀ L h ((x, o1) :: (dx, o2) :: (P, o3) :: but1 P news) := fun p hp => by
  rcases List.mem_cons.mp hp with rfl | hp
  · exact N _ h1
  rcases List.mem_cons.mp hp with rfl | hp
  · exact N _ h2
  rcases List.mem_cons.mp hp with rfl | hp
  · exact N _ h3
  exact N _ (List.mem_filter.mp hp).1
theorem back3 (U : Upd P o3 o3' news n1) (N' : News h₀ L h' ((x, o1) :: (dx, o2) :: (P, o3') :: but1 P news)) : News h₀ L h' n1 := fun p hp => by
  rcases upd_in U hp with rfl | ⟨q, hx⟩
  · exact N' _ (.tail _ (.tail _ (.head _)))
  · exact N' _ (.tail _ (.tail _ (.tail _ (List.mem_filter.mpr ⟨q, by simpa only [decide_eq_true_eq] using hx⟩))))
theorem ne_tab {ps : Array Value} {a : Addr} {o : Obj} (N : News h₀ L h news) (h1 : (a, o) ∈ news) (h3 : (P, tabO ps) ∈ news) (hc : o.cls ≠ .none) : @Ne Nat a P := fun e => by
  have e1 := (N _ h1).1
  have e3 := (N _ h3).1
  dsimp only at e1 e3
  rw [show a = P from e, e3] at e1
  exact hc (by cases e1; rfl)
theorem Parts.but {ws : List (Addr × Str)} (h : Parts ws news) (hn : ∀ a ∈ ws, a.1 ≠ P) : Parts ws (but1 P news) := fun a ha => by
  obtain ⟨tf, tp, hm⟩ := h a ha
  exact ⟨tf, tp, List.mem_filter.mpr ⟨hm, by simpa only [decide_eq_true_eq] using hn a ha⟩⟩
end
theorem use_len {x dx : Addr} {ws : List (Addr × Str)} {n : Nat} {t1 t2 : Tok} {ps : Array Value} {news : List (Addr × Obj)} {nw : Obj → List (Addr × Obj)} {p : Program} {loose : List Str} {mean : ExcName → Option Value} {mg mb : Str → Option Value} {w : World} {dp un : Nat} {gd : Option (List Code)} {cn : Str} {cs : Scope} {ca : Addr} {ccd : Value} {cl : List (Str × Addr)} {outer : List Env} {A₀ : Around} {base h₀ : Heap} {L : Addr} {m : Str → Option Value} {s : Shared} {Q E : Value → Shared → Prop}
  (B : Below A₀ base outer h₀) (F : Fr h₀ L s.heap m) (X : (hd.heap_1 w.params).In h₀) (N : News h₀ L s.heap (news)) (T : Top p loose mean mg mb h₀) (hk : cs.kind = .function) (hd' : dp + 1 < recursionLimit) (hu : un + 8 * 1 < cLine) (h1 : (x, accO dx (ws.map fun a => .ref a.1) n) ∈ news) (h2 : (dx, dictOf (accE w t1 t2) 1) ∈ news) (U : ∀ o', Upd 140 (tabO ps) o' news (nw o')) (hws : Parts ws news) (hf : Fine ws) (htr : TriplesOk ps.toList) (G : AllBare s.gens)
  (ret : ∀ s' t more, Fr h₀ L s'.heap m → News h₀ L s'.heap (nw (tabO (ps ++ more))) → TriplesOk (ps ++ more).toList → AllBare s'.gens → s'.os = s.os → Q (.int (partsLen ws) t) s') :
  wpAny (model Challenge.rw_wo0053_01.row.prog w) (ktrTop dp un gd cn cs L ca ccd cl outer) (call (.ref 145) [.ref x]) Q E s :=
  have h3 := upd_mem (U (tabO ps))
  con_len (rest := but1 140 news) B F X (own3 N h1 h2 h3) T hk hd' hu (ne_tab N h1 h3 (by intro e; cases e)) (ne_tab N h2 h3 (by intro e; cases e)) but1_ne (hws.but hf.tab1) hf htr G
    fun s' t more F' N' a b c => ret s' t more F' (back3 (U _) N') a b c
theorem use_str {x dx : Addr} {ws : List (Addr × Str)} {n : Nat} {t1 t2 : Tok} {ps : Array Value} {news : List (Addr × Obj)} {nw : Obj → List (Addr × Obj)} {p : Program} {loose : List Str} {mean : ExcName → Option Value} {mg mb : Str → Option Value} {w : World} {dp un : Nat} {gd : Option (List Code)} {cn : Str} {cs : Scope} {ca : Addr} {ccd : Value} {cl : List (Str × Addr)} {outer : List Env} {A₀ : Around} {base h₀ : Heap} {L : Addr} {m : Str → Option Value} {s : Shared} {Q E : Value → Shared → Prop}
  (B : Below A₀ base outer h₀) (F : Fr h₀ L s.heap m) (X : (hd.heap_1 w.params).In h₀) (N : News h₀ L s.heap (news)) (T : Top p loose mean mg mb h₀) (hk : cs.kind = .function) (hd' : dp + 1 < recursionLimit) (hu : un + 8 * 1 < cLine) (h1 : (x, accO dx (ws.map fun a => .ref a.1) n) ∈ news) (h2 : (dx, dictOf (accE w t1 t2) 1) ∈ news) (U : ∀ o', Upd 147 (tabO ps) o' news (nw o')) (hws : Parts ws news) (hf : Fine ws) (htr : TriplesOk ps.toList) (G : AllBare s.gens)
  (ret : ∀ s' t more, Fr h₀ L s'.heap m → News h₀ L s'.heap (nw (tabO (ps ++ more))) → TriplesOk (ps ++ more).toList → AllBare s'.gens → s'.os = s.os → Q (.str (partsTxt ws) t) s') :
  wpAny (model Challenge.rw_wo0053_01.row.prog w) (ktrTop dp un gd cn cs L ca ccd cl outer) (call (.ref 152) [.ref x]) Q E s :=
  have h3 := upd_mem (U (tabO ps))
  con_str (rest := but1 147 news) B F X (own3 N h1 h2 h3) T hk hd' hu (ne_tab N h1 h3 (by intro e; cases e)) (ne_tab N h2 h3 (by intro e; cases e)) but1_ne (hws.but hf.tab2) hf htr G
    fun s' t more F' N' a b c => ret s' t more F' (back3 (U _) N') a b c
section
variable {prog : Program} {w : World} {A : Around} {E : Value → Shared → Prop} {s : Shared} {K : Frag} {x C L f : Addr} {h₀ : Heap} {m : Str → Option Value} {ox : Obj} {od : Option Obj}
theorem truthy_len {Q : Bool → Shared → Prop} (F : Fr h₀ L s.heap m) (X₀ : K.In h₀) (I : InstAt s.heap x ox C od) (hb : findIn K (.ref C) "__bool__" = some none) (hs : findIn K (.ref C) "__len__" = some (some (.ref f))) (hf : isFn K (.ref f) = true)
    (h : wpAny (model prog w) A.in1 (call (.ref f) [.ref x]) (fun v s' => ∃ n t, v = .int n t ∧ (0 ≤ n ∧ n < 2 ^ 63) ∧ ∀ k, Q (n != 0) { s' with toks := k }) E s) : wpAny (model prog w) A (truthy (.ref x)) Q E s := by
  have X := X₀.keeps F.keep
  unfold truthy
  refine wpAny_bind (m := callSpecial? (.ref x) (Str.ofString "__bool__")) (wpAny_bind (wpAny_bind (I.type.here ((looks_findIn X hb).here (wpAny_pure ?_)))))
  refine wpAny_bind (wpAny_bind (I.type.here ((looks_findIn X hs).here ?_)))
  have key : wpAny (model prog w) A (runValue (.builtin "len" ⟨[.ref x], []⟩)) (fun r s' => ∃ n t, r = .int n t ∧ Q (n != 0) s') E s := by
    refine wpAny_runValue (codeAny_builtin entry_len ?_)
    rw [Around.under_plainId plain_len _]
    unfold Builtin.«len»
    refine wpAny_bind (m := oneArg "len" _) (wpAny_pure ?_)
    refine wpAny_bind (m := callSpecial? (.ref x) (Str.ofString "__len__")) (special_fn X I hs (beq_iff_eq.mp hf) (wpAny_mono h (fun r s' hr => ?_) fun _ _ y => y))
    obtain ⟨n, u, rfl, ⟨h0, h1⟩, hq⟩ := hr
    refine wpAny_bind (wpAny_holding (wpAny_pure ?_))
    refine wpAny_bind (wpAny_letGo ?_)
    show wpAny _ _ (if n < 0 then _ else _) _ _ _
    rw [if_neg (by omega)]
    show wpAny _ _ (if n ≥ 2 ^ 63 then _ else _) _ _ _
    rw [if_neg (by omega)]
    exact wpAny_bind (wpAny_mkInt (wpAny_pure ⟨_, _, rfl, hq _⟩))
  refine wpAny_bind (wpAny_mono key (fun r s' hr => ?_) fun _ _ y => y)
  obtain ⟨n, u, rfl, hq⟩ := hr
  exact wpAny_pure hq
end
end Mine

theorem Mine.rstP11 : True := by w_top off; trivial
namespace Mine
theorem mk_weight {C : Addr} {rest : List Value} {kw : List (Str × Value)} : (Code.builtin "type.__call__" ⟨.ref C :: rest, kw⟩).weight = 1 := by kernel_rfl
theorem mk_units {C : Addr} {rest : List Value} {kw : List (Str × Value)} : (Code.builtin "type.__call__" ⟨.ref C :: rest, kw⟩).cUnits = 1 := by kernel_rfl
theorem mk_envs {C : Addr} {rest : List Value} {kw : List (Str × Value)} : (Code.builtin "type.__call__" ⟨.ref C :: rest, kw⟩).envs = [] := by kernel_rfl
theorem mk_guards {C : Addr} {rest : List Value} {kw : List (Str × Value)} : (Code.builtin "type.__call__" ⟨.ref C :: rest, kw⟩).guards = [] := by kernel_rfl
theorem under_mk {A : Around} {C : Addr} {rest : List Value} {kw : List (Str × Value)} : A.under (.builtin "type.__call__" ⟨.ref C :: rest, kw⟩) = { A with depth := A.depth + 1, units := A.units + 1 } := by
  obtain ⟨hd, d, fr, gs, u⟩ := A
  simp [Around.under, mk_weight, mk_units, mk_envs, mk_guards, pushEnvs, pushGuards]
theorem under_K {dp un : Nat} {gd : Option (List Code)} {cn : Str} {cs : Scope} {ca : Addr} {ccd : Value} {cl : List (Str × Addr)} {outer : List Env} {L C : Addr} {rest : List Value} {kw : List (Str × Value)} :
   (ktrTop dp un gd cn cs L ca ccd cl outer).under (.builtin "type.__call__" ⟨.ref C :: rest, kw⟩) = ktrTop (dp + 1) (un + 1) gd cn cs L ca ccd cl outer := under_mk
theorem len_fit {ws : List (Addr × Str)} (hf : Fine ws) : 0 ≤ partsLen ws ∧ partsLen ws ≤ 1000000 := by
  have := sum_bound ws hf.len
  have := hf.few
  unfold partsLen
  omega
theorem acc_truthy {x dx : Addr} {ws : List (Addr × Str)} {n : Nat} {t1 t2 : Tok} {ps : Array Value} {news : List (Addr × Obj)} {nw : Obj → List (Addr × Obj)} {Qb : Bool → Shared → Prop} {p : Program} {loose : List Str} {mean : ExcName → Option Value} {mg mb : Str → Option Value} {w : World} {dp un : Nat} {gd : Option (List Code)} {cn : Str} {cs : Scope} {ca : Addr} {ccd : Value} {cl : List (Str × Addr)} {outer : List Env} {A₀ : Around} {base h₀ : Heap} {L : Addr} {m : Str → Option Value} {s : Shared} {E : Value → Shared → Prop}
  (B : Below A₀ base outer h₀) (F : Fr h₀ L s.heap m) (X : (hd.heap_1 w.params).In h₀) (N : News h₀ L s.heap (news)) (T : Top p loose mean mg mb h₀) (hk : cs.kind = .function) (hd' : dp + 1 < recursionLimit) (hu : un + 8 * 2 < cLine) (h1 : (x, accO dx (ws.map fun a => .ref a.1) n) ∈ news) (h2 : (dx, dictOf (accE w t1 t2) 1) ∈ news) (U : ∀ o', Upd 140 (tabO ps) o' news (nw o')) (hws : Parts ws news) (hf : Fine ws) (htr : TriplesOk ps.toList) (G : AllBare s.gens)
  (hb : findIn (hd.heap_1 w.params) (.ref 178) "__bool__" = some none) (hs : findIn (hd.heap_1 w.params) (.ref 178) "__len__" = some (some (.ref 145))) (hfn : isFn (hd.heap_1 w.params) (.ref 145) = true)
  (ret : ∀ s' more, Fr h₀ L s'.heap m → News h₀ L s'.heap (nw (tabO (ps ++ more))) → TriplesOk (ps ++ more).toList → AllBare s'.gens → s'.os = s.os → Qb (partsLen ws != 0) s') :
  wpAny (model Challenge.rw_wo0053_01.row.prog w) (ktrTop dp un gd cn cs L ca ccd cl outer) (truthy (.ref x)) Qb E s := by
  refine truthy_len (K := hd.heap_1 w.params) F X (accI N h1 h2) hb hs hfn ?_
  refine use_len B F X N T hk (by ktr_room) (by ktr_units) h1 h2 U hws hf htr G fun s' t more F' N' a b c => ?_
  have := len_fit hf
  exact ⟨_, _, rfl, by omega, fun k => ret _ more F' N' a b c⟩
theorem acc_lenb {x dx : Addr} {ws : List (Addr × Str)} {n : Nat} {t1 t2 : Tok} {ps : Array Value} {news : List (Addr × Obj)} {nw : Obj → List (Addr × Obj)} {p : Program} {loose : List Str} {mean : ExcName → Option Value} {mg mb : Str → Option Value} {w : World} {dp un : Nat} {gd : Option (List Code)} {cn : Str} {cs : Scope} {ca : Addr} {ccd : Value} {cl : List (Str × Addr)} {outer : List Env} {A₀ : Around} {base h₀ : Heap} {L : Addr} {m : Str → Option Value} {s : Shared} {Q E : Value → Shared → Prop}
  (B : Below A₀ base outer h₀) (F : Fr h₀ L s.heap m) (X : (hd.heap_1 w.params).In h₀) (N : News h₀ L s.heap (news)) (T : Top p loose mean mg mb h₀) (hk : cs.kind = .function) (hd' : dp + 1 < recursionLimit) (hu : un + 8 * 2 < cLine) (h1 : (x, accO dx (ws.map fun a => .ref a.1) n) ∈ news) (h2 : (dx, dictOf (accE w t1 t2) 1) ∈ news) (U : ∀ o', Upd 140 (tabO ps) o' news (nw o')) (hws : Parts ws news) (hf : Fine ws) (htr : TriplesOk ps.toList) (G : AllBare s.gens)
  (hs : findIn (hd.heap_1 w.params) (.ref 178) "__len__" = some (some (.ref 145))) (hfn : isFn (hd.heap_1 w.params) (.ref 145) = true)
  (ret : ∀ s' t more, Fr h₀ L s'.heap m → News h₀ L s'.heap (nw (tabO (ps ++ more))) → TriplesOk (ps ++ more).toList → AllBare s'.gens → s'.os = s.os → Q (.int (partsLen ws) t) s') :
  wpAny (model Challenge.rw_wo0053_01.row.prog w) (ktrTop dp un gd cn cs L ca ccd cl outer) (call (.builtin "len") [.ref x]) Q E s := by
  refine len_K (K := hd.heap_1 w.params) F X (accI N h1 h2) hs hfn ?_
  refine use_len B F X N T hk (by ktr_room) (by ktr_units) h1 h2 U hws hf htr G fun s' t more F' N' a b c => ?_
  have := len_fit hf
  exact ⟨by omega, ret _ _ more F' N' a b c⟩
theorem acc_strc {x dx : Addr} {ws : List (Addr × Str)} {n : Nat} {t1 t2 : Tok} {ps : Array Value} {news : List (Addr × Obj)} {nw : Obj → List (Addr × Obj)} {p : Program} {loose : List Str} {mean : ExcName → Option Value} {mg mb : Str → Option Value} {w : World} {dp un : Nat} {gd : Option (List Code)} {cn : Str} {cs : Scope} {ca : Addr} {ccd : Value} {cl : List (Str × Addr)} {outer : List Env} {A₀ : Around} {base h₀ : Heap} {L : Addr} {m : Str → Option Value} {s : Shared} {Q E : Value → Shared → Prop}
  (B : Below A₀ base outer h₀) (F : Fr h₀ L s.heap m) (X : (hd.heap_1 w.params).In h₀) (N : News h₀ L s.heap (news)) (T : Top p loose mean mg mb h₀) (hk : cs.kind = .function) (hd' : dp + 1 < recursionLimit) (hu : un + 8 * 3 < cLine) (h1 : (x, accO dx (ws.map fun a => .ref a.1) n) ∈ news) (h2 : (dx, dictOf (accE w t1 t2) 1) ∈ news) (U : ∀ o', Upd 147 (tabO ps) o' news (nw o')) (hws : Parts ws news) (hf : Fine ws) (htr : TriplesOk ps.toList) (G : AllBare s.gens)
  (hs : findIn (hd.heap_1 w.params) (.ref 178) "__str__" = some (some (.ref 152))) (hfn : isFn (hd.heap_1 w.params) (.ref 152) = true)
  (ret : ∀ s' t more, Fr h₀ L s'.heap m → News h₀ L s'.heap (nw (tabO (ps ++ more))) → TriplesOk (ps ++ more).toList → AllBare s'.gens → s'.os = s.os → Q (.str (partsTxt ws) t) s') :
  wpAny (model Challenge.rw_wo0053_01.row.prog w) (ktrTop dp un gd cn cs L ca ccd cl outer) (call (.type "str") [.ref x]) Q E s := by
  refine kso_call (K := hd.heap_1 w.params) (by ktr_units) (X.keeps F.keep) (accI N h1 h2) hs hfn ?_
  exact use_str B F X N T hk (by ktr_room) (by ktr_units) h1 h2 U hws hf htr G fun s' t more F' N' a b c => ret _ _ more F' N' a b c
end Mine

section
theorem Mine.regF7 : True := by
  k_with_none
  k_with "own kne" => ((refine neN ?_; (try dsimp only); walk_at "mine apart"))
  k_with "own ktrroom" => (((try simp only [depth_under_make, depth_under_kw, depth_in1, depth_deeper, depth_caller]); (try dsimp only [ktrTop]); walk_at "mine near"))
  k_with "own ktrunits" => (((try simp only [units_in1, units_deeper, Around.mark_units, units_caller]); (try dsimp only [ktrTop]); walk_at "mine near"))
  k_with "mine near" => (((try simp only [Nat.add_assoc]); first | exact Mine.roomOf ‹_› (by decide) | exact Mine.roomOf0 ‹_› | decide))
  k_with "mine apart" => (first | assumption | exact Ne.symm ‹_› | exact Nat.ne_of_lt ‹_› | exact Nat.ne_of_gt ‹_› | exact Nat.ne_of_lt (Mine.A0 ‹_›) | exact Nat.ne_of_gt (Mine.A0 ‹_›) | exact Mine.A0 ‹_› | exact Ne.symm (Mine.A0 ‹_›) | exact Nat.ne_of_lt (Mine.A1 ‹_›) | exact Nat.ne_of_gt (Mine.A1 ‹_›) | exact Mine.A1 ‹_› | exact Ne.symm (Mine.A1 ‹_›) | exact Nat.ne_of_lt (Mine.A2 ‹_›) | exact Nat.ne_of_gt (Mine.A2 ‹_›) | exact Mine.A2 ‹_› | exact Ne.symm (Mine.A2 ‹_›) | exact Nat.ne_of_lt (Mine.A3 ‹_›) | exact Nat.ne_of_gt (Mine.A3 ‹_›) | exact Mine.A3 ‹_› | exact Ne.symm (Mine.A3 ‹_›) | exact Nat.ne_of_lt (Mine.A4 ‹_›) | exact Nat.ne_of_gt (Mine.A4 ‹_›) | exact Mine.A4 ‹_› | exact Ne.symm (Mine.A4 ‹_›) | exact Nat.ne_of_lt (Mine.A5 ‹_›) | exact Nat.ne_of_gt (Mine.A5 ‹_›) | exact Mine.A5 ‹_› | exact Ne.symm (Mine.A5 ‹_›) | exact Nat.ne_of_lt (Mine.A6 ‹_›) | exact Nat.ne_of_gt (Mine.A6 ‹_›) | exact Mine.A6 ‹_› | exact Ne.symm (Mine.A6 ‹_›) | exact Nat.ne_of_lt (Mine.A7 ‹_›) | exact Nat.ne_of_gt (Mine.A7 ‹_›) | exact Mine.A7 ‹_› | exact Ne.symm (Mine.A7 ‹_›) | exact Nat.ne_of_lt (Mine.A8 ‹_›) | exact Nat.ne_of_gt (Mine.A8 ‹_›) | exact Mine.A8 ‹_› | exact Ne.symm (Mine.A8 ‹_›) | exact Nat.ne_of_lt (Mine.A9 ‹_›) | exact Nat.ne_of_gt (Mine.A9 ‹_›) | exact Mine.A9 ‹_› | exact Ne.symm (Mine.A9 ‹_›) | exact Nat.ne_of_lt (Mine.A10 ‹_›) | exact Nat.ne_of_gt (Mine.A10 ‹_›) | exact Mine.A10 ‹_› | exact Ne.symm (Mine.A10 ‹_›) | decide | omega)
  k_with "getMethod ref" => ((k_here; k_dflt (refine' Mine.accK_method ?k1Zc ?k2Zc ?k3Zc ?k4Zc ?k5Zc ?k6Zc ?k7Zc ?k8Zc ?k9Zc ?k10Zc ?k11Zc ?_; (case k1Zc => k_asm); (case k2Zc => k_asm); (case k3Zc => k_asm); (case k4Zc => k_mem); (case k5Zc => k_mem); (case k6Zc => k_is); (case k7Zc => k_is); (case k8Zc => k_is); (case k9Zc => k_is); (case k10Zc => decide); (case k11Zc => k_get); k_whole)))
  k_with "call builtin:list.append" => ((k_here; (with_reducible show wpAny _ _ (call (Value.builtin _) [Value.ref _, _]) _ _ _); k_dflt (refine' Mine.accK_append ?k1Zc ?k2Zc ?k3Zc ?k4Zc ?k5Zc ?k6Zc ?_ ?zZc; (case k1Zc => k_asm); (case k2Zc => k_asm); (case k3Zc => k_asm); (case k6Zc => k_upd); (case k4Zc => k_mem); (case k5Zc => k_is); (case zZc => first | size_fits | (rw [sizeLine_eq]; omega)); k_whole); intro hqZn FqZn NqZn; (try k_sweep)))
  k_with "getAttr ref" => ((k_here; k_dflt (refine' Mine.accK_get ?k1Zc ?k2Zc ?k3Zc ?k4Zc ?k5Zc ?k6Zc ?k7Zc ?k8Zc ?k9Zc ?k10Zc ?k11Zc ?k12Zc ?k13Zc ?_; (case k1Zc => k_asm); (case k2Zc => k_asm); (case k3Zc => k_asm); (case k4Zc => k_mem); (case k5Zc => k_mem); (case k6Zc => k_is); (case k7Zc => k_is); (case k8Zc => k_is); (case k9Zc => k_is); (case k10Zc => k_is); (case k11Zc => k_is); (case k12Zc => k_get); (case k13Zc => k_handed); k_whole)))
  k_with "setAttr ref" => ((k_here; k_dflt (refine' Mine.accK_set ?k1Zc ?k2Zc ?k3Zc ?k4Zc ?k5Zc ?k6Zc ?k7Zc ?k8Zc ?k9Zc ?k10Zc ?k11Zc ?k12Zc ?k13Zc ?k14Zc ?_; (case k1Zc => k_asm); (case k2Zc => k_asm); (case k3Zc => k_asm); (case k4Zc => k_mem); (case k5Zc => k_mem); (case k6Zc => k_is); (case k7Zc => k_is); (case k8Zc => rfl); (case k9Zc => rfl); (case k10Zc => k_is); (case k11Zc => k_get); (case k12Zc => k_put); (case k13Zc => k_upd); (case k14Zc => exact Nat.le_of_ble_eq_true rfl); k_whole); intro hqZn FqZn NqZn; (try k_sweep)))
  k_with "call builtin:len" => ((k_here; (with_reducible show wpAny _ _ (call (Value.builtin "len") [Value.ref _]) _ _ _); k_dflt (refine' Mine.accK_len ?k1Zc ?k2Zc ?k3Zc ?k4Zc ?k5Zc ?k6Zc ?k7Zc ?_; (case k1Zc => k_asm); (case k2Zc => k_asm); (case k3Zc => k_asm); (case k4Zc => k_mem); (case k5Zc => k_mem); (case k6Zc => k_is); (case k7Zc => k_is); k_whole)))
  k_with "subscriptTail" => ((k_here; (with_reducible show wpAny _ _ (subscriptTail _ _ (Value.ref _) (Value.ref _)) _ _ _); k_dflt (refine' Mine.accK_slice ?k1Zc ?k2Zc ?k3Zc ?k4Zc ?k5Zc ?k6Zc ?k7Zc ?k8Zc ?k9Zc ?k10Zc ?k11Zc ?zZc ?_ ?k12Zc; (case k1Zc => k_asm); (case k2Zc => k_asm); (case k3Zc => k_asm); (case k4Zc => k_mem); (case k5Zc => k_mem); (case k6Zc => k_is); (case k7Zc => k_is); (case k8Zc => k_is); (case k9Zc => first | exact .none | exact .int _ _); (case k10Zc => first | exact .none | exact .int _ _); (case k11Zc => exact Mine.accPick _ _); (case zZc => first | size_fits | (rw [sizeLine_eq]; omega)); (case k12Zc => intro slZn; with_unfolding_all rfl); k_whole); intro lqZn hqZn FqZn NqZn l1Zn; (try k_lt l1Zn); (try k_sweep)))
  k_with "setItem ref" => ((k_here; (with_reducible show wpAny _ _ (setItem (Value.ref _) (Value.ref _) (Value.ref _)) _ _ _); k_dflt (refine' Mine.accK_setSlice ?k1Zc ?k2Zc ?k3Zc ?k4Zc ?k5Zc ?k6Zc ?k7Zc ?k8Zc ?k10Zc ?k11Zc ?k12Zc ?k13Zc ?k14Zc ?zZc ?_; (case k1Zc => k_asm); (case k2Zc => k_asm); (case k3Zc => k_asm); (case k4Zc => k_mem); (case k5Zc => k_mem); (case k6Zc => k_is); (case k7Zc => k_is); (case k8Zc => k_is); (case k10Zc => k_mem); (case k11Zc => first | exact .none | exact .int _ _); (case k12Zc => first | exact .none | exact .int _ _); (case k13Zc => first | exact Mine.accB_all _ _ | exact Mine.accB_del _ _ (by assumption)); (case k14Zc => k_upd); (case zZc => first | size_fits | (simp only [List.length_nil, List.length_cons]; rw [sizeLine_eq]; omega)); k_whole); intro hqZn FqZn NqZn; (try k_sweep)))
  k_with "subscriptTail" => ((k_here; (with_reducible show wpAny _ _ (subscriptTail _ _ (Value.ref _) (Value.int _ _)) _ _ _); k_dflt (refine' Mine.accK_item ?k1Zc ?k2Zc ?k3Zc ?k4Zc ?k5Zc ?k6Zc ?k7Zc ?k8Zc ?k9Zc ?k10Zc ?k11Zc ?_ ?k12Zc; (case k1Zc => k_asm); (case k2Zc => k_asm); (case k3Zc => k_asm); (case k4Zc => k_mem); (case k5Zc => k_mem); (case k6Zc => k_is); (case k7Zc => k_is); (case k8Zc => k_is); (case k9Zc => omega); (case k10Zc => omega); (case k11Zc => first | assumption | rfl); (case k12Zc => with_unfolding_all rfl); k_whole)))
  k_with "mine enter" => ((refine' code_def ?k1Zc ?k2Zc ?k3Zc ?k4Zc ?k5Zc ?kAZc ?kFZc ?kKZc ?k6Zc ?k7Zc ?k8Zc ?k9Zc ?kBZc ?_ ?c2Zc ?c3Zc ?c4Zc ?c5Zc; (case kAZc => exact rfl); (case kFZc => exact rfl); (case kKZc => assumption); (case k1Zc => k_asm); (case k2Zc => k_asm); (case k3Zc => k_asm); (case k4Zc => k_asm); (case k5Zc => k_asm); (case k6Zc => k_is); (case k7Zc => k_is); (case k8Zc => ktr_room); (case k9Zc => first | exact BindsTo.of_eq rfl | exact binds_K (by k_in) rfl (by k_is) rfl rfl rfl); (case c5Zc => decide); (case kBZc => exact locs rfl); (case c2Zc => exact rfl); (case c3Zc => exact rfl); (case c4Zc => exact rfl); k_whole; intro gqZn LqZn hqZn FGqZn FqZn NqZn BqZn XqZn TqZn; (try dsimp only); (try k_lift BqZn); (try k_fold)))
  k_with "mine sub" => (first | exact fun _ h => h | (refine' List.forall_mem_cons.mpr ⟨?maZc, ?mbZc⟩; (case maZc => k_mem); (case mbZc => walk_at "mine sub")) | (intro pZn hpZn; (repeat' first | exact hpZn | apply List.Mem.tail)))
  k_with "mine news" => (first | k_asm | (refine' cb_drop ?cbNZc ?cbSZc; (case cbNZc => assumption); (case cbSZc => walk_at "mine sub")))
  k_with "mine senter" => ((refine' ks_code_super ?k1Zc ?k2Zc ?k3Zc ?k4Zc ?k5Zc ?kAZc ?kFZc ?kKZc ?k6Zc ?k7Zc ?k8Zc ?k9Zc ?kBZc ?_ ?c1Zc ?c2Zc ?c3Zc ?c4Zc; (case kAZc => exact rfl); (case kFZc => exact rfl); (case kKZc => assumption); (case k1Zc => k_asm); (case k2Zc => k_asm); (case k3Zc => k_asm); (case k4Zc => k_asm); (case k5Zc => k_asm); (case k6Zc => k_is); (case k7Zc => k_is); (case k8Zc => ktr_room); (case k9Zc => first | exact BindsTo.of_eq rfl | exact binds_K (by k_in) rfl (by k_is) rfl rfl rfl); (case kBZc => exact locs rfl); (case c1Zc => decide); (case c2Zc => exact rfl); (case c3Zc => exact rfl); (case c4Zc => exact rfl); intro gqZn LqZn hqZn FGqZn FqZn NqZn BqZn XqZn TqZn l1Zn; (try k_lt l1Zn); (try dsimp only); (try k_lift BqZn)))
  k_with "wpAt" => ((ks_step "attributeBase Call"; k_here; k_dflt (refine ks_node (by k_asm) (by k_asm) (by k_asm) (by k_asm) (by k_is) (by rfl) (by rfl) (Mine.accI (by k_asm) (by k_mem) (by k_mem)) (by k_is) (by rfl) (by first | rfl | decide +kernel) (by k_is) (by k_is) (by k_is) (by k_is) (by decide) (by rfl) (by rfl) (by rfl) (by rfl) (by decide +kernel) (by first | boot_by_name | rfl | kernel_rfl) ?_; intro soqZn hqZn FqZn NqZn l1Zn; (try k_lt l1Zn))))
  k_with "getMethod ref" => ((k_here; k_dflt (first | ((with_reducible show wpAny _ _ (getMethod (Value.ref _) (PySem.Str.ofString "pop") _) _ _ _); refine' Mine.accK_supPop ?k1Zc ?k2Zc ?k3Zc ?k4Zc ?k5Zc ?k6Zc ?k7Zc ?k8Zc ?k9Zc ?k10Zc ?_; (case k1Zc => k_asm); (case k2Zc => k_asm); (case k3Zc => k_asm); (case k4Zc => k_mem); (case k5Zc => k_mem); (case k6Zc => k_mem); (case k7Zc => k_is); (case k8Zc => k_is); (case k9Zc => ks_is); (case k10Zc => k_is); intro qqZn hqZn FqZn NqZn l1Zn; (try k_lt l1Zn)) | ((with_reducible show wpAny _ _ (getMethod (Value.ref _) (PySem.Str.ofString "__len__") _) _ _ _); refine' Mine.accK_supLen ?k1Zc ?k2Zc ?k3Zc ?k4Zc ?k5Zc ?k6Zc ?k7Zc ?k8Zc ?k9Zc ?k10Zc ?_; (case k1Zc => k_asm); (case k2Zc => k_asm); (case k3Zc => k_asm); (case k4Zc => k_mem); (case k5Zc => k_mem); (case k6Zc => k_mem); (case k7Zc => k_is); (case k8Zc => k_is); (case k9Zc => ks_is); (case k10Zc => k_is); intro qqZn hqZn FqZn NqZn l1Zn; (try k_lt l1Zn)) | ((with_reducible show wpAny _ _ (getMethod (Value.ref _) (PySem.Str.ofString "__init__") _) _ _ _); refine' Mine.accK_supInit ?k1Zc ?k2Zc ?k3Zc ?k4Zc ?k5Zc ?k6Zc ?k7Zc ?k8Zc ?k9Zc ?k10Zc ?_; (case k1Zc => k_asm); (case k2Zc => k_asm); (case k3Zc => k_asm); (case k4Zc => k_mem); (case k5Zc => k_mem); (case k6Zc => k_mem); (case k7Zc => k_is); (case k8Zc => k_is); (case k9Zc => ks_is); (case k10Zc => k_is); intro qqZn hqZn FqZn NqZn l1Zn; (try k_lt l1Zn)))))
  k_with "callWith ref" => ((k_here; (with_reducible show wpAny _ _ (callWith _ (Value.ref _) [] (backTo _ (starEach [] _)) []) _ _ _); k_dflt (first | (refine' Mine.callLen ?k1Zc ?k2Zc ?k3Zc ?_; (case k1Zc => k_asm); (case k2Zc => k_mem); (case k3Zc => k_mem); k_whole) | (refine' Mine.callInit ?k0Zc ?k1Zc ?k2Zc ?k3Zc ?k4Zc ?_; (case k0Zc => k_asm); (case k1Zc => k_asm); (case k2Zc => k_mem); (case k3Zc => k_upd); (case k4Zc => first | size_fits | (rw [sizeLine_eq]; omega) | (rw [sizeLine_eq]; exact Nat.le_of_ble_eq_true rfl)); k_whole; intro hqZn FqZn NqZn; (try k_sweep)) | (refine' Mine.callPop ?k0Zc ?kXZc ?k1Zc ?k2Zc ?k3Zc ?k4Zc ?k5Zc ?k6Zc ?k7Zc ?k8Zc ?k9Zc ?k10Zc ?_; (case k0Zc => k_asm); (case kXZc => k_asm); (case k1Zc => k_asm); (case k2Zc => k_mem); (case k8Zc => first | assumption | rfl); (case k9Zc => k_upd); (case k3Zc => k_mem); (case k4Zc => k_is); (case k5Zc => k_is); (case k6Zc => rfl); (case k7Zc => k_is); (case k10Zc => rw [sizeLine_eq]; simp at *; omega); k_whole; intro hqZn FqZn NqZn; (try k_sweep)))))
  k_with "wpAt" => ((dsimp only; ks_step "execs cons"; refine ks_wpAt_execs_cons ?_))
  k_with "wpAt" => ((ks_step "eval Call"; k_dflt (refine ks_wpAt_MethodCall ?_)))
  k_with "mine os" => (first | rfl | assumption | (simp only [*]; done))
  k_with "wpAt" => ((ks_step "exec Expr"; k_dflt (refine ks_wpAt_Expr_any ?_)))
  k_with "mine upto" => (repeat' ((fail_if_success (with_reducible show wpAny _ _ (exec (Stmt.For _ _ _ _ _) _) _ _ _)); first | (k_unfold; (try dsimp only)) | (k_end; wrow_close) | walk1 | (dsimp only; walk1) | (leave1; try dsimp only)))
  k_with "mine parts" => (repeat' (first | assumption | apply Mine.Parts.tail))
  k_with "mine bare" => (first | assumption | (simp only [*]; done))
  k_with "call ref" => ((k_here; (with_reducible show wpAny _ _ (call (Value.ref 175) _) _ _ _); k_dflt (refine' Mine.use_count ?k1Zc ?k2Zc ?k3Zc ?k4Zc ?k5Zc ?k6Zc ?k7Zc ?k8Zc ?k9Zc ?k10Zc ?_; (case k1Zc => k_asm); (case k2Zc => k_asm); (case k3Zc => k_asm); (case k4Zc => k_asm); (case k5Zc => k_asm); (case k6Zc => first | exact rfl | assumption); (case k7Zc => ktr_room); (case k8Zc => ktr_units); (case k9Zc => k_mem); (case k10Zc => k_mem); k_whole; intro sqZn tqZn FqZn NqZn gqZn oqZn)))
  k_with "call ref" => ((k_here; (with_reducible show wpAny _ _ (call (Value.ref 122) _) _ _ _); k_dflt (refine' Mine.use_push ?k1Zc ?k2Zc ?k3Zc ?k4Zc ?k5Zc ?k6Zc ?k7Zc ?k8Zc ?k9Zc ?k10Zc ?k11Zc ?k12Zc ?_; (case k1Zc => k_asm); (case k2Zc => k_asm); (case k3Zc => k_asm); (case k4Zc => k_asm); (case k5Zc => k_asm); (case k6Zc => first | exact rfl | assumption); (case k7Zc => ktr_room); (case k8Zc => ktr_units); (case k12Zc => intro oqZn; k_upd); (case k9Zc => k_mem); (case k10Zc => assumption); (case k11Zc => walk_at "mine size"); k_whole; intro sqZn tqZn FqZn NqZn gqZn oqZn lqZn; (try k_lt lqZn))))
  k_with "call ref" => ((k_here; (with_reducible show wpAny _ _ (call (Value.ref 130) _) _ _ _); k_dflt (refine' Mine.use_pop_from ?k1Zc ?k2Zc ?k3Zc ?k4Zc ?k5Zc ?k6Zc ?k7Zc ?k8Zc ?k9Zc ?k10Zc ?k11Zc ?k12Zc ?k13Zc ?_; (case k1Zc => k_asm); (case k2Zc => k_asm); (case k3Zc => k_asm); (case k4Zc => k_asm); (case k5Zc => k_asm); (case k6Zc => first | exact rfl | assumption); (case k7Zc => ktr_room); (case k8Zc => ktr_units); (case k13Zc => intro oqZn; k_upd); (case k9Zc => k_mem); (case k10Zc => assumption); (case k11Zc => walk_at "mine size"); (case k12Zc => walk_at "mine size"); k_whole; intro sqZn tqZn nqZn FqZn NqZn gqZn oqZn lqZn; (try k_lt lqZn))))
  k_with "call ref" => ((k_here; (with_reducible show wpAny _ _ (call (Value.ref 138) _) _ _ _); k_dflt (refine' Mine.use_pop ?k1Zc ?k2Zc ?k3Zc ?k4Zc ?k5Zc ?k6Zc ?k7Zc ?k8Zc ?k9Zc ?k10Zc ?k11Zc ?k12Zc ?k13Zc ?_; (case k1Zc => k_asm); (case k2Zc => k_asm); (case k3Zc => k_asm); (case k4Zc => k_asm); (case k5Zc => k_asm); (case k6Zc => first | exact rfl | assumption); (case k7Zc => ktr_room); (case k8Zc => ktr_units); (case k13Zc => intro oqZn; k_upd); (case k9Zc => k_mem); (case k10Zc => assumption); (case k12Zc => first | assumption | walk_at "mine last"); (case k11Zc => walk_at "mine size"); k_whole; intro sqZn FqZn NqZn gqZn oqZn)))
  k_with "call ref" => ((k_here; (with_reducible show wpAny _ _ (call (Value.ref 160) _) _ _ _); k_dflt (refine' Mine.use_reset0 ?k1Zc ?k2Zc ?k3Zc ?k4Zc ?k5Zc ?k6Zc ?k7Zc ?k8Zc ?k9Zc ?k10Zc ?k11Zc ?k12Zc ?k13Zc ?_; (case k1Zc => k_asm); (case k2Zc => k_asm); (case k3Zc => k_asm); (case k4Zc => k_asm); (case k5Zc => k_asm); (case k6Zc => first | exact rfl | assumption); (case k7Zc => ktr_room); (case k8Zc => ktr_units); (case k12Zc => intro oqZn; k_upd); (case k13Zc => intro o1Zn oqZn; k_upd); (case k11Zc => k_mem); (case k9Zc => assumption); (case k10Zc => walk_at "mine size"); k_whole; intro sqZn t1qZn t2qZn nqZn FqZn NqZn gqZn oqZn)))
  k_with "call ref" => ((k_here; (with_reducible show wpAny _ _ (call (Value.ref 160) _) _ _ _); k_dflt (refine' Mine.use_reset ?k1Zc ?k2Zc ?k3Zc ?k4Zc ?k5Zc ?k6Zc ?k7Zc ?k8Zc ?k9Zc ?k9bZc ?k9cZc ?k10Zc ?k11Zc ?k11bZc ?k12Zc ?k13Zc ?_; (case k1Zc => k_asm); (case k2Zc => k_asm); (case k3Zc => k_asm); (case k4Zc => k_asm); (case k5Zc => k_asm); (case k6Zc => first | exact rfl | assumption); (case k7Zc => ktr_room); (case k8Zc => ktr_units); (case k12Zc => intro oqZn; k_upd); (case k13Zc => intro o1Zn oqZn; k_upd); (case k11Zc => k_mem); (case k11bZc => k_mem); (case k9Zc => first | assumption | omega); (case k9bZc => first | assumption | omega); (case k9cZc => first | assumption | omega); (case k10Zc => walk_at "mine size"); k_whole; intro sqZn t1qZn t2qZn nqZn FqZn NqZn gqZn oqZn)))
  k_with "truthy ref" => ((k_here; k_dflt (refine' Mine.acc_truthy ?k1Zc ?k2Zc ?k3Zc ?k4Zc ?k5Zc ?k6Zc ?k7Zc ?k8Zc ?k9Zc ?k10Zc ?k11Zc ?k12Zc ?k13Zc ?k14Zc ?k15Zc ?k16Zc ?k17Zc ?k18Zc ?_; (case k1Zc => k_asm); (case k2Zc => k_asm); (case k3Zc => k_asm); (case k4Zc => k_asm); (case k5Zc => k_asm); (case k6Zc => first | exact rfl | assumption); (case k7Zc => ktr_room); (case k8Zc => ktr_units); (case k11Zc => intro oqZn; k_upd); (case k9Zc => k_mem); (case k10Zc => k_mem); (case k12Zc => walk_at "mine parts"); (case k13Zc => assumption); (case k14Zc => assumption); (case k15Zc => walk_at "mine bare"); (case k16Zc => k_is); (case k17Zc => k_is); (case k18Zc => k_is); k_whole; intro sqZn moreqZn FqZn NqZn trqZn GqZn oqZn)))
  k_with "call builtin:len" => ((k_here; (with_reducible show wpAny _ _ (call (Value.builtin "len") [Value.ref _]) _ _ _); k_dflt (refine' Mine.acc_lenb ?k1Zc ?k2Zc ?k3Zc ?k4Zc ?k5Zc ?k6Zc ?k7Zc ?k8Zc ?k9Zc ?k10Zc ?k11Zc ?k12Zc ?k13Zc ?k14Zc ?k15Zc ?k17Zc ?k18Zc ?_; (case k1Zc => k_asm); (case k2Zc => k_asm); (case k3Zc => k_asm); (case k4Zc => k_asm); (case k5Zc => k_asm); (case k6Zc => first | exact rfl | assumption); (case k7Zc => ktr_room); (case k8Zc => ktr_units); (case k11Zc => intro oqZn; k_upd); (case k9Zc => k_mem); (case k10Zc => k_mem); (case k12Zc => walk_at "mine parts"); (case k13Zc => assumption); (case k14Zc => assumption); (case k15Zc => walk_at "mine bare"); (case k17Zc => k_is); (case k18Zc => k_is); k_whole; intro sqZn tqZn moreqZn FqZn NqZn trqZn GqZn oqZn)))
  k_with "call type:str" => ((k_here; (with_reducible show wpAny _ _ (call (Value.type "str") [Value.ref _]) _ _ _); k_dflt (refine' Mine.acc_strc ?k1Zc ?k2Zc ?k3Zc ?k4Zc ?k5Zc ?k6Zc ?k7Zc ?k8Zc ?k9Zc ?k10Zc ?k11Zc ?k12Zc ?k13Zc ?k14Zc ?k15Zc ?k17Zc ?k18Zc ?_; (case k1Zc => k_asm); (case k2Zc => k_asm); (case k3Zc => k_asm); (case k4Zc => k_asm); (case k5Zc => k_asm); (case k6Zc => first | exact rfl | assumption); (case k7Zc => ktr_room); (case k8Zc => ktr_units); (case k11Zc => intro oqZn; k_upd); (case k9Zc => k_mem); (case k10Zc => k_mem); (case k12Zc => walk_at "mine parts"); (case k13Zc => assumption); (case k14Zc => assumption); (case k15Zc => walk_at "mine bare"); (case k17Zc => k_is); (case k18Zc => k_is); k_whole; intro sqZn tqZn moreqZn FqZn NqZn trqZn GqZn oqZn)))
  k_with "mine size" => (first | assumption | omega | (simp only [List.length_append, List.length_cons, List.length_nil, List.length_map] at *; omega))
  k_with "call ref" => ((k_here; (with_reducible show wpAny _ _ (call (Value.ref 178) _) _ _ _); k_dflt (refine' Mine.con_acc ?k1Zc ?k2Zc ?k3Zc ?k4Zc ?k5Zc ?k6Zc ?k7Zc ?k8Zc ?_; (case k1Zc => k_asm); (case k2Zc => k_asm); (case k3Zc => k_asm); (case k4Zc => k_asm); (case k5Zc => k_asm); (case k6Zc => first | exact rfl | assumption); (case k7Zc => ktr_room); (case k8Zc => ktr_units); k_whole; intro sqZn xqZn dxqZn t1qZn t2qZn nqZn FqZn NqZn gqZn oqZn l1Zn l2Zn; (try k_lt l1Zn); (try k_lt2 l2Zn))))
  trivial
theorem Mine.rstP12 : True := by w_top off; trivial
namespace Mine
theorem con_onlyws {x dx : Addr} {ws : List (Addr × Str)} {n : Nat} {t1 t2 : Tok} {ps qs : Array Value} {p : Program} {loose : List Str} {mean : ExcName → Option Value} {mg mb : Str → Option Value} {w : World} {dp un : Nat} {gd : Option (List Code)} {cn : Str} {cs : Scope} {ca : Addr} {ccd : Value} {cl : List (Str × Addr)} {outer : List Env} {A₀ : Around} {base h₀ : Heap} {L : Addr} {m : Str → Option Value} {s : Shared} {Q E : Value → Shared → Prop} {rest : List (Addr × Obj)}
  (B : Below A₀ base outer h₀) (F : Fr h₀ L s.heap m) (X : (hd.heap_1 w.params).In h₀) (N : News h₀ L s.heap ((x, accO dx (ws.map fun a => .ref a.1) n) :: (dx, dictOf (accE w t1 t2) 1) :: (140, tabO ps) :: (147, tabO qs) :: rest)) (T : Top p loose mean mg mb h₀) (hk : cs.kind = .function) (hd' : dp + 3 < recursionLimit) (hu : un + 8 * 4 < cLine)
  (hr : ∀ p ∈ rest, p.1 ≠ 140) (hr2 : ∀ p ∈ rest, p.1 ≠ 147) (hx : @Ne Nat x 140) (hdx : @Ne Nat dx 140) (hx2 : @Ne Nat x 147) (hdx2 : @Ne Nat dx 147) (hws : Parts ws rest) (hf : Fine ws) (htr : TriplesOk ps.toList) (htr2 : TriplesOk qs.toList) (G : AllBare s.gens) (hpos : partsLen ws ≠ 0)
  (ret : ∀ s' more more2, Fr h₀ L s'.heap m → News h₀ L s'.heap ((x, accO dx (ws.map fun a => .ref a.1) n) :: (dx, dictOf (accE w t1 t2) 1) :: (140, tabO (ps ++ more)) :: (147, tabO (qs ++ more2)) :: rest) → TriplesOk (ps ++ more).toList → TriplesOk (qs ++ more2).toList → AllBare s'.gens → s'.os = s.os → Q (.bool (Txt.isspace (partsTxt ws))) s') :
  wpAny (model Challenge.rw_wo0053_01.row.prog w) (ktrTop dp un gd cn cs L ca ccd cl outer) (call (.ref 167) [.ref x]) Q E s := by
  revert X; k_fill; intro X
  refine wpAny_call ?_
  k_dflt (walk_at "mine enter")
  k_steps
  · exact ret _ _ _ (by k_asm) (by walk_at "mine news") (by assumption) (by assumption) (by assumption) (by walk_at "mine os")
  · exfalso; simp_all
end Mine

theorem Mine.rstP13 : True := by w_top off; trivial
namespace Mine
structure VT where
  (k1 k2 k3 k4 k5 k6 v1 v2 v3 v4 : Tok)
abbrev vfD (w : World) (width : Int) (ll x : Addr) (k1 k2 k3 k4 k5 k6 v1 v2 v3 v4 : Tok) : List DictEntry := [⟨PyData.keyHash w.params (Str.ofString "_maxlen"), .str (Str.ofString "_maxlen") k1, .int width v1⟩,
  ⟨PyData.keyHash w.params (Str.ofString "_continuation_ws"), .str (Str.ofString "_continuation_ws") k2, .str (Str.ofString "") v2⟩,
  ⟨PyData.keyHash w.params (Str.ofString "_continuation_ws_len"), .str (Str.ofString "_continuation_ws_len") k3, .int 0 v3⟩,
  ⟨PyData.keyHash w.params (Str.ofString "_splitchars"), .str (Str.ofString "_splitchars") k4, .str (Str.ofString ";") v4⟩,
  ⟨PyData.keyHash w.params (Str.ofString "_lines"), .str (Str.ofString "_lines") k5, .ref ll⟩,
  ⟨PyData.keyHash w.params (Str.ofString "_current_line"), .str (Str.ofString "_current_line") k6, .ref x⟩]
abbrev vfE (w : World) (width : Int) (ll x : Addr) (v : VT) : List DictEntry := vfD w width ll x v.k1 v.k2 v.k3 v.k4 v.k5 v.k6 v.v1 v.v2 v.v3 v.v4
theorem con_vf {t0 t1 t2 t3 : Tok} {width : Int} {p : Program} {loose : List Str} {mean : ExcName → Option Value} {mg mb : Str → Option Value} {w : World} {dp un : Nat} {gd : Option (List Code)} {cn : Str} {cs : Scope} {ca : Addr} {ccd : Value} {cl : List (Str × Addr)} {outer : List Env} {A₀ : Around} {base h₀ : Heap} {L : Addr} {m : Str → Option Value} {s : Shared} {Q E : Value → Shared → Prop} {rest : List (Addr × Obj)}
  (B : Below A₀ base outer h₀) (F : Fr h₀ L s.heap m) (X : (hd.heap_1 w.params).In h₀) (N : News h₀ L s.heap (rest)) (T : Top p loose mean mg mb h₀) (hk : cs.kind = .function) (hd' : dp + 6 < recursionLimit) (hu : un + 8 * 6 < cLine)
  (ret : ∀ s' (f fd ll x dx : Addr) t1 t2 n v, Fr h₀ L s'.heap m → News h₀ L s'.heap ((x, accO dx [] n) :: (dx, dictOf (accE w t1 t2) 1) :: (ll, W.listOf #[] 0) :: (f, instObj 94 fd) :: (fd, dictOf (vfE w width ll x v) 6) :: rest) → s'.gens = s.gens → s'.os = s.os → (∀ p ∈ rest, @LT.lt Nat _ p.1 fd) → @LT.lt Nat _ fd f → @LT.lt Nat _ f ll → @LT.lt Nat _ ll dx → @LT.lt Nat _ dx x → Q (.ref f) s') :
  wpAny (model Challenge.rw_wo0053_01.row.prog w) (ktrTop dp un gd cn cs L ca ccd cl outer) (call (.ref 94) [.int 0 t0, .int width t1, .str (Str.ofString "") t2, .str (Str.ofString ";") t3]) Q E s := by
  revert X; k_fill; intro X
  k_dflt (refine' call_cls ?k1 ?k2 ?k3 ?k4 ?k5 ?k6 ?_; (case k1 => k_asm); (case k2 => k_asm); (case k3 => k_asm); (case k4 => k_is); (case k5 => k_is); (case k6 => k_is); k_whole)
  intro x dx h' F' N' l1 l2
  have hr1 : ∀ p ∈ rest, p.1 ≠ dx := fun p hp => Nat.ne_of_lt (l1 p hp)
  have hr2 : ∀ p ∈ rest, p.1 ≠ x := fun p hp => Nat.ne_of_lt (Nat.lt_trans (l1 p hp) l2)
  try k_lt l1
  try k_lt2 l2
  rw [under_K]
  k_dflt (walk_at "mine enter")
  k_steps
  rename News h₀ _ _ _ => kN9
  refine ret _ _ _ _ _ _ _ _ _ ⟨_, _, _, _, _, _, _, _, _, _⟩ (by k_asm) kN9 (by walk_at "mine os") (by walk_at "mine os") (by assumption) (by assumption) (by omega) (by omega) (by omega)
end Mine

namespace Mine
abbrev refs (ws : List (Addr × Str)) : List Value := ws.map fun a => .ref a.1
theorem Fine.push {ws : List (Addr × Str)} {t : Addr} {z : Str} (h : Fine ws) (hz : z.length ≤ 1000) (hn : ws.length < 1000) (h1 : @LT.lt Nat _ 147 t) : Fine (ws ++ [(t, z)]) where
  len := fun a ha => by
    rcases List.mem_append.mp ha with q | q
    · exact h.len a q
    · rw [List.mem_singleton.mp q]; exact hz
  tab1 := fun a ha e => by
    rcases List.mem_append.mp ha with q | q
    · exact h.tab1 a q e
    · rw [List.mem_singleton.mp q] at e
      have e' : @Eq Nat t 140 := e
      omega
  tab2 := fun a ha e => by
    rcases List.mem_append.mp ha with q | q
    · exact h.tab2 a q e
    · rw [List.mem_singleton.mp q] at e
      have e' : @Eq Nat t 147 := e
      omega
  few := by rw [List.length_append]; simp only [List.length_cons, List.length_nil]; omega
theorem Fine.sub {ws vs : List (Addr × Str)} (h : Fine ws) (hs : vs.Sublist ws) : Fine vs where
  len := fun a ha => h.len a (hs.subset ha)
  tab1 := fun a ha => h.tab1 a (hs.subset ha)
  tab2 := fun a ha => h.tab2 a (hs.subset ha)
  few := Nat.le_trans hs.length_le h.few
theorem Parts.snoc {ws : List (Addr × Str)} {news : List (Addr × Obj)} {t : Addr} {z : Str} {tf tz : Tok} (h : Parts ws news) (hm : (t, tupO (.str (Str.ofString "") tf) (.str z tz)) ∈ news) : Parts (ws ++ [(t, z)]) news := fun a ha => by
  rcases List.mem_append.mp ha with q | q
  · exact h a q
  · rw [List.mem_singleton.mp q]; exact ⟨_, _, hm⟩
theorem Parts.one {news : List (Addr × Obj)} {t : Addr} {z : Str} {tf tz : Tok} (hm : (t, tupO (.str (Str.ofString "") tf) (.str z tz)) ∈ news) : Parts [(t, z)] news := fun a ha => by
  rw [List.mem_singleton.mp ha]; exact ⟨_, _, hm⟩
theorem Parts.nil {news : List (Addr × Obj)} : Parts [] news := fun a ha => by cases ha
theorem use_pushP {x dx : Addr} {ws : List (Addr × Str)} {n : Nat} {t1 t2 tf tz : Tok} {z : Str} {o147 : Obj} {news : List (Addr × Obj)} {nw : Obj → List (Addr × Obj)} {p : Program} {loose : List Str} {mean : ExcName → Option Value} {mg mb : Str → Option Value} {w : World} {dp un : Nat} {gd : Option (List Code)} {cn : Str} {cs : Scope} {ca : Addr} {ccd : Value} {cl : List (Str × Addr)} {outer : List Env} {A₀ : Around} {base h₀ : Heap} {L : Addr} {m : Str → Option Value} {s : Shared} {Q E : Value → Shared → Prop}
  (B : Below A₀ base outer h₀) (F : Fr h₀ L s.heap m) (X : (hd.heap_1 w.params).In h₀) (N : News h₀ L s.heap (news)) (T : Top p loose mean mg mb h₀) (hk : cs.kind = .function) (hd' : dp + 1 < recursionLimit) (hu : un + 8 * 1 < cLine) (h2 : (dx, dictOf (accE w t1 t2) 1) ∈ news) (hdx : @Ne Nat dx x) (hf : Fine ws) (hn : ws.length < 1000) (hz : z.length ≤ 1000) (h147 : (147, o147) ∈ news) (U : ∀ o', Upd x (accO dx (refs ws) n) o' news (nw o'))
  (ret : ∀ s' t, Fr h₀ L s'.heap m → News h₀ L s'.heap ((t, tupO (.str (Str.ofString "") tf) (.str z tz)) :: nw (accO dx (refs (ws ++ [(t, z)])) (n + 1))) → Fine (ws ++ [(t, z)]) → s'.gens = s.gens → s'.os = s.os → (∀ p ∈ news, @LT.lt Nat _ p.1 t) → Q .none s') :
  wpAny (model Challenge.rw_wo0053_01.row.prog w) (ktrTop dp un gd cn cs L ca ccd cl outer) (call (.ref 122) [.ref x, .str (Str.ofString "") tf, .str z tz]) Q E s :=
  use_push B F X N T hk hd' hu h2 hdx (by rw [List.length_map]; exact hf.few) U fun s' t F' N' g o lt => ret s' t F' (by rw [refs, List.map_append]; exact N') (hf.push hz hn (lt _ h147)) g o lt
theorem use_popP {x dx : Addr} {wi : List (Addr × Str)} {a : Addr × Str} {n : Nat} {t1 t2 : Tok} {news : List (Addr × Obj)} {nw : Obj → List (Addr × Obj)} {p : Program} {loose : List Str} {mean : ExcName → Option Value} {mg mb : Str → Option Value} {w : World} {dp un : Nat} {gd : Option (List Code)} {cn : Str} {cs : Scope} {ca : Addr} {ccd : Value} {cl : List (Str × Addr)} {outer : List Env} {A₀ : Around} {base h₀ : Heap} {L : Addr} {m : Str → Option Value} {s : Shared} {Q E : Value → Shared → Prop}
  (B : Below A₀ base outer h₀) (F : Fr h₀ L s.heap m) (X : (hd.heap_1 w.params).In h₀) (N : News h₀ L s.heap (news)) (T : Top p loose mean mg mb h₀) (hk : cs.kind = .function) (hd' : dp + 2 < recursionLimit) (hu : un + 8 * 2 < cLine) (h2 : (dx, dictOf (accE w t1 t2) 1) ∈ news) (hdx : @Ne Nat dx x) (hf : Fine (wi ++ [a])) (U : ∀ o', Upd x (accO dx (refs (wi ++ [a])) n) o' news (nw o'))
  (ret : ∀ s', Fr h₀ L s'.heap m → News h₀ L s'.heap (nw (accO dx (refs wi) (n + 1))) → s'.gens = s.gens → s'.os = s.os → Q (.ref a.1) s') :
  wpAny (model Challenge.rw_wo0053_01.row.prog w) (ktrTop dp un gd cn cs L ca ccd cl outer) (call (.ref 138) [.ref x]) Q E s :=
  use_pop B F X N T hk hd' hu h2 hdx (by rw [List.length_map]; exact hf.few) (by rw [refs, List.map_append]; rfl) U ret
theorem use_pop_fromP {x dx : Addr} {wi wj : List (Addr × Str)} {n : Nat} {k : Int} {t1 t2 t3 : Tok} {news : List (Addr × Obj)} {nw : Obj → List (Addr × Obj)} {p : Program} {loose : List Str} {mean : ExcName → Option Value} {mg mb : Str → Option Value} {w : World} {dp un : Nat} {gd : Option (List Code)} {cn : Str} {cs : Scope} {ca : Addr} {ccd : Value} {cl : List (Str × Addr)} {outer : List Env} {A₀ : Around} {base h₀ : Heap} {L : Addr} {m : Str → Option Value} {s : Shared} {Q E : Value → Shared → Prop}
  (B : Below A₀ base outer h₀) (F : Fr h₀ L s.heap m) (X : (hd.heap_1 w.params).In h₀) (N : News h₀ L s.heap (news)) (T : Top p loose mean mg mb h₀) (hk : cs.kind = .function) (hd' : dp + 1 < recursionLimit) (hu : un + 8 * 1 < cLine) (h2 : (dx, dictOf (accE w t1 t2) 1) ∈ news) (hdx : @Ne Nat dx x) (hf : Fine (wi ++ wj)) (hi : k = (wi.length : Int)) (U : ∀ o', Upd x (accO dx (refs (wi ++ wj)) n) o' news (nw o'))
  (ret : ∀ s' t n', Fr h₀ L s'.heap m → News h₀ L s'.heap ((t, W.listOf (refs wj).toArray 0) :: nw (accO dx (refs wi) n')) → s'.gens = s.gens → s'.os = s.os → (∀ p ∈ news, @LT.lt Nat _ p.1 t) → Q (.ref t) s') :
  wpAny (model Challenge.rw_wo0053_01.row.prog w) (ktrTop dp un gd cn cs L ca ccd cl outer) (call (.ref 130) [.ref x, .int k t3]) Q E s := by
  subst hi
  refine use_pop_from B F X N T hk hd' hu h2 hdx (by rw [List.length_map]; exact hf.few) (by rw [List.length_map, List.length_append]; omega) U fun s' t n' F' N' g o lt => ret s' t n' F' ?_ g o lt
  have e1 : (refs (wi ++ wj)).drop wi.length = refs wj := by rw [refs, List.map_append]; exact List.drop_left' (List.length_map ..)
  have e2 : (refs (wi ++ wj)).take wi.length = refs wi := by rw [refs, List.map_append]; exact List.take_left' (List.length_map ..)
  rw [e1, e2] at N'
  exact N'
theorem use_resetP {x dx v : Addr} {ws new : List (Addr × Str)} {n c : Nat} {t1 t2 : Tok} {news : List (Addr × Obj)} {nw : Obj → List (Addr × Obj)} {nw2 : Obj → Obj → List (Addr × Obj)} {p : Program} {loose : List Str} {mean : ExcName → Option Value} {mg mb : Str → Option Value} {w : World} {dp un : Nat} {gd : Option (List Code)} {cn : Str} {cs : Scope} {ca : Addr} {ccd : Value} {cl : List (Str × Addr)} {outer : List Env} {A₀ : Around} {base h₀ : Heap} {L : Addr} {m : Str → Option Value} {s : Shared} {Q E : Value → Shared → Prop}
  (B : Below A₀ base outer h₀) (F : Fr h₀ L s.heap m) (X : (hd.heap_1 w.params).In h₀) (N : News h₀ L s.heap (news)) (T : Top p loose mean mg mb h₀) (hk : cs.kind = .function) (hd' : dp + 1 < recursionLimit) (hu : un + 8 * 1 < cLine) (hdx : @Ne Nat dx x) (hvx : @Ne Nat v x) (hvd : @Ne Nat v dx) (hf : Fine (ws ++ new)) (h2 : (dx, dictOf (accE w t1 t2) 1) ∈ news) (h3 : (v, W.listOf (refs new).toArray c) ∈ news) (U : ∀ o', Upd x (accO dx (refs ws) n) o' news (nw o')) (U2 : ∀ o1 o', Upd dx (dictOf (accE w t1 t2) 1) o' (nw o1) (nw2 o1 o'))
  (ret : ∀ s' t1 t2 n', Fr h₀ L s'.heap m → News h₀ L s'.heap (nw2 (accO dx (refs new) n') (dictOf (accE w t1 t2) 1)) → s'.gens = s.gens → s'.os = s.os → Q .none s') :
  wpAny (model Challenge.rw_wo0053_01.row.prog w) (ktrTop dp un gd cn cs L ca ccd cl outer) (call (.ref 160) [.ref x, .ref v]) Q E s :=
  use_reset B F X N T hk hd' hu hdx hvx hvd (by rw [List.length_map, List.length_map]; have := hf.few; rw [List.length_append] at this; exact this) h2 h3 U U2 ret
end Mine

section
theorem Mine.regF8 : True := by
  k_with_none
  k_with "own kne" => ((refine neN ?_; (try dsimp only); walk_at "mine apart"))
  k_with "own ktrroom" => (((try simp only [depth_under_make, depth_under_kw, depth_in1, depth_deeper, depth_caller]); (try dsimp only [ktrTop]); walk_at "mine near"))
  k_with "own ktrunits" => (((try simp only [units_in1, units_deeper, Around.mark_units, units_caller]); (try dsimp only [ktrTop]); walk_at "mine near"))
  k_with "mine near" => (((try simp only [Nat.add_assoc]); first | exact Mine.roomOf ‹_› (by decide) | exact Mine.roomOf0 ‹_› | decide))
  k_with "mine apart" => (first | assumption | exact Ne.symm ‹_› | exact Nat.ne_of_lt ‹_› | exact Nat.ne_of_gt ‹_› | exact Nat.ne_of_lt (Mine.A0 ‹_›) | exact Nat.ne_of_gt (Mine.A0 ‹_›) | exact Mine.A0 ‹_› | exact Ne.symm (Mine.A0 ‹_›) | exact Nat.ne_of_lt (Mine.A1 ‹_›) | exact Nat.ne_of_gt (Mine.A1 ‹_›) | exact Mine.A1 ‹_› | exact Ne.symm (Mine.A1 ‹_›) | exact Nat.ne_of_lt (Mine.A2 ‹_›) | exact Nat.ne_of_gt (Mine.A2 ‹_›) | exact Mine.A2 ‹_› | exact Ne.symm (Mine.A2 ‹_›) | exact Nat.ne_of_lt (Mine.A3 ‹_›) | exact Nat.ne_of_gt (Mine.A3 ‹_›) | exact Mine.A3 ‹_› | exact Ne.symm (Mine.A3 ‹_›) | exact Nat.ne_of_lt (Mine.A4 ‹_›) | exact Nat.ne_of_gt (Mine.A4 ‹_›) | exact Mine.A4 ‹_› | exact Ne.symm (Mine.A4 ‹_›) | exact Nat.ne_of_lt (Mine.A5 ‹_›) | exact Nat.ne_of_gt (Mine.A5 ‹_›) | exact Mine.A5 ‹_› | exact Ne.symm (Mine.A5 ‹_›) | exact Nat.ne_of_lt (Mine.A6 ‹_›) | exact Nat.ne_of_gt (Mine.A6 ‹_›) | exact Mine.A6 ‹_› | exact Ne.symm (Mine.A6 ‹_›) | exact Nat.ne_of_lt (Mine.A7 ‹_›) | exact Nat.ne_of_gt (Mine.A7 ‹_›) | exact Mine.A7 ‹_› | exact Ne.symm (Mine.A7 ‹_›) | exact Nat.ne_of_lt (Mine.A8 ‹_›) | exact Nat.ne_of_gt (Mine.A8 ‹_›) | exact Mine.A8 ‹_› | exact Ne.symm (Mine.A8 ‹_›) | exact Nat.ne_of_lt (Mine.A9 ‹_›) | exact Nat.ne_of_gt (Mine.A9 ‹_›) | exact Mine.A9 ‹_› | exact Ne.symm (Mine.A9 ‹_›) | exact Nat.ne_of_lt (Mine.A10 ‹_›) | exact Nat.ne_of_gt (Mine.A10 ‹_›) | exact Mine.A10 ‹_› | exact Ne.symm (Mine.A10 ‹_›) | decide | omega)
  k_with "getMethod ref" => ((k_here; k_dflt (refine' Mine.accK_method ?k1Zc ?k2Zc ?k3Zc ?k4Zc ?k5Zc ?k6Zc ?k7Zc ?k8Zc ?k9Zc ?k10Zc ?k11Zc ?_; (case k1Zc => k_asm); (case k2Zc => k_asm); (case k3Zc => k_asm); (case k4Zc => k_mem); (case k5Zc => k_mem); (case k6Zc => k_is); (case k7Zc => k_is); (case k8Zc => k_is); (case k9Zc => k_is); (case k10Zc => decide); (case k11Zc => k_get); k_whole)))
  k_with "call builtin:list.append" => ((k_here; (with_reducible show wpAny _ _ (call (Value.builtin _) [Value.ref _, _]) _ _ _); k_dflt (refine' Mine.accK_append ?k1Zc ?k2Zc ?k3Zc ?k4Zc ?k5Zc ?k6Zc ?_ ?zZc; (case k1Zc => k_asm); (case k2Zc => k_asm); (case k3Zc => k_asm); (case k6Zc => k_upd); (case k4Zc => k_mem); (case k5Zc => k_is); (case zZc => first | size_fits | (rw [sizeLine_eq]; omega)); k_whole); intro hqZn FqZn NqZn; (try k_sweep)))
  k_with "getAttr ref" => ((k_here; k_dflt (refine' Mine.accK_get ?k1Zc ?k2Zc ?k3Zc ?k4Zc ?k5Zc ?k6Zc ?k7Zc ?k8Zc ?k9Zc ?k10Zc ?k11Zc ?k12Zc ?k13Zc ?_; (case k1Zc => k_asm); (case k2Zc => k_asm); (case k3Zc => k_asm); (case k4Zc => k_mem); (case k5Zc => k_mem); (case k6Zc => k_is); (case k7Zc => k_is); (case k8Zc => k_is); (case k9Zc => k_is); (case k10Zc => k_is); (case k11Zc => k_is); (case k12Zc => k_get); (case k13Zc => k_handed); k_whole)))
  k_with "setAttr ref" => ((k_here; k_dflt (refine' Mine.accK_set ?k1Zc ?k2Zc ?k3Zc ?k4Zc ?k5Zc ?k6Zc ?k7Zc ?k8Zc ?k9Zc ?k10Zc ?k11Zc ?k12Zc ?k13Zc ?k14Zc ?_; (case k1Zc => k_asm); (case k2Zc => k_asm); (case k3Zc => k_asm); (case k4Zc => k_mem); (case k5Zc => k_mem); (case k6Zc => k_is); (case k7Zc => k_is); (case k8Zc => rfl); (case k9Zc => rfl); (case k10Zc => k_is); (case k11Zc => k_get); (case k12Zc => k_put); (case k13Zc => k_upd); (case k14Zc => exact Nat.le_of_ble_eq_true rfl); k_whole); intro hqZn FqZn NqZn; (try k_sweep)))
  k_with "call builtin:len" => ((k_here; (with_reducible show wpAny _ _ (call (Value.builtin "len") [Value.ref _]) _ _ _); k_dflt (refine' Mine.accK_len ?k1Zc ?k2Zc ?k3Zc ?k4Zc ?k5Zc ?k6Zc ?k7Zc ?_; (case k1Zc => k_asm); (case k2Zc => k_asm); (case k3Zc => k_asm); (case k4Zc => k_mem); (case k5Zc => k_mem); (case k6Zc => k_is); (case k7Zc => k_is); k_whole)))
  k_with "subscriptTail" => ((k_here; (with_reducible show wpAny _ _ (subscriptTail _ _ (Value.ref _) (Value.ref _)) _ _ _); k_dflt (refine' Mine.accK_slice ?k1Zc ?k2Zc ?k3Zc ?k4Zc ?k5Zc ?k6Zc ?k7Zc ?k8Zc ?k9Zc ?k10Zc ?k11Zc ?zZc ?_ ?k12Zc; (case k1Zc => k_asm); (case k2Zc => k_asm); (case k3Zc => k_asm); (case k4Zc => k_mem); (case k5Zc => k_mem); (case k6Zc => k_is); (case k7Zc => k_is); (case k8Zc => k_is); (case k9Zc => first | exact .none | exact .int _ _); (case k10Zc => first | exact .none | exact .int _ _); (case k11Zc => exact Mine.accPick _ _); (case zZc => first | size_fits | (rw [sizeLine_eq]; omega)); (case k12Zc => intro slZn; with_unfolding_all rfl); k_whole); intro lqZn hqZn FqZn NqZn l1Zn; (try k_lt l1Zn); (try k_sweep)))
  k_with "setItem ref" => ((k_here; (with_reducible show wpAny _ _ (setItem (Value.ref _) (Value.ref _) (Value.ref _)) _ _ _); k_dflt (refine' Mine.accK_setSlice ?k1Zc ?k2Zc ?k3Zc ?k4Zc ?k5Zc ?k6Zc ?k7Zc ?k8Zc ?k10Zc ?k11Zc ?k12Zc ?k13Zc ?k14Zc ?zZc ?_; (case k1Zc => k_asm); (case k2Zc => k_asm); (case k3Zc => k_asm); (case k4Zc => k_mem); (case k5Zc => k_mem); (case k6Zc => k_is); (case k7Zc => k_is); (case k8Zc => k_is); (case k10Zc => k_mem); (case k11Zc => first | exact .none | exact .int _ _); (case k12Zc => first | exact .none | exact .int _ _); (case k13Zc => first | exact Mine.accB_all _ _ | exact Mine.accB_del _ _ (by assumption)); (case k14Zc => k_upd); (case zZc => first | size_fits | (simp only [List.length_nil, List.length_cons]; rw [sizeLine_eq]; omega)); k_whole); intro hqZn FqZn NqZn; (try k_sweep)))
  k_with "subscriptTail" => ((k_here; (with_reducible show wpAny _ _ (subscriptTail _ _ (Value.ref _) (Value.int _ _)) _ _ _); k_dflt (refine' Mine.accK_item ?k1Zc ?k2Zc ?k3Zc ?k4Zc ?k5Zc ?k6Zc ?k7Zc ?k8Zc ?k9Zc ?k10Zc ?k11Zc ?_ ?k12Zc; (case k1Zc => k_asm); (case k2Zc => k_asm); (case k3Zc => k_asm); (case k4Zc => k_mem); (case k5Zc => k_mem); (case k6Zc => k_is); (case k7Zc => k_is); (case k8Zc => k_is); (case k9Zc => omega); (case k10Zc => omega); (case k11Zc => first | assumption | rfl); (case k12Zc => with_unfolding_all rfl); k_whole)))
  k_with "mine enter" => ((refine' code_def ?k1Zc ?k2Zc ?k3Zc ?k4Zc ?k5Zc ?kAZc ?kFZc ?kKZc ?k6Zc ?k7Zc ?k8Zc ?k9Zc ?kBZc ?_ ?c2Zc ?c3Zc ?c4Zc ?c5Zc; (case kAZc => exact rfl); (case kFZc => exact rfl); (case kKZc => assumption); (case k1Zc => k_asm); (case k2Zc => k_asm); (case k3Zc => k_asm); (case k4Zc => k_asm); (case k5Zc => k_asm); (case k6Zc => k_is); (case k7Zc => k_is); (case k8Zc => ktr_room); (case k9Zc => first | exact BindsTo.of_eq rfl | exact binds_K (by k_in) rfl (by k_is) rfl rfl rfl); (case c5Zc => decide); (case kBZc => exact locs rfl); (case c2Zc => exact rfl); (case c3Zc => exact rfl); (case c4Zc => exact rfl); k_whole; intro gqZn LqZn hqZn FGqZn FqZn NqZn BqZn XqZn TqZn; (try dsimp only); (try k_lift BqZn); (try k_fold)))
  k_with "mine sub" => (first | exact fun _ h => h | (refine' List.forall_mem_cons.mpr ⟨?maZc, ?mbZc⟩; (case maZc => k_mem); (case mbZc => walk_at "mine sub")) | (intro pZn hpZn; (repeat' first | exact hpZn | apply List.Mem.tail)))
  k_with "mine news" => (first | k_asm | (refine' cb_drop ?cbNZc ?cbSZc; (case cbNZc => assumption); (case cbSZc => walk_at "mine sub")))
  k_with "mine senter" => ((refine' ks_code_super ?k1Zc ?k2Zc ?k3Zc ?k4Zc ?k5Zc ?kAZc ?kFZc ?kKZc ?k6Zc ?k7Zc ?k8Zc ?k9Zc ?kBZc ?_ ?c1Zc ?c2Zc ?c3Zc ?c4Zc; (case kAZc => exact rfl); (case kFZc => exact rfl); (case kKZc => assumption); (case k1Zc => k_asm); (case k2Zc => k_asm); (case k3Zc => k_asm); (case k4Zc => k_asm); (case k5Zc => k_asm); (case k6Zc => k_is); (case k7Zc => k_is); (case k8Zc => ktr_room); (case k9Zc => first | exact BindsTo.of_eq rfl | exact binds_K (by k_in) rfl (by k_is) rfl rfl rfl); (case kBZc => exact locs rfl); (case c1Zc => decide); (case c2Zc => exact rfl); (case c3Zc => exact rfl); (case c4Zc => exact rfl); intro gqZn LqZn hqZn FGqZn FqZn NqZn BqZn XqZn TqZn l1Zn; (try k_lt l1Zn); (try dsimp only); (try k_lift BqZn)))
  k_with "wpAt" => ((ks_step "attributeBase Call"; k_here; k_dflt (refine ks_node (by k_asm) (by k_asm) (by k_asm) (by k_asm) (by k_is) (by rfl) (by rfl) (Mine.accI (by k_asm) (by k_mem) (by k_mem)) (by k_is) (by rfl) (by first | rfl | decide +kernel) (by k_is) (by k_is) (by k_is) (by k_is) (by decide) (by rfl) (by rfl) (by rfl) (by rfl) (by decide +kernel) (by first | boot_by_name | rfl | kernel_rfl) ?_; intro soqZn hqZn FqZn NqZn l1Zn; (try k_lt l1Zn))))
  k_with "getMethod ref" => ((k_here; k_dflt (first | ((with_reducible show wpAny _ _ (getMethod (Value.ref _) (PySem.Str.ofString "pop") _) _ _ _); refine' Mine.accK_supPop ?k1Zc ?k2Zc ?k3Zc ?k4Zc ?k5Zc ?k6Zc ?k7Zc ?k8Zc ?k9Zc ?k10Zc ?_; (case k1Zc => k_asm); (case k2Zc => k_asm); (case k3Zc => k_asm); (case k4Zc => k_mem); (case k5Zc => k_mem); (case k6Zc => k_mem); (case k7Zc => k_is); (case k8Zc => k_is); (case k9Zc => ks_is); (case k10Zc => k_is); intro qqZn hqZn FqZn NqZn l1Zn; (try k_lt l1Zn)) | ((with_reducible show wpAny _ _ (getMethod (Value.ref _) (PySem.Str.ofString "__len__") _) _ _ _); refine' Mine.accK_supLen ?k1Zc ?k2Zc ?k3Zc ?k4Zc ?k5Zc ?k6Zc ?k7Zc ?k8Zc ?k9Zc ?k10Zc ?_; (case k1Zc => k_asm); (case k2Zc => k_asm); (case k3Zc => k_asm); (case k4Zc => k_mem); (case k5Zc => k_mem); (case k6Zc => k_mem); (case k7Zc => k_is); (case k8Zc => k_is); (case k9Zc => ks_is); (case k10Zc => k_is); intro qqZn hqZn FqZn NqZn l1Zn; (try k_lt l1Zn)) | ((with_reducible show wpAny _ _ (getMethod (Value.ref _) (PySem.Str.ofString "__init__") _) _ _ _); refine' Mine.accK_supInit ?k1Zc ?k2Zc ?k3Zc ?k4Zc ?k5Zc ?k6Zc ?k7Zc ?k8Zc ?k9Zc ?k10Zc ?_; (case k1Zc => k_asm); (case k2Zc => k_asm); (case k3Zc => k_asm); (case k4Zc => k_mem); (case k5Zc => k_mem); (case k6Zc => k_mem); (case k7Zc => k_is); (case k8Zc => k_is); (case k9Zc => ks_is); (case k10Zc => k_is); intro qqZn hqZn FqZn NqZn l1Zn; (try k_lt l1Zn)))))
  k_with "callWith ref" => ((k_here; (with_reducible show wpAny _ _ (callWith _ (Value.ref _) [] (backTo _ (starEach [] _)) []) _ _ _); k_dflt (first | (refine' Mine.callLen ?k1Zc ?k2Zc ?k3Zc ?_; (case k1Zc => k_asm); (case k2Zc => k_mem); (case k3Zc => k_mem); k_whole) | (refine' Mine.callInit ?k0Zc ?k1Zc ?k2Zc ?k3Zc ?k4Zc ?_; (case k0Zc => k_asm); (case k1Zc => k_asm); (case k2Zc => k_mem); (case k3Zc => k_upd); (case k4Zc => first | size_fits | (rw [sizeLine_eq]; omega) | (rw [sizeLine_eq]; exact Nat.le_of_ble_eq_true rfl)); k_whole; intro hqZn FqZn NqZn; (try k_sweep)) | (refine' Mine.callPop ?k0Zc ?kXZc ?k1Zc ?k2Zc ?k3Zc ?k4Zc ?k5Zc ?k6Zc ?k7Zc ?k8Zc ?k9Zc ?k10Zc ?_; (case k0Zc => k_asm); (case kXZc => k_asm); (case k1Zc => k_asm); (case k2Zc => k_mem); (case k8Zc => first | assumption | rfl); (case k9Zc => k_upd); (case k3Zc => k_mem); (case k4Zc => k_is); (case k5Zc => k_is); (case k6Zc => rfl); (case k7Zc => k_is); (case k10Zc => rw [sizeLine_eq]; simp at *; omega); k_whole; intro hqZn FqZn NqZn; (try k_sweep)))))
  k_with "wpAt" => ((dsimp only; ks_step "execs cons"; refine ks_wpAt_execs_cons ?_))
  k_with "wpAt" => ((ks_step "eval Call"; k_dflt (refine ks_wpAt_MethodCall ?_)))
  k_with "mine os" => (first | rfl | assumption | (simp only [*]; done))
  k_with "wpAt" => ((ks_step "exec Expr"; k_dflt (refine ks_wpAt_Expr_any ?_)))
  k_with "mine upto" => (repeat' ((fail_if_success (with_reducible show wpAny _ _ (exec (Stmt.For _ _ _ _ _) _) _ _ _)); first | (k_unfold; (try dsimp only)) | (k_end; wrow_close) | walk1 | (dsimp only; walk1) | (leave1; try dsimp only)))
  k_with "mine parts" => (repeat' (first | assumption | apply Mine.Parts.tail))
  k_with "mine bare" => (first | assumption | (simp only [*]; done))
  k_with "call ref" => ((k_here; (with_reducible show wpAny _ _ (call (Value.ref 175) _) _ _ _); k_dflt (refine' Mine.use_count ?k1Zc ?k2Zc ?k3Zc ?k4Zc ?k5Zc ?k6Zc ?k7Zc ?k8Zc ?k9Zc ?k10Zc ?_; (case k1Zc => k_asm); (case k2Zc => k_asm); (case k3Zc => k_asm); (case k4Zc => k_asm); (case k5Zc => k_asm); (case k6Zc => first | exact rfl | assumption); (case k7Zc => ktr_room); (case k8Zc => ktr_units); (case k9Zc => k_mem); (case k10Zc => k_mem); k_whole; intro sqZn tqZn FqZn NqZn gqZn oqZn)))
  k_with "call ref" => ((k_here; (with_reducible show wpAny _ _ (call (Value.ref 122) _) _ _ _); k_dflt (refine' Mine.use_push ?k1Zc ?k2Zc ?k3Zc ?k4Zc ?k5Zc ?k6Zc ?k7Zc ?k8Zc ?k9Zc ?k10Zc ?k11Zc ?k12Zc ?_; (case k1Zc => k_asm); (case k2Zc => k_asm); (case k3Zc => k_asm); (case k4Zc => k_asm); (case k5Zc => k_asm); (case k6Zc => first | exact rfl | assumption); (case k7Zc => ktr_room); (case k8Zc => ktr_units); (case k12Zc => intro oqZn; k_upd); (case k9Zc => k_mem); (case k10Zc => assumption); (case k11Zc => walk_at "mine size"); k_whole; intro sqZn tqZn FqZn NqZn gqZn oqZn lqZn; (try k_lt lqZn))))
  k_with "call ref" => ((k_here; (with_reducible show wpAny _ _ (call (Value.ref 130) _) _ _ _); k_dflt (refine' Mine.use_pop_from ?k1Zc ?k2Zc ?k3Zc ?k4Zc ?k5Zc ?k6Zc ?k7Zc ?k8Zc ?k9Zc ?k10Zc ?k11Zc ?k12Zc ?k13Zc ?_; (case k1Zc => k_asm); (case k2Zc => k_asm); (case k3Zc => k_asm); (case k4Zc => k_asm); (case k5Zc => k_asm); (case k6Zc => first | exact rfl | assumption); (case k7Zc => ktr_room); (case k8Zc => ktr_units); (case k13Zc => intro oqZn; k_upd); (case k9Zc => k_mem); (case k10Zc => assumption); (case k11Zc => walk_at "mine size"); (case k12Zc => walk_at "mine size"); k_whole; intro sqZn tqZn nqZn FqZn NqZn gqZn oqZn lqZn; (try k_lt lqZn))))
  k_with "call ref" => ((k_here; (with_reducible show wpAny _ _ (call (Value.ref 138) _) _ _ _); k_dflt (refine' Mine.use_pop ?k1Zc ?k2Zc ?k3Zc ?k4Zc ?k5Zc ?k6Zc ?k7Zc ?k8Zc ?k9Zc ?k10Zc ?k11Zc ?k12Zc ?k13Zc ?_; (case k1Zc => k_asm); (case k2Zc => k_asm); (case k3Zc => k_asm); (case k4Zc => k_asm); (case k5Zc => k_asm); (case k6Zc => first | exact rfl | assumption); (case k7Zc => ktr_room); (case k8Zc => ktr_units); (case k13Zc => intro oqZn; k_upd); (case k9Zc => k_mem); (case k10Zc => assumption); (case k12Zc => first | assumption | walk_at "mine last"); (case k11Zc => walk_at "mine size"); k_whole; intro sqZn FqZn NqZn gqZn oqZn)))
  k_with "call ref" => ((k_here; (with_reducible show wpAny _ _ (call (Value.ref 160) _) _ _ _); k_dflt (refine' Mine.use_reset0 ?k1Zc ?k2Zc ?k3Zc ?k4Zc ?k5Zc ?k6Zc ?k7Zc ?k8Zc ?k9Zc ?k10Zc ?k11Zc ?k12Zc ?k13Zc ?_; (case k1Zc => k_asm); (case k2Zc => k_asm); (case k3Zc => k_asm); (case k4Zc => k_asm); (case k5Zc => k_asm); (case k6Zc => first | exact rfl | assumption); (case k7Zc => ktr_room); (case k8Zc => ktr_units); (case k12Zc => intro oqZn; k_upd); (case k13Zc => intro o1Zn oqZn; k_upd); (case k11Zc => k_mem); (case k9Zc => assumption); (case k10Zc => walk_at "mine size"); k_whole; intro sqZn t1qZn t2qZn nqZn FqZn NqZn gqZn oqZn)))
  k_with "call ref" => ((k_here; (with_reducible show wpAny _ _ (call (Value.ref 160) _) _ _ _); k_dflt (refine' Mine.use_reset ?k1Zc ?k2Zc ?k3Zc ?k4Zc ?k5Zc ?k6Zc ?k7Zc ?k8Zc ?k9Zc ?k9bZc ?k9cZc ?k10Zc ?k11Zc ?k11bZc ?k12Zc ?k13Zc ?_; (case k1Zc => k_asm); (case k2Zc => k_asm); (case k3Zc => k_asm); (case k4Zc => k_asm); (case k5Zc => k_asm); (case k6Zc => first | exact rfl | assumption); (case k7Zc => ktr_room); (case k8Zc => ktr_units); (case k12Zc => intro oqZn; k_upd); (case k13Zc => intro o1Zn oqZn; k_upd); (case k11Zc => k_mem); (case k11bZc => k_mem); (case k9Zc => first | assumption | omega); (case k9bZc => first | assumption | omega); (case k9cZc => first | assumption | omega); (case k10Zc => walk_at "mine size"); k_whole; intro sqZn t1qZn t2qZn nqZn FqZn NqZn gqZn oqZn)))
  k_with "truthy ref" => ((k_here; k_dflt (refine' Mine.acc_truthy ?k1Zc ?k2Zc ?k3Zc ?k4Zc ?k5Zc ?k6Zc ?k7Zc ?k8Zc ?k9Zc ?k10Zc ?k11Zc ?k12Zc ?k13Zc ?k14Zc ?k15Zc ?k16Zc ?k17Zc ?k18Zc ?_; (case k1Zc => k_asm); (case k2Zc => k_asm); (case k3Zc => k_asm); (case k4Zc => k_asm); (case k5Zc => k_asm); (case k6Zc => first | exact rfl | assumption); (case k7Zc => ktr_room); (case k8Zc => ktr_units); (case k11Zc => intro oqZn; k_upd); (case k9Zc => k_mem); (case k10Zc => k_mem); (case k12Zc => walk_at "mine parts"); (case k13Zc => assumption); (case k14Zc => assumption); (case k15Zc => walk_at "mine bare"); (case k16Zc => k_is); (case k17Zc => k_is); (case k18Zc => k_is); k_whole; intro sqZn moreqZn FqZn NqZn trqZn GqZn oqZn)))
  k_with "call builtin:len" => ((k_here; (with_reducible show wpAny _ _ (call (Value.builtin "len") [Value.ref _]) _ _ _); k_dflt (refine' Mine.acc_lenb ?k1Zc ?k2Zc ?k3Zc ?k4Zc ?k5Zc ?k6Zc ?k7Zc ?k8Zc ?k9Zc ?k10Zc ?k11Zc ?k12Zc ?k13Zc ?k14Zc ?k15Zc ?k17Zc ?k18Zc ?_; (case k1Zc => k_asm); (case k2Zc => k_asm); (case k3Zc => k_asm); (case k4Zc => k_asm); (case k5Zc => k_asm); (case k6Zc => first | exact rfl | assumption); (case k7Zc => ktr_room); (case k8Zc => ktr_units); (case k11Zc => intro oqZn; k_upd); (case k9Zc => k_mem); (case k10Zc => k_mem); (case k12Zc => walk_at "mine parts"); (case k13Zc => assumption); (case k14Zc => assumption); (case k15Zc => walk_at "mine bare"); (case k17Zc => k_is); (case k18Zc => k_is); k_whole; intro sqZn tqZn moreqZn FqZn NqZn trqZn GqZn oqZn)))
  k_with "call type:str" => ((k_here; (with_reducible show wpAny _ _ (call (Value.type "str") [Value.ref _]) _ _ _); k_dflt (refine' Mine.acc_strc ?k1Zc ?k2Zc ?k3Zc ?k4Zc ?k5Zc ?k6Zc ?k7Zc ?k8Zc ?k9Zc ?k10Zc ?k11Zc ?k12Zc ?k13Zc ?k14Zc ?k15Zc ?k17Zc ?k18Zc ?_; (case k1Zc => k_asm); (case k2Zc => k_asm); (case k3Zc => k_asm); (case k4Zc => k_asm); (case k5Zc => k_asm); (case k6Zc => first | exact rfl | assumption); (case k7Zc => ktr_room); (case k8Zc => ktr_units); (case k11Zc => intro oqZn; k_upd); (case k9Zc => k_mem); (case k10Zc => k_mem); (case k12Zc => walk_at "mine parts"); (case k13Zc => assumption); (case k14Zc => assumption); (case k15Zc => walk_at "mine bare"); (case k17Zc => k_is); (case k18Zc => k_is); k_whole; intro sqZn tqZn moreqZn FqZn NqZn trqZn GqZn oqZn)))
  k_with "mine size" => (first | assumption | omega | (simp only [List.length_append, List.length_cons, List.length_nil, List.length_map] at *; omega))
  k_with "call ref" => ((k_here; (with_reducible show wpAny _ _ (call (Value.ref 178) _) _ _ _); k_dflt (refine' Mine.con_acc ?k1Zc ?k2Zc ?k3Zc ?k4Zc ?k5Zc ?k6Zc ?k7Zc ?k8Zc ?_; (case k1Zc => k_asm); (case k2Zc => k_asm); (case k3Zc => k_asm); (case k4Zc => k_asm); (case k5Zc => k_asm); (case k6Zc => first | exact rfl | assumption); (case k7Zc => ktr_room); (case k8Zc => ktr_units); k_whole; intro sqZn xqZn dxqZn t1qZn t2qZn nqZn FqZn NqZn gqZn oqZn l1Zn l2Zn; (try k_lt l1Zn); (try k_lt2 l2Zn))))
  k_with "mine ne" => (first | assumption | omega)
  k_with "mine parts" => (first | (refine Mine.Parts.snoc ?_ (by k_mem); walk_at "mine parts") | exact Mine.Parts.one (by k_mem) | exact Mine.Parts.nil | (repeat' (first | assumption | apply Mine.Parts.tail)))
  k_with "mine fine" => (first | assumption | (simp only [List.append_nil, List.nil_append, List.append_assoc, List.cons_append] at *; assumption))
  k_with "call ref" => ((k_here; (with_reducible show wpAny _ _ (call (Value.ref 122) _) _ _ _); k_dflt (refine' Mine.use_pushP ?k1Zc ?k2Zc ?k3Zc ?k4Zc ?k5Zc ?k6Zc ?k7Zc ?k8Zc ?k9Zc ?k10Zc ?k11Zc ?k12Zc ?k13Zc ?k14Zc ?k15Zc ?_; (case k1Zc => k_asm); (case k2Zc => k_asm); (case k3Zc => k_asm); (case k4Zc => k_asm); (case k5Zc => k_asm); (case k6Zc => first | exact rfl | assumption); (case k7Zc => ktr_room); (case k8Zc => ktr_units); (case k15Zc => intro oqZn; k_upd); (case k9Zc => k_mem); (case k10Zc => walk_at "mine ne"); (case k11Zc => walk_at "mine fine"); (case k12Zc => walk_at "mine size"); (case k13Zc => walk_at "mine size"); (case k14Zc => k_mem); k_whole; intro sqZn tqZn FqZn NqZn fiqZn gqZn oqZn lqZn; (try k_lt lqZn))))
  k_with "call ref" => ((k_here; (with_reducible show wpAny _ _ (call (Value.ref 138) _) _ _ _); k_dflt (refine' Mine.use_popP ?k1Zc ?k2Zc ?k3Zc ?k4Zc ?k5Zc ?k6Zc ?k7Zc ?k8Zc ?k9Zc ?k10Zc ?k11Zc ?k12Zc ?_; (case k1Zc => k_asm); (case k2Zc => k_asm); (case k3Zc => k_asm); (case k4Zc => k_asm); (case k5Zc => k_asm); (case k6Zc => first | exact rfl | assumption); (case k7Zc => ktr_room); (case k8Zc => ktr_units); (case k12Zc => intro oqZn; k_upd); (case k9Zc => k_mem); (case k10Zc => walk_at "mine ne"); (case k11Zc => walk_at "mine fine"); k_whole; intro sqZn FqZn NqZn gqZn oqZn)))
  k_with "call ref" => ((k_here; (with_reducible show wpAny _ _ (call (Value.ref 130) _) _ _ _); k_dflt (refine' Mine.use_pop_fromP ?k1Zc ?k2Zc ?k3Zc ?k4Zc ?k5Zc ?k6Zc ?k7Zc ?k8Zc ?k9Zc ?k10Zc ?k11Zc ?k12Zc ?k13Zc ?_; (case k1Zc => k_asm); (case k2Zc => k_asm); (case k3Zc => k_asm); (case k4Zc => k_asm); (case k5Zc => k_asm); (case k6Zc => first | exact rfl | assumption); (case k7Zc => ktr_room); (case k8Zc => ktr_units); (case k13Zc => intro oqZn; k_upd); (case k9Zc => k_mem); (case k10Zc => walk_at "mine ne"); (case k11Zc => walk_at "mine fine"); (case k12Zc => walk_at "mine size"); k_whole; intro sqZn tqZn nqZn FqZn NqZn gqZn oqZn lqZn; (try k_lt lqZn))))
  k_with "call ref" => ((k_here; (with_reducible show wpAny _ _ (call (Value.ref 160) _) _ _ _); k_dflt (refine' Mine.use_resetP ?k1Zc ?k2Zc ?k3Zc ?k4Zc ?k5Zc ?k6Zc ?k7Zc ?k8Zc ?k9Zc ?k9bZc ?k9cZc ?k10Zc ?k11Zc ?k11bZc ?k12Zc ?k13Zc ?_; (case k1Zc => k_asm); (case k2Zc => k_asm); (case k3Zc => k_asm); (case k4Zc => k_asm); (case k5Zc => k_asm); (case k6Zc => first | exact rfl | assumption); (case k7Zc => ktr_room); (case k8Zc => ktr_units); (case k12Zc => intro oqZn; k_upd); (case k13Zc => intro o1Zn oqZn; k_upd); (case k11Zc => k_mem); (case k11bZc => k_mem); (case k9Zc => walk_at "mine ne"); (case k9bZc => walk_at "mine ne"); (case k9cZc => walk_at "mine ne"); (case k10Zc => walk_at "mine fine"); k_whole; intro sqZn t1qZn t2qZn nqZn FqZn NqZn gqZn oqZn)))
  trivial
theorem Mine.rstP15 : True := by w_top off; trivial
namespace Mine
structure Offs (fd f ll dx x : Addr) (rest : List (Addr × Obj)) : Prop where
  o1 : @LT.lt Nat _ 147 fd
  o2 : @LT.lt Nat _ fd f
  o3 : @LT.lt Nat _ f ll
  o4 : @LT.lt Nat _ ll dx
  o5 : @LT.lt Nat _ dx x
  r1 : ∀ p ∈ rest, p.1 ≠ 140
  r2 : ∀ p ∈ rest, p.1 ≠ 147
  r3 : ∀ p ∈ rest, p.1 ≠ fd
  r4 : ∀ p ∈ rest, p.1 ≠ f
  r5 : ∀ p ∈ rest, p.1 ≠ ll
  r6 : ∀ p ∈ rest, p.1 ≠ dx
  r7 : ∀ p ∈ rest, p.1 ≠ x
theorem Offs.more {fd f ll dx x : Addr} {rest : List (Addr × Obj)} (O : Offs fd f ll dx x rest) : @LT.lt Nat _ 140 fd ∧ @LT.lt Nat _ 140 f ∧ @LT.lt Nat _ 140 ll ∧ @LT.lt Nat _ 140 dx ∧ @LT.lt Nat _ 140 x ∧ @LT.lt Nat _ 147 f ∧ @LT.lt Nat _ 147 ll ∧ @LT.lt Nat _ 147 dx ∧ @LT.lt Nat _ 147 x ∧ @LT.lt Nat _ fd ll ∧ @LT.lt Nat _ fd dx ∧ @LT.lt Nat _ fd x ∧ @LT.lt Nat _ f dx ∧ @LT.lt Nat _ f x ∧ @LT.lt Nat _ ll x := by
  obtain ⟨o1, o2, o3, o4, o5, _, _, _, _, _, _, _⟩ := O
  have z02 : @LT.lt Nat _ 140 fd := Nat.lt_trans (by decide) o1
  have z13 : @LT.lt Nat _ 147 f := Nat.lt_trans o1 o2
  have z24 : @LT.lt Nat _ fd ll := Nat.lt_trans o2 o3
  have z35 : @LT.lt Nat _ f dx := Nat.lt_trans o3 o4
  have z46 : @LT.lt Nat _ ll x := Nat.lt_trans o4 o5
  have z03 : @LT.lt Nat _ 140 f := Nat.lt_trans z02 o2
  have z14 : @LT.lt Nat _ 147 ll := Nat.lt_trans z13 o3
  have z25 : @LT.lt Nat _ fd dx := Nat.lt_trans z24 o4
  have z36 : @LT.lt Nat _ f x := Nat.lt_trans z35 o5
  have z04 : @LT.lt Nat _ 140 ll := Nat.lt_trans z03 o3
  have z15 : @LT.lt Nat _ 147 dx := Nat.lt_trans z14 o4
  have z26 : @LT.lt Nat _ fd x := Nat.lt_trans z25 o5
  have z05 : @LT.lt Nat _ 140 dx := Nat.lt_trans z04 o4
  have z16 : @LT.lt Nat _ 147 x := Nat.lt_trans z15 o5
  have z06 : @LT.lt Nat _ 140 x := Nat.lt_trans z05 o5
  exact ⟨z02, z03, z04, z05, z06, z13, z14, z15, z16, z24, z25, z26, z35, z36, z46⟩
theorem con_chunkA {x dx f fd ll : Addr} {ws : List (Addr × Str)} {n c : Nat} {width : Int} {lines : Array Value} {t1 t2 tf tz : Tok} {v : VT} {z : Str} {ps qs : Array Value} {p : Program} {loose : List Str} {mean : ExcName → Option Value} {mg mb : Str → Option Value} {w : World} {dp un : Nat} {gd : Option (List Code)} {cn : Str} {cs : Scope} {ca : Addr} {ccd : Value} {cl : List (Str × Addr)} {outer : List Env} {A₀ : Around} {base h₀ : Heap} {L : Addr} {m : Str → Option Value} {s : Shared} {Q E : Value → Shared → Prop} {rest : List (Addr × Obj)}
  (B : Below A₀ base outer h₀) (F : Fr h₀ L s.heap m) (X : (hd.heap_1 w.params).In h₀) (N : News h₀ L s.heap ((x, accO dx (refs ws) n) :: (dx, dictOf (accE w t1 t2) 1) :: (ll, W.listOf lines c) :: (f, instObj 94 fd) :: (fd, dictOf (vfE w width ll x v) 6) :: (140, tabO ps) :: (147, tabO qs) :: rest)) (T : Top p loose mean mg mb h₀) (hk : cs.kind = .function) (hd' : dp + 5 < recursionLimit) (hu : un + 8 * 8 < cLine)
  (O : Offs fd f ll dx x rest) (hws : Parts ws rest) (hf : Fine ws) (hn : ws.length < 900) (hz : z.length ≤ 1000) (htr : TriplesOk ps.toList) (htr2 : TriplesOk qs.toList) (G : AllBare s.gens)
  (hfit : ∀ t : Addr, partsLen (ws ++ [(t, z)]) ≤ width)
  (ret : ∀ s' t more n', Fr h₀ L s'.heap m → News h₀ L s'.heap ((t, tupO (.str (Str.ofString "") tf) (.str z tz)) :: (x, accO dx (refs (ws ++ [(t, z)])) n') :: (dx, dictOf (accE w t1 t2) 1) :: (ll, W.listOf lines c) :: (f, instObj 94 fd) :: (fd, dictOf (vfE w width ll x v) 6) :: (140, tabO (ps ++ more)) :: (147, tabO qs) :: rest) → Fine (ws ++ [(t, z)]) → TriplesOk (ps ++ more).toList → AllBare s'.gens → s'.os = s.os → (∀ p ∈ rest, @LT.lt Nat _ p.1 t) → @LT.lt Nat _ x t → Q .none s') :
  wpAny (model Challenge.rw_wo0053_01.row.prog w) (ktrTop dp un gd cn cs L ca ccd cl outer) (call (.ref 91) [.ref f, .str (Str.ofString "") tf, .str z tz]) Q E s := by
  obtain ⟨_, _, _, _, _, _, _, _, _, _, _, _, _, _, _⟩ := O.more
  obtain ⟨o1, o2, o3, o4, o5, r1, r2, r3, r4, r5, r6, r7⟩ := O
  revert X; k_fill; intro X
  refine wpAny_call ?_
  k_dflt (walk_at "mine enter")
  k_steps
  · rename width < _ => hw
    exact absurd hw (Int.not_lt.mpr (hfit _))
  · rename News h₀ _ _ _ => kN9
    exact ret _ _ _ _ (by k_asm) kN9 (by assumption) (by assumption) (by walk_at "mine bare") (by walk_at "mine os") (lt_all (by simp only [*])) (by omega)
end Mine

theorem Mine.rstP16 : True := by w_top off; trivial
namespace Mine
theorem con_chunk0 {x dx f fd ll : Addr} {n c : Nat} {width : Int} {lines : Array Value} {t1 t2 tf tz : Tok} {v : VT} {z : Str} {ps qs : Array Value} {p : Program} {loose : List Str} {mean : ExcName → Option Value} {mg mb : Str → Option Value} {w : World} {dp un : Nat} {gd : Option (List Code)} {cn : Str} {cs : Scope} {ca : Addr} {ccd : Value} {cl : List (Str × Addr)} {outer : List Env} {A₀ : Around} {base h₀ : Heap} {L : Addr} {m : Str → Option Value} {s : Shared} {Q E : Value → Shared → Prop} {rest : List (Addr × Obj)}
  (B : Below A₀ base outer h₀) (F : Fr h₀ L s.heap m) (X : (hd.heap_1 w.params).In h₀) (N : News h₀ L s.heap ((x, accO dx (refs []) n) :: (dx, dictOf (accE w t1 t2) 1) :: (ll, W.listOf lines c) :: (f, instObj 94 fd) :: (fd, dictOf (vfE w width ll x v) 6) :: (140, tabO ps) :: (147, tabO qs) :: rest)) (T : Top p loose mean mg mb h₀) (hk : cs.kind = .function) (hd' : dp + 5 < recursionLimit) (hu : un + 8 * 8 < cLine)
  (O : Offs fd f ll dx x rest) (hz : z.length ≤ 1000) (htr : TriplesOk ps.toList) (htr2 : TriplesOk qs.toList) (G : AllBare s.gens) (hf : Fine [])
  (hfit : ∀ t : Addr, width < partsLen ([] ++ [(t, z)]))
  (ret : ∀ s' t more n', Fr h₀ L s'.heap m → News h₀ L s'.heap ((t, tupO (.str (Str.ofString "") tf) (.str z tz)) :: (x, accO dx (refs ([] ++ [(t, z)])) n') :: (dx, dictOf (accE w t1 t2) 1) :: (ll, W.listOf lines c) :: (f, instObj 94 fd) :: (fd, dictOf (vfE w width ll x v) 6) :: (140, tabO (ps ++ more)) :: (147, tabO qs) :: rest) → Fine ([] ++ [(t, z)]) → TriplesOk (ps ++ more).toList → AllBare s'.gens → s'.os = s.os → (∀ p ∈ rest, @LT.lt Nat _ p.1 t) → @LT.lt Nat _ x t → Q .none s') :
  wpAny (model Challenge.rw_wo0053_01.row.prog w) (ktrTop dp un gd cn cs L ca ccd cl outer) (call (.ref 91) [.ref f, .str (Str.ofString "") tf, .str z tz]) Q E s := by
  obtain ⟨_, _, _, _, _, _, _, _, _, _, _, _, _, _, _⟩ := O.more
  obtain ⟨o1, o2, o3, o4, o5, r1, r2, r3, r4, r5, r6, r7⟩ := O
  revert X; k_fill; intro X
  refine wpAny_call ?_
  k_dflt (walk_at "mine enter")
  walk_at "mine upto"
  rotate_left
  · exfalso; rename ¬ width < _ => hw; exact hw (hfit _)
  refine For_go ?_
  k_steps
  refine forStr1 (c := 59) rfl rfl rfl (by decide +kernel) (by k_asm) (by k_asm) (by decide +kernel) (by walk_at "mine bare") ?_
  intro t' I' oI' s' lt' F' N' G' o'
  have lt0 := lt'
  k_lt lt'
  walk_at "mine upto"
  refine For_go ?_
  k_steps
  refine forRange0 rfl rfl rfl (by k_asm) (by k_asm) (by assumption) (down_small (by simp) (by simp) rfl) (down_size (n := 0) (by simp) rfl) (by walk_at "mine bare") ?_
  intro s' F' N' G' o'
  k_steps
  dsimp only [FlowTo]
  refine invP0 (by k_asm) (by k_asm) (allOff_of fun p hp => Nat.ne_of_lt (lt0 p hp)) ?_ (by assumption) (by walk_at "mine os")
  intro s' F' N' G' o'
  k_steps
  exact ret _ _ _ _ (by k_asm) (by walk_at "mine news") (by assumption) (by assumption) (by walk_at "mine bare") (by walk_at "mine os") (lt_all (by simp only [*])) (by omega)
end Mine

theorem Mine.rstP17 : True := by w_top off; trivial
namespace Mine
section
variable {prog : Program} {w : World} {A : Around} {E : Value → Shared → Prop} {s : Shared} {h₀ : Heap} {L : Addr} {news : List (Addr × Obj)} {t : Addr} {u v : Value} {tk : Tok} {value slice : PySem.Expr} {Q : Value → Shared → Prop}
theorem tupK_fst (N : News h₀ L s.heap news) (hm : (t, tupO u v) ∈ news) (h : Q u s)
    (hs : subscripted slice false (.ref t) (.int 0 tk) = operate [.ref t, .int 0 tk] (getItem (.ref t) (.int 0 tk)) := by with_unfolding_all rfl) :
    wpAny (model prog w) A (subscriptTail value slice (.ref t) (.int 0 tk)) Q E s :=
  item_tupleT (l := [u, v]) (j := 0) ⟨_, (N _ hm).1, rfl, _, rfl⟩ (by decide) (by decide) rfl rfl h hs
theorem tupK_snd (N : News h₀ L s.heap news) (hm : (t, tupO u v) ∈ news) (h : Q v s)
    (hs : subscripted slice false (.ref t) (.int 1 tk) = operate [.ref t, .int 1 tk] (getItem (.ref t) (.int 1 tk)) := by with_unfolding_all rfl) :
    wpAny (model prog w) A (subscriptTail value slice (.ref t) (.int 1 tk)) Q E s :=
  item_tupleT (l := [u, v]) (j := 1) ⟨_, (N _ hm).1, rfl, _, rfl⟩ (by decide) (by decide) rfl rfl h hs
end
theorem tail3 {h₀ h : Heap} {L : Addr} {a b c : Addr × Obj} {l : List (Addr × Obj)} (N : News h₀ L h (a :: b :: c :: l)) : News h₀ L h l := fun p hp => N p (.tail _ (.tail _ (.tail _ hp)))
theorem refl2 {wi : List (Addr × Str)} {a b : Addr × Str} : ((refs (wi ++ [a] ++ [b])).length : Int) = (wi.length : Int) + 2 := by simp
theorem refl3 {wi : List (Addr × Str)} {a b : Addr × Str} {k : Int} (h : k = (wi.length : Int)) : (refs (wi ++ [a] ++ [b]))[k.toNat]? = some (.ref a.1) := by
  subst h
  rw [Int.toNat_natCast]
  simp [refs, List.getElem?_append_left, List.getElem?_append_right]
theorem item_last (y : Str) : Txt.item (y ++ Str.ofString ";") (-1) = Str.ofString ";" := by
  have e : Txt.charAt (y ++ Str.ofString ";") (-1) = some 59 := by
    unfold Txt.charAt
    have hc : (Str.ofString ";").cps = #[59] := by decide +kernel
    have hl : (y ++ Str.ofString ";").length = y.cps.size + 1 := by rw [Str.length_append]; rfl
    have hi : seqIndex? (-1) (y.cps.size + 1) = some y.cps.size := by
      simp only [seqIndex?]
      rw [if_pos (show (-1 : Int) < 0 by decide), if_pos (by simp only [Bool.and_eq_true, decide_eq_true_eq]; omega)]
      congr 1
      omega
    rw [hl, hi, Option.bind_some, Str.cps_append, hc, Array.getElem?_append_right (Nat.le_refl _)]
    simp
  unfold Txt.item
  rw [e]
  decide +kernel
end Mine
theorem Mine.regF9 : True := by
  k_with "subscriptTail" => ((k_here; (with_reducible show wpAny _ _ (subscriptTail _ _ (Value.ref _) (Value.int 1 _)) _ _ _); k_dflt (refine' Mine.tupK_snd ?k1Zc ?k2Zc ?_ ?k12Zc; (case k1Zc => k_asm); (case k2Zc => k_mem); (case k12Zc => with_unfolding_all rfl); k_whole)))
  trivial
namespace Mine
theorem con_chunkB {x dx f fd ll : Addr} {wi : List (Addr × Str)} {a : Addr × Str} {n c : Nat} {width : Int} {lines : Array Value} {t1 t2 tf tz : Tok} {v : VT} {z : Str} {ps qs : Array Value} {p : Program} {loose : List Str} {mean : ExcName → Option Value} {mg mb : Str → Option Value} {w : World} {dp un : Nat} {gd : Option (List Code)} {cn : Str} {cs : Scope} {ca : Addr} {ccd : Value} {cl : List (Str × Addr)} {outer : List Env} {A₀ : Around} {base h₀ : Heap} {L : Addr} {m : Str → Option Value} {s : Shared} {Q E : Value → Shared → Prop} {rest : List (Addr × Obj)}
  (B : Below A₀ base outer h₀) (F : Fr h₀ L s.heap m) (X : (hd.heap_1 w.params).In h₀) (N : News h₀ L s.heap ((x, accO dx (refs (wi ++ [a])) n) :: (dx, dictOf (accE w t1 t2) 1) :: (ll, W.listOf lines c) :: (f, instObj 94 fd) :: (fd, dictOf (vfE w width ll x v) 6) :: (140, tabO ps) :: (147, tabO qs) :: rest)) (T : Top p loose mean mg mb h₀) (hk : cs.kind = .function) (hd' : dp + 5 < recursionLimit) (hu : un + 8 * 8 < cLine)
  (O : Offs fd f ll dx x rest) (hws : Parts (wi ++ [a]) rest) (hf : Fine (wi ++ [a])) (hn : (wi ++ [a]).length < 900) (hz : z.length ≤ 1000) (htr : TriplesOk ps.toList) (htr2 : TriplesOk qs.toList) (G : AllBare s.gens)
  (hend : ∃ y : Str, a.2 = y ++ Str.ofString ";") (hlines : lines.size ≤ 1000)
  (hover : ∀ t : Addr, width < partsLen (wi ++ [a] ++ [(t, z)]))
  (ret : ∀ s' t more more2 n' c' tl t1 t2, Fr h₀ L s'.heap m → News h₀ L s'.heap ((t, tupO (.str (Str.ofString "") tf) (.str z tz)) :: (x, accO dx (refs [(t, z)]) n') :: (dx, dictOf (accE w t1 t2) 1) :: (ll, W.listOf (lines.push (.str (partsTxt (wi ++ [a])) tl)) c') :: (f, instObj 94 fd) :: (fd, dictOf (vfE w width ll x v) 6) :: (140, tabO (ps ++ more)) :: (147, tabO (qs ++ more2)) :: rest) → Fine [(t, z)] → TriplesOk (ps ++ more).toList → TriplesOk (qs ++ more2).toList → AllBare s'.gens → s'.os = s.os → (∀ p ∈ rest, @LT.lt Nat _ p.1 t) → @LT.lt Nat _ x t → Q .none s') :
  wpAny (model Challenge.rw_wo0053_01.row.prog w) (ktrTop dp un gd cn cs L ca ccd cl outer) (call (.ref 91) [.ref f, .str (Str.ofString "") tf, .str z tz]) Q E s := by
  obtain ⟨_, _, _, _, _, _, _, _, _, _, _, _, _, _, _⟩ := O.more
  obtain ⟨o1, o2, o3, o4, o5, r1, r2, r3, r4, r5, r6, r7⟩ := O
  obtain ⟨a1, a2⟩ := a
  obtain ⟨y, hy⟩ := hend
  dsimp only at hy
  subst hy
  obtain ⟨ta, tb, hma⟩ := hws (a1, y ++ Str.ofString ";") (by simp)
  have hya : (y ++ Str.ofString ";").length ≤ 1000 := hf.len (a1, y ++ Str.ofString ";") (by simp)
  revert X; k_fill; intro X
  refine wpAny_call ?_
  k_dflt (walk_at "mine enter")
  walk_at "mine upto"
  rotate_left
  · exfalso; rename ¬ width < _ => hw; exact hw (hover _)
  refine For_go ?_
  k_steps
  refine forStr1 (c := 59) rfl rfl rfl (by decide +kernel) (by k_asm) (by k_asm) (by decide +kernel) (by walk_at "mine bare") ?_
  intro t' I' oI' s' lt' F' N' G' o'
  have lt0 := lt'
  k_lt lt'
  walk_at "mine upto"
  refine For_go ?_
  k_steps
  refine forRange1 (n := wi.length + 1) rfl rfl rfl (by k_asm) (by k_asm) (by assumption) (down_small (by rw [refl2]; omega) (by rw [refl2]; have := hf.few; rw [List.length_append] at this; omega) rfl) (down_size (by rw [refl2]; omega) rfl) (by omega) (by walk_at "mine bare") ?_
  intro t2' I2 oI2 s2' lt2' F' N' G' o'
  have lt20 := lt2'
  k_lt lt2'
  k_steps
  k_here
  k_dflt (refine' Mine.accK_item (v := .ref a1) ?k1 ?k2 ?k3 ?k4 ?k5 ?k6 ?k7 ?k8 ?k9 ?k10 ?k11 ?_ ?k12; (case k1 => k_asm); (case k2 => k_asm); (case k3 => k_asm); (case k4 => k_mem); (case k5 => k_mem); (case k6 => k_is); (case k7 => k_is); (case k8 => k_is); (case k9 => rw [refl2]; omega); (case k10 => rw [refl2]; have := hf.few; rw [List.length_append] at this; omega); (case k11 => exact refl3 (by rw [refl2]; omega)); (case k12 => with_unfolding_all rfl); k_whole)
  k_steps
  k_here
  k_dflt (refine' Mine.tupK_snd ?k1 ?k2 ?_ ?k12; (case k1 => k_asm); (case k2 => exact (by repeat' (first | exact hma | apply List.Mem.tail))); (case k12 => with_unfolding_all rfl); k_whole)
  k_steps
  · dsimp only [FlowTo]
    k_steps
    dsimp only [FlowTo]
    k_steps
    rename News h₀ _ _ _ => kN9
    rename Fine (_ ++ _) => kfi9
    have kN8 := tail3 kN9
    exact ret _ _ _ _ _ _ _ _ _ (by k_asm) kN8 (kfi9.sub (List.sublist_append_right _ _)) (by assumption) (by assumption) (by walk_at "mine bare") (by walk_at "mine os") (lt_all (by simp only [*])) (by omega)
  · exfalso
    rename (Txt.item _ _ == _) = false => hq
    dsimp only at hq
    rw [item_last] at hq
    exact absurd hq (by decide +kernel)
end Mine


theorem Mine.regF10 : True := by
  k_with_none
  k_with "own kne" => ((refine neN ?_; (try dsimp only); walk_at "mine apart"))
  k_with "own ktrroom" => (((try simp only [depth_under_make, depth_under_kw, depth_in1, depth_deeper, depth_caller]); (try dsimp only [ktrTop]); walk_at "mine near"))
  k_with "own ktrunits" => (((try simp only [units_in1, units_deeper, Around.mark_units, units_caller]); (try dsimp only [ktrTop]); walk_at "mine near"))
  k_with "mine near" => (((try simp only [Nat.add_assoc]); first | exact Mine.roomOf ‹_› (by decide) | exact Mine.roomOf0 ‹_› | decide))
  k_with "mine apart" => (first | assumption | exact Ne.symm ‹_› | exact Nat.ne_of_lt ‹_› | exact Nat.ne_of_gt ‹_› | exact Nat.ne_of_lt (Mine.A0 ‹_›) | exact Nat.ne_of_gt (Mine.A0 ‹_›) | exact Mine.A0 ‹_› | exact Ne.symm (Mine.A0 ‹_›) | exact Nat.ne_of_lt (Mine.A1 ‹_›) | exact Nat.ne_of_gt (Mine.A1 ‹_›) | exact Mine.A1 ‹_› | exact Ne.symm (Mine.A1 ‹_›) | exact Nat.ne_of_lt (Mine.A2 ‹_›) | exact Nat.ne_of_gt (Mine.A2 ‹_›) | exact Mine.A2 ‹_› | exact Ne.symm (Mine.A2 ‹_›) | exact Nat.ne_of_lt (Mine.A3 ‹_›) | exact Nat.ne_of_gt (Mine.A3 ‹_›) | exact Mine.A3 ‹_› | exact Ne.symm (Mine.A3 ‹_›) | exact Nat.ne_of_lt (Mine.A4 ‹_›) | exact Nat.ne_of_gt (Mine.A4 ‹_›) | exact Mine.A4 ‹_› | exact Ne.symm (Mine.A4 ‹_›) | exact Nat.ne_of_lt (Mine.A5 ‹_›) | exact Nat.ne_of_gt (Mine.A5 ‹_›) | exact Mine.A5 ‹_› | exact Ne.symm (Mine.A5 ‹_›) | exact Nat.ne_of_lt (Mine.A6 ‹_›) | exact Nat.ne_of_gt (Mine.A6 ‹_›) | exact Mine.A6 ‹_› | exact Ne.symm (Mine.A6 ‹_›) | exact Nat.ne_of_lt (Mine.A7 ‹_›) | exact Nat.ne_of_gt (Mine.A7 ‹_›) | exact Mine.A7 ‹_› | exact Ne.symm (Mine.A7 ‹_›) | exact Nat.ne_of_lt (Mine.A8 ‹_›) | exact Nat.ne_of_gt (Mine.A8 ‹_›) | exact Mine.A8 ‹_› | exact Ne.symm (Mine.A8 ‹_›) | exact Nat.ne_of_lt (Mine.A9 ‹_›) | exact Nat.ne_of_gt (Mine.A9 ‹_›) | exact Mine.A9 ‹_› | exact Ne.symm (Mine.A9 ‹_›) | exact Nat.ne_of_lt (Mine.A10 ‹_›) | exact Nat.ne_of_gt (Mine.A10 ‹_›) | exact Mine.A10 ‹_› | exact Ne.symm (Mine.A10 ‹_›) | decide | omega)
  k_with "getMethod ref" => ((k_here; k_dflt (refine' Mine.accK_method ?k1Zc ?k2Zc ?k3Zc ?k4Zc ?k5Zc ?k6Zc ?k7Zc ?k8Zc ?k9Zc ?k10Zc ?k11Zc ?_; (case k1Zc => k_asm); (case k2Zc => k_asm); (case k3Zc => k_asm); (case k4Zc => k_mem); (case k5Zc => k_mem); (case k6Zc => k_is); (case k7Zc => k_is); (case k8Zc => k_is); (case k9Zc => k_is); (case k10Zc => decide); (case k11Zc => k_get); k_whole)))
  k_with "call builtin:list.append" => ((k_here; (with_reducible show wpAny _ _ (call (Value.builtin _) [Value.ref _, _]) _ _ _); k_dflt (refine' Mine.accK_append ?k1Zc ?k2Zc ?k3Zc ?k4Zc ?k5Zc ?k6Zc ?_ ?zZc; (case k1Zc => k_asm); (case k2Zc => k_asm); (case k3Zc => k_asm); (case k6Zc => k_upd); (case k4Zc => k_mem); (case k5Zc => k_is); (case zZc => first | size_fits | (rw [sizeLine_eq]; omega)); k_whole); intro hqZn FqZn NqZn; (try k_sweep)))
  k_with "getAttr ref" => ((k_here; k_dflt (refine' Mine.accK_get ?k1Zc ?k2Zc ?k3Zc ?k4Zc ?k5Zc ?k6Zc ?k7Zc ?k8Zc ?k9Zc ?k10Zc ?k11Zc ?k12Zc ?k13Zc ?_; (case k1Zc => k_asm); (case k2Zc => k_asm); (case k3Zc => k_asm); (case k4Zc => k_mem); (case k5Zc => k_mem); (case k6Zc => k_is); (case k7Zc => k_is); (case k8Zc => k_is); (case k9Zc => k_is); (case k10Zc => k_is); (case k11Zc => k_is); (case k12Zc => k_get); (case k13Zc => k_handed); k_whole)))
  k_with "setAttr ref" => ((k_here; k_dflt (refine' Mine.accK_set ?k1Zc ?k2Zc ?k3Zc ?k4Zc ?k5Zc ?k6Zc ?k7Zc ?k8Zc ?k9Zc ?k10Zc ?k11Zc ?k12Zc ?k13Zc ?k14Zc ?_; (case k1Zc => k_asm); (case k2Zc => k_asm); (case k3Zc => k_asm); (case k4Zc => k_mem); (case k5Zc => k_mem); (case k6Zc => k_is); (case k7Zc => k_is); (case k8Zc => rfl); (case k9Zc => rfl); (case k10Zc => k_is); (case k11Zc => k_get); (case k12Zc => k_put); (case k13Zc => k_upd); (case k14Zc => exact Nat.le_of_ble_eq_true rfl); k_whole); intro hqZn FqZn NqZn; (try k_sweep)))
  k_with "call builtin:len" => ((k_here; (with_reducible show wpAny _ _ (call (Value.builtin "len") [Value.ref _]) _ _ _); k_dflt (refine' Mine.accK_len ?k1Zc ?k2Zc ?k3Zc ?k4Zc ?k5Zc ?k6Zc ?k7Zc ?_; (case k1Zc => k_asm); (case k2Zc => k_asm); (case k3Zc => k_asm); (case k4Zc => k_mem); (case k5Zc => k_mem); (case k6Zc => k_is); (case k7Zc => k_is); k_whole)))
  k_with "subscriptTail" => ((k_here; (with_reducible show wpAny _ _ (subscriptTail _ _ (Value.ref _) (Value.ref _)) _ _ _); k_dflt (refine' Mine.accK_slice ?k1Zc ?k2Zc ?k3Zc ?k4Zc ?k5Zc ?k6Zc ?k7Zc ?k8Zc ?k9Zc ?k10Zc ?k11Zc ?zZc ?_ ?k12Zc; (case k1Zc => k_asm); (case k2Zc => k_asm); (case k3Zc => k_asm); (case k4Zc => k_mem); (case k5Zc => k_mem); (case k6Zc => k_is); (case k7Zc => k_is); (case k8Zc => k_is); (case k9Zc => first | exact .none | exact .int _ _); (case k10Zc => first | exact .none | exact .int _ _); (case k11Zc => exact Mine.accPick _ _); (case zZc => first | size_fits | (rw [sizeLine_eq]; omega)); (case k12Zc => intro slZn; with_unfolding_all rfl); k_whole); intro lqZn hqZn FqZn NqZn l1Zn; (try k_lt l1Zn); (try k_sweep)))
  k_with "setItem ref" => ((k_here; (with_reducible show wpAny _ _ (setItem (Value.ref _) (Value.ref _) (Value.ref _)) _ _ _); k_dflt (refine' Mine.accK_setSlice ?k1Zc ?k2Zc ?k3Zc ?k4Zc ?k5Zc ?k6Zc ?k7Zc ?k8Zc ?k10Zc ?k11Zc ?k12Zc ?k13Zc ?k14Zc ?zZc ?_; (case k1Zc => k_asm); (case k2Zc => k_asm); (case k3Zc => k_asm); (case k4Zc => k_mem); (case k5Zc => k_mem); (case k6Zc => k_is); (case k7Zc => k_is); (case k8Zc => k_is); (case k10Zc => k_mem); (case k11Zc => first | exact .none | exact .int _ _); (case k12Zc => first | exact .none | exact .int _ _); (case k13Zc => first | exact Mine.accB_all _ _ | exact Mine.accB_del _ _ (by assumption)); (case k14Zc => k_upd); (case zZc => first | size_fits | (simp only [List.length_nil, List.length_cons]; rw [sizeLine_eq]; omega)); k_whole); intro hqZn FqZn NqZn; (try k_sweep)))
  k_with "subscriptTail" => ((k_here; (with_reducible show wpAny _ _ (subscriptTail _ _ (Value.ref _) (Value.int _ _)) _ _ _); k_dflt (refine' Mine.accK_item ?k1Zc ?k2Zc ?k3Zc ?k4Zc ?k5Zc ?k6Zc ?k7Zc ?k8Zc ?k9Zc ?k10Zc ?k11Zc ?_ ?k12Zc; (case k1Zc => k_asm); (case k2Zc => k_asm); (case k3Zc => k_asm); (case k4Zc => k_mem); (case k5Zc => k_mem); (case k6Zc => k_is); (case k7Zc => k_is); (case k8Zc => k_is); (case k9Zc => omega); (case k10Zc => omega); (case k11Zc => first | assumption | rfl); (case k12Zc => with_unfolding_all rfl); k_whole)))
  k_with "mine enter" => ((refine' code_def ?k1Zc ?k2Zc ?k3Zc ?k4Zc ?k5Zc ?kAZc ?kFZc ?kKZc ?k6Zc ?k7Zc ?k8Zc ?k9Zc ?kBZc ?_ ?c2Zc ?c3Zc ?c4Zc ?c5Zc; (case kAZc => exact rfl); (case kFZc => exact rfl); (case kKZc => assumption); (case k1Zc => k_asm); (case k2Zc => k_asm); (case k3Zc => k_asm); (case k4Zc => k_asm); (case k5Zc => k_asm); (case k6Zc => k_is); (case k7Zc => k_is); (case k8Zc => ktr_room); (case k9Zc => first | exact BindsTo.of_eq rfl | exact binds_K (by k_in) rfl (by k_is) rfl rfl rfl); (case c5Zc => decide); (case kBZc => exact locs rfl); (case c2Zc => exact rfl); (case c3Zc => exact rfl); (case c4Zc => exact rfl); k_whole; intro gqZn LqZn hqZn FGqZn FqZn NqZn BqZn XqZn TqZn; (try dsimp only); (try k_lift BqZn); (try k_fold)))
  k_with "mine sub" => (first | exact fun _ h => h | (refine' List.forall_mem_cons.mpr ⟨?maZc, ?mbZc⟩; (case maZc => k_mem); (case mbZc => walk_at "mine sub")) | (intro pZn hpZn; (repeat' first | exact hpZn | apply List.Mem.tail)))
  k_with "mine news" => (first | k_asm | (refine' cb_drop ?cbNZc ?cbSZc; (case cbNZc => assumption); (case cbSZc => walk_at "mine sub")))
  k_with "mine senter" => ((refine' ks_code_super ?k1Zc ?k2Zc ?k3Zc ?k4Zc ?k5Zc ?kAZc ?kFZc ?kKZc ?k6Zc ?k7Zc ?k8Zc ?k9Zc ?kBZc ?_ ?c1Zc ?c2Zc ?c3Zc ?c4Zc; (case kAZc => exact rfl); (case kFZc => exact rfl); (case kKZc => assumption); (case k1Zc => k_asm); (case k2Zc => k_asm); (case k3Zc => k_asm); (case k4Zc => k_asm); (case k5Zc => k_asm); (case k6Zc => k_is); (case k7Zc => k_is); (case k8Zc => ktr_room); (case k9Zc => first | exact BindsTo.of_eq rfl | exact binds_K (by k_in) rfl (by k_is) rfl rfl rfl); (case kBZc => exact locs rfl); (case c1Zc => decide); (case c2Zc => exact rfl); (case c3Zc => exact rfl); (case c4Zc => exact rfl); intro gqZn LqZn hqZn FGqZn FqZn NqZn BqZn XqZn TqZn l1Zn; (try k_lt l1Zn); (try dsimp only); (try k_lift BqZn)))
  k_with "wpAt" => ((ks_step "attributeBase Call"; k_here; k_dflt (refine ks_node (by k_asm) (by k_asm) (by k_asm) (by k_asm) (by k_is) (by rfl) (by rfl) (Mine.accI (by k_asm) (by k_mem) (by k_mem)) (by k_is) (by rfl) (by first | rfl | decide +kernel) (by k_is) (by k_is) (by k_is) (by k_is) (by decide) (by rfl) (by rfl) (by rfl) (by rfl) (by decide +kernel) (by first | boot_by_name | rfl | kernel_rfl) ?_; intro soqZn hqZn FqZn NqZn l1Zn; (try k_lt l1Zn))))
  k_with "getMethod ref" => ((k_here; k_dflt (first | ((with_reducible show wpAny _ _ (getMethod (Value.ref _) (PySem.Str.ofString "pop") _) _ _ _); refine' Mine.accK_supPop ?k1Zc ?k2Zc ?k3Zc ?k4Zc ?k5Zc ?k6Zc ?k7Zc ?k8Zc ?k9Zc ?k10Zc ?_; (case k1Zc => k_asm); (case k2Zc => k_asm); (case k3Zc => k_asm); (case k4Zc => k_mem); (case k5Zc => k_mem); (case k6Zc => k_mem); (case k7Zc => k_is); (case k8Zc => k_is); (case k9Zc => ks_is); (case k10Zc => k_is); intro qqZn hqZn FqZn NqZn l1Zn; (try k_lt l1Zn)) | ((with_reducible show wpAny _ _ (getMethod (Value.ref _) (PySem.Str.ofString "__len__") _) _ _ _); refine' Mine.accK_supLen ?k1Zc ?k2Zc ?k3Zc ?k4Zc ?k5Zc ?k6Zc ?k7Zc ?k8Zc ?k9Zc ?k10Zc ?_; (case k1Zc => k_asm); (case k2Zc => k_asm); (case k3Zc => k_asm); (case k4Zc => k_mem); (case k5Zc => k_mem); (case k6Zc => k_mem); (case k7Zc => k_is); (case k8Zc => k_is); (case k9Zc => ks_is); (case k10Zc => k_is); intro qqZn hqZn FqZn NqZn l1Zn; (try k_lt l1Zn)) | ((with_reducible show wpAny _ _ (getMethod (Value.ref _) (PySem.Str.ofString "__init__") _) _ _ _); refine' Mine.accK_supInit ?k1Zc ?k2Zc ?k3Zc ?k4Zc ?k5Zc ?k6Zc ?k7Zc ?k8Zc ?k9Zc ?k10Zc ?_; (case k1Zc => k_asm); (case k2Zc => k_asm); (case k3Zc => k_asm); (case k4Zc => k_mem); (case k5Zc => k_mem); (case k6Zc => k_mem); (case k7Zc => k_is); (case k8Zc => k_is); (case k9Zc => ks_is); (case k10Zc => k_is); intro qqZn hqZn FqZn NqZn l1Zn; (try k_lt l1Zn)))))
  k_with "callWith ref" => ((k_here; (with_reducible show wpAny _ _ (callWith _ (Value.ref _) [] (backTo _ (starEach [] _)) []) _ _ _); k_dflt (first | (refine' Mine.callLen ?k1Zc ?k2Zc ?k3Zc ?_; (case k1Zc => k_asm); (case k2Zc => k_mem); (case k3Zc => k_mem); k_whole) | (refine' Mine.callInit ?k0Zc ?k1Zc ?k2Zc ?k3Zc ?k4Zc ?_; (case k0Zc => k_asm); (case k1Zc => k_asm); (case k2Zc => k_mem); (case k3Zc => k_upd); (case k4Zc => first | size_fits | (rw [sizeLine_eq]; omega) | (rw [sizeLine_eq]; exact Nat.le_of_ble_eq_true rfl)); k_whole; intro hqZn FqZn NqZn; (try k_sweep)) | (refine' Mine.callPop ?k0Zc ?kXZc ?k1Zc ?k2Zc ?k3Zc ?k4Zc ?k5Zc ?k6Zc ?k7Zc ?k8Zc ?k9Zc ?k10Zc ?_; (case k0Zc => k_asm); (case kXZc => k_asm); (case k1Zc => k_asm); (case k2Zc => k_mem); (case k8Zc => first | assumption | rfl); (case k9Zc => k_upd); (case k3Zc => k_mem); (case k4Zc => k_is); (case k5Zc => k_is); (case k6Zc => rfl); (case k7Zc => k_is); (case k10Zc => rw [sizeLine_eq]; simp at *; omega); k_whole; intro hqZn FqZn NqZn; (try k_sweep)))))
  k_with "wpAt" => ((dsimp only; ks_step "execs cons"; refine ks_wpAt_execs_cons ?_))
  k_with "wpAt" => ((ks_step "eval Call"; k_dflt (refine ks_wpAt_MethodCall ?_)))
  k_with "mine os" => (first | rfl | assumption | (simp only [*]; done))
  k_with "wpAt" => ((ks_step "exec Expr"; k_dflt (refine ks_wpAt_Expr_any ?_)))
  k_with "mine upto" => (repeat' ((fail_if_success (with_reducible show wpAny _ _ (exec (Stmt.For _ _ _ _ _) _) _ _ _)); first | (k_unfold; (try dsimp only)) | (k_end; wrow_close) | walk1 | (dsimp only; walk1) | (leave1; try dsimp only)))
  k_with "mine parts" => (repeat' (first | assumption | apply Mine.Parts.tail))
  k_with "mine bare" => (first | assumption | (simp only [*]; done))
  k_with "call ref" => ((k_here; (with_reducible show wpAny _ _ (call (Value.ref 175) _) _ _ _); k_dflt (refine' Mine.use_count ?k1Zc ?k2Zc ?k3Zc ?k4Zc ?k5Zc ?k6Zc ?k7Zc ?k8Zc ?k9Zc ?k10Zc ?_; (case k1Zc => k_asm); (case k2Zc => k_asm); (case k3Zc => k_asm); (case k4Zc => k_asm); (case k5Zc => k_asm); (case k6Zc => first | exact rfl | assumption); (case k7Zc => ktr_room); (case k8Zc => ktr_units); (case k9Zc => k_mem); (case k10Zc => k_mem); k_whole; intro sqZn tqZn FqZn NqZn gqZn oqZn)))
  k_with "call ref" => ((k_here; (with_reducible show wpAny _ _ (call (Value.ref 122) _) _ _ _); k_dflt (refine' Mine.use_push ?k1Zc ?k2Zc ?k3Zc ?k4Zc ?k5Zc ?k6Zc ?k7Zc ?k8Zc ?k9Zc ?k10Zc ?k11Zc ?k12Zc ?_; (case k1Zc => k_asm); (case k2Zc => k_asm); (case k3Zc => k_asm); (case k4Zc => k_asm); (case k5Zc => k_asm); (case k6Zc => first | exact rfl | assumption); (case k7Zc => ktr_room); (case k8Zc => ktr_units); (case k12Zc => intro oqZn; k_upd); (case k9Zc => k_mem); (case k10Zc => assumption); (case k11Zc => walk_at "mine size"); k_whole; intro sqZn tqZn FqZn NqZn gqZn oqZn lqZn; (try k_lt lqZn))))
  k_with "call ref" => ((k_here; (with_reducible show wpAny _ _ (call (Value.ref 130) _) _ _ _); k_dflt (refine' Mine.use_pop_from ?k1Zc ?k2Zc ?k3Zc ?k4Zc ?k5Zc ?k6Zc ?k7Zc ?k8Zc ?k9Zc ?k10Zc ?k11Zc ?k12Zc ?k13Zc ?_; (case k1Zc => k_asm); (case k2Zc => k_asm); (case k3Zc => k_asm); (case k4Zc => k_asm); (case k5Zc => k_asm); (case k6Zc => first | exact rfl | assumption); (case k7Zc => ktr_room); (case k8Zc => ktr_units); (case k13Zc => intro oqZn; k_upd); (case k9Zc => k_mem); (case k10Zc => assumption); (case k11Zc => walk_at "mine size"); (case k12Zc => walk_at "mine size"); k_whole; intro sqZn tqZn nqZn FqZn NqZn gqZn oqZn lqZn; (try k_lt lqZn))))
  k_with "call ref" => ((k_here; (with_reducible show wpAny _ _ (call (Value.ref 138) _) _ _ _); k_dflt (refine' Mine.use_pop ?k1Zc ?k2Zc ?k3Zc ?k4Zc ?k5Zc ?k6Zc ?k7Zc ?k8Zc ?k9Zc ?k10Zc ?k11Zc ?k12Zc ?k13Zc ?_; (case k1Zc => k_asm); (case k2Zc => k_asm); (case k3Zc => k_asm); (case k4Zc => k_asm); (case k5Zc => k_asm); (case k6Zc => first | exact rfl | assumption); (case k7Zc => ktr_room); (case k8Zc => ktr_units); (case k13Zc => intro oqZn; k_upd); (case k9Zc => k_mem); (case k10Zc => assumption); (case k12Zc => first | assumption | walk_at "mine last"); (case k11Zc => walk_at "mine size"); k_whole; intro sqZn FqZn NqZn gqZn oqZn)))
  k_with "call ref" => ((k_here; (with_reducible show wpAny _ _ (call (Value.ref 160) _) _ _ _); k_dflt (refine' Mine.use_reset0 ?k1Zc ?k2Zc ?k3Zc ?k4Zc ?k5Zc ?k6Zc ?k7Zc ?k8Zc ?k9Zc ?k10Zc ?k11Zc ?k12Zc ?k13Zc ?_; (case k1Zc => k_asm); (case k2Zc => k_asm); (case k3Zc => k_asm); (case k4Zc => k_asm); (case k5Zc => k_asm); (case k6Zc => first | exact rfl | assumption); (case k7Zc => ktr_room); (case k8Zc => ktr_units); (case k12Zc => intro oqZn; k_upd); (case k13Zc => intro o1Zn oqZn; k_upd); (case k11Zc => k_mem); (case k9Zc => assumption); (case k10Zc => walk_at "mine size"); k_whole; intro sqZn t1qZn t2qZn nqZn FqZn NqZn gqZn oqZn)))
  k_with "call ref" => ((k_here; (with_reducible show wpAny _ _ (call (Value.ref 160) _) _ _ _); k_dflt (refine' Mine.use_reset ?k1Zc ?k2Zc ?k3Zc ?k4Zc ?k5Zc ?k6Zc ?k7Zc ?k8Zc ?k9Zc ?k9bZc ?k9cZc ?k10Zc ?k11Zc ?k11bZc ?k12Zc ?k13Zc ?_; (case k1Zc => k_asm); (case k2Zc => k_asm); (case k3Zc => k_asm); (case k4Zc => k_asm); (case k5Zc => k_asm); (case k6Zc => first | exact rfl | assumption); (case k7Zc => ktr_room); (case k8Zc => ktr_units); (case k12Zc => intro oqZn; k_upd); (case k13Zc => intro o1Zn oqZn; k_upd); (case k11Zc => k_mem); (case k11bZc => k_mem); (case k9Zc => first | assumption | omega); (case k9bZc => first | assumption | omega); (case k9cZc => first | assumption | omega); (case k10Zc => walk_at "mine size"); k_whole; intro sqZn t1qZn t2qZn nqZn FqZn NqZn gqZn oqZn)))
  k_with "truthy ref" => ((k_here; k_dflt (refine' Mine.acc_truthy ?k1Zc ?k2Zc ?k3Zc ?k4Zc ?k5Zc ?k6Zc ?k7Zc ?k8Zc ?k9Zc ?k10Zc ?k11Zc ?k12Zc ?k13Zc ?k14Zc ?k15Zc ?k16Zc ?k17Zc ?k18Zc ?_; (case k1Zc => k_asm); (case k2Zc => k_asm); (case k3Zc => k_asm); (case k4Zc => k_asm); (case k5Zc => k_asm); (case k6Zc => first | exact rfl | assumption); (case k7Zc => ktr_room); (case k8Zc => ktr_units); (case k11Zc => intro oqZn; k_upd); (case k9Zc => k_mem); (case k10Zc => k_mem); (case k12Zc => walk_at "mine parts"); (case k13Zc => assumption); (case k14Zc => assumption); (case k15Zc => walk_at "mine bare"); (case k16Zc => k_is); (case k17Zc => k_is); (case k18Zc => k_is); k_whole; intro sqZn moreqZn FqZn NqZn trqZn GqZn oqZn)))
  k_with "call builtin:len" => ((k_here; (with_reducible show wpAny _ _ (call (Value.builtin "len") [Value.ref _]) _ _ _); k_dflt (refine' Mine.acc_lenb ?k1Zc ?k2Zc ?k3Zc ?k4Zc ?k5Zc ?k6Zc ?k7Zc ?k8Zc ?k9Zc ?k10Zc ?k11Zc ?k12Zc ?k13Zc ?k14Zc ?k15Zc ?k17Zc ?k18Zc ?_; (case k1Zc => k_asm); (case k2Zc => k_asm); (case k3Zc => k_asm); (case k4Zc => k_asm); (case k5Zc => k_asm); (case k6Zc => first | exact rfl | assumption); (case k7Zc => ktr_room); (case k8Zc => ktr_units); (case k11Zc => intro oqZn; k_upd); (case k9Zc => k_mem); (case k10Zc => k_mem); (case k12Zc => walk_at "mine parts"); (case k13Zc => assumption); (case k14Zc => assumption); (case k15Zc => walk_at "mine bare"); (case k17Zc => k_is); (case k18Zc => k_is); k_whole; intro sqZn tqZn moreqZn FqZn NqZn trqZn GqZn oqZn)))
  k_with "call type:str" => ((k_here; (with_reducible show wpAny _ _ (call (Value.type "str") [Value.ref _]) _ _ _); k_dflt (refine' Mine.acc_strc ?k1Zc ?k2Zc ?k3Zc ?k4Zc ?k5Zc ?k6Zc ?k7Zc ?k8Zc ?k9Zc ?k10Zc ?k11Zc ?k12Zc ?k13Zc ?k14Zc ?k15Zc ?k17Zc ?k18Zc ?_; (case k1Zc => k_asm); (case k2Zc => k_asm); (case k3Zc => k_asm); (case k4Zc => k_asm); (case k5Zc => k_asm); (case k6Zc => first | exact rfl | assumption); (case k7Zc => ktr_room); (case k8Zc => ktr_units); (case k11Zc => intro oqZn; k_upd); (case k9Zc => k_mem); (case k10Zc => k_mem); (case k12Zc => walk_at "mine parts"); (case k13Zc => assumption); (case k14Zc => assumption); (case k15Zc => walk_at "mine bare"); (case k17Zc => k_is); (case k18Zc => k_is); k_whole; intro sqZn tqZn moreqZn FqZn NqZn trqZn GqZn oqZn)))
  k_with "mine size" => (first | assumption | omega | (simp only [List.length_append, List.length_cons, List.length_nil, List.length_map] at *; omega))
  k_with "call ref" => ((k_here; (with_reducible show wpAny _ _ (call (Value.ref 178) _) _ _ _); k_dflt (refine' Mine.con_acc ?k1Zc ?k2Zc ?k3Zc ?k4Zc ?k5Zc ?k6Zc ?k7Zc ?k8Zc ?_; (case k1Zc => k_asm); (case k2Zc => k_asm); (case k3Zc => k_asm); (case k4Zc => k_asm); (case k5Zc => k_asm); (case k6Zc => first | exact rfl | assumption); (case k7Zc => ktr_room); (case k8Zc => ktr_units); k_whole; intro sqZn xqZn dxqZn t1qZn t2qZn nqZn FqZn NqZn gqZn oqZn l1Zn l2Zn; (try k_lt l1Zn); (try k_lt2 l2Zn))))
  k_with "mine ne" => (first | assumption | omega)
  k_with "mine parts" => (first | (refine Mine.Parts.snoc ?_ (by k_mem); walk_at "mine parts") | exact Mine.Parts.one (by k_mem) | exact Mine.Parts.nil | (repeat' (first | assumption | apply Mine.Parts.tail)))
  k_with "mine fine" => (first | assumption | (simp only [List.append_nil, List.nil_append, List.append_assoc, List.cons_append] at *; assumption))
  k_with "call ref" => ((k_here; (with_reducible show wpAny _ _ (call (Value.ref 122) _) _ _ _); k_dflt (refine' Mine.use_pushP ?k1Zc ?k2Zc ?k3Zc ?k4Zc ?k5Zc ?k6Zc ?k7Zc ?k8Zc ?k9Zc ?k10Zc ?k11Zc ?k12Zc ?k13Zc ?k14Zc ?k15Zc ?_; (case k1Zc => k_asm); (case k2Zc => k_asm); (case k3Zc => k_asm); (case k4Zc => k_asm); (case k5Zc => k_asm); (case k6Zc => first | exact rfl | assumption); (case k7Zc => ktr_room); (case k8Zc => ktr_units); (case k15Zc => intro oqZn; k_upd); (case k9Zc => k_mem); (case k10Zc => walk_at "mine ne"); (case k11Zc => walk_at "mine fine"); (case k12Zc => walk_at "mine size"); (case k13Zc => walk_at "mine size"); (case k14Zc => k_mem); k_whole; intro sqZn tqZn FqZn NqZn fiqZn gqZn oqZn lqZn; (try k_lt lqZn))))
  k_with "call ref" => ((k_here; (with_reducible show wpAny _ _ (call (Value.ref 138) _) _ _ _); k_dflt (refine' Mine.use_popP ?k1Zc ?k2Zc ?k3Zc ?k4Zc ?k5Zc ?k6Zc ?k7Zc ?k8Zc ?k9Zc ?k10Zc ?k11Zc ?k12Zc ?_; (case k1Zc => k_asm); (case k2Zc => k_asm); (case k3Zc => k_asm); (case k4Zc => k_asm); (case k5Zc => k_asm); (case k6Zc => first | exact rfl | assumption); (case k7Zc => ktr_room); (case k8Zc => ktr_units); (case k12Zc => intro oqZn; k_upd); (case k9Zc => k_mem); (case k10Zc => walk_at "mine ne"); (case k11Zc => walk_at "mine fine"); k_whole; intro sqZn FqZn NqZn gqZn oqZn)))
  k_with "call ref" => ((k_here; (with_reducible show wpAny _ _ (call (Value.ref 130) _) _ _ _); k_dflt (refine' Mine.use_pop_fromP ?k1Zc ?k2Zc ?k3Zc ?k4Zc ?k5Zc ?k6Zc ?k7Zc ?k8Zc ?k9Zc ?k10Zc ?k11Zc ?k12Zc ?k13Zc ?_; (case k1Zc => k_asm); (case k2Zc => k_asm); (case k3Zc => k_asm); (case k4Zc => k_asm); (case k5Zc => k_asm); (case k6Zc => first | exact rfl | assumption); (case k7Zc => ktr_room); (case k8Zc => ktr_units); (case k13Zc => intro oqZn; k_upd); (case k9Zc => k_mem); (case k10Zc => walk_at "mine ne"); (case k11Zc => walk_at "mine fine"); (case k12Zc => walk_at "mine size"); k_whole; intro sqZn tqZn nqZn FqZn NqZn gqZn oqZn lqZn; (try k_lt lqZn))))
  k_with "call ref" => ((k_here; (with_reducible show wpAny _ _ (call (Value.ref 160) _) _ _ _); k_dflt (refine' Mine.use_resetP ?k1Zc ?k2Zc ?k3Zc ?k4Zc ?k5Zc ?k6Zc ?k7Zc ?k8Zc ?k9Zc ?k9bZc ?k9cZc ?k10Zc ?k11Zc ?k11bZc ?k12Zc ?k13Zc ?_; (case k1Zc => k_asm); (case k2Zc => k_asm); (case k3Zc => k_asm); (case k4Zc => k_asm); (case k5Zc => k_asm); (case k6Zc => first | exact rfl | assumption); (case k7Zc => ktr_room); (case k8Zc => ktr_units); (case k12Zc => intro oqZn; k_upd); (case k13Zc => intro o1Zn oqZn; k_upd); (case k11Zc => k_mem); (case k11bZc => k_mem); (case k9Zc => walk_at "mine ne"); (case k9bZc => walk_at "mine ne"); (case k9cZc => walk_at "mine ne"); (case k10Zc => walk_at "mine fine"); k_whole; intro sqZn t1qZn t2qZn nqZn FqZn NqZn gqZn oqZn)))
  trivial
theorem Mine.rstP18 : True := by w_top off; trivial
namespace Mine
theorem Parts.but2 {P R : Addr} {ws : List (Addr × Str)} {news : List (Addr × Obj)} (h : Parts ws news) (hn : ∀ a ∈ ws, a.1 ≠ P) (hn2 : ∀ a ∈ ws, a.1 ≠ R) : Parts ws (but2 P R news) := fun a ha => by
  obtain ⟨tf, tp, hm⟩ := h a ha
  exact ⟨tf, tp, List.mem_filter.mpr ⟨hm, by simp only [Bool.and_eq_true, decide_eq_true_eq]; exact ⟨hn a ha, hn2 a ha⟩⟩⟩
theorem use_onlyws {x dx : Addr} {ws : List (Addr × Str)} {n : Nat} {t1 t2 : Tok} {ps qs : Array Value} {news : List (Addr × Obj)} {nw : Obj → List (Addr × Obj)} {nw2 : Obj → Obj → List (Addr × Obj)} {p : Program} {loose : List Str} {mean : ExcName → Option Value} {mg mb : Str → Option Value} {w : World} {dp un : Nat} {gd : Option (List Code)} {cn : Str} {cs : Scope} {ca : Addr} {ccd : Value} {cl : List (Str × Addr)} {outer : List Env} {A₀ : Around} {base h₀ : Heap} {L : Addr} {m : Str → Option Value} {s : Shared} {Q E : Value → Shared → Prop}
  (B : Below A₀ base outer h₀) (F : Fr h₀ L s.heap m) (X : (hd.heap_1 w.params).In h₀) (N : News h₀ L s.heap (news)) (T : Top p loose mean mg mb h₀) (hk : cs.kind = .function) (hd' : dp + 3 < recursionLimit) (hu : un + 8 * 4 < cLine) (h1 : (x, accO dx (refs ws) n) ∈ news) (h2 : (dx, dictOf (accE w t1 t2) 1) ∈ news) (U : ∀ o', Upd 140 (tabO ps) o' news (nw o')) (h147 : (147, tabO qs) ∈ news) (U2 : ∀ o1 o', Upd 147 (tabO qs) o' (nw o1) (nw2 o1 o')) (hws : Parts ws news) (hf : Fine ws) (htr : TriplesOk ps.toList) (htr2 : TriplesOk qs.toList) (G : AllBare s.gens) (hpos : partsLen ws ≠ 0) (hsp : Txt.isspace (partsTxt ws) = false)
  (ret : ∀ s' more more2, Fr h₀ L s'.heap m → News h₀ L s'.heap (nw2 (tabO (ps ++ more)) (tabO (qs ++ more2))) → TriplesOk (ps ++ more).toList → TriplesOk (qs ++ more2).toList → AllBare s'.gens → s'.os = s.os → Q (.bool false) s') :
  wpAny (model Challenge.rw_wo0053_01.row.prog w) (ktrTop dp un gd cn cs L ca ccd cl outer) (call (.ref 167) [.ref x]) Q E s := by
  have h140 := upd_mem (U (tabO ps))
  have N0 : News h₀ L s.heap ((x, accO dx (refs ws) n) :: (dx, dictOf (accE w t1 t2) 1) :: (140, tabO ps) :: (147, tabO qs) :: but2 140 147 news) := fun p hp => by
    rcases List.mem_cons.mp hp with rfl | hp
    · exact N _ h1
    rcases List.mem_cons.mp hp with rfl | hp
    · exact N _ h2
    rcases List.mem_cons.mp hp with rfl | hp
    · exact N _ h140
    rcases List.mem_cons.mp hp with rfl | hp
    · exact N _ h147
    exact N _ (List.mem_filter.mp hp).1
  refine con_onlyws (rest := but2 140 147 news) B F X N0 T hk hd' hu but2_x but2_dx (ne_tab N h1 h140 (by intro e; cases e)) (ne_tab N h2 h140 (by intro e; cases e)) (ne_tab N h1 h147 (by intro e; cases e)) (ne_tab N h2 h147 (by intro e; cases e)) (hws.but2 hf.tab1 hf.tab2) hf htr htr2 G hpos fun s' more more2 F' N' a b c d => ?_
  rw [hsp]
  exact ret s' more more2 F' (back2 (own := [(x, accO dx (refs ws) n), (dx, dictOf (accE w t1 t2) 1), (140, tabO (ps ++ more)), (147, tabO (qs ++ more2))]) (U _) (U2 _ _) N' (.tail _ (.tail _ (.head _))) (.tail _ (.tail _ (.tail _ (.head _))))) a b c d
theorem join_snoc (l : List Str) (y : Str) : ∃ u, Txt.join (Str.ofString "") (l ++ [y]) = u ++ y := by
  rw [eq_of_beq (join_plain_closes _ _)]
  have h0 : Str.ofString "" = ⟨#[]⟩ := by decide +kernel
  rw [h0]
  induction l with
  | nil => exact ⟨⟨#[]⟩, by
      rw [List.nil_append, join_nil_cons]
      show y ++ (⟨#[]⟩ : Str) = (⟨#[]⟩ : Str) ++ y
      rw [Str.append_right_empty rfl, Str.append_left_empty rfl]⟩
  | cons a r ih =>
    obtain ⟨u, hu⟩ := ih
    refine ⟨a ++ u, ?_⟩
    rw [List.cons_append, join_nil_cons, hu]
    exact (Str.append_assoc ..).symm
theorem space_no (ws : List (Addr × Str)) (a : Addr) (y : Str) : Txt.isspace (partsTxt (ws ++ [(a, y ++ Str.ofString ";")])) = false := by
  unfold partsTxt
  rw [List.map_append]
  obtain ⟨u, hu⟩ := join_snoc (ws.map (·.2)) (y ++ Str.ofString ";")
  show Txt.isspace (Txt.join _ (ws.map (·.2) ++ [y ++ Str.ofString ";"])) = false
  rw [hu]
  have hc : (Str.ofString ";").cps = #[59] := by decide +kernel
  have : (u ++ (y ++ Str.ofString ";")).cps.all Unicode.isSpace = false := by
    rw [Str.cps_append, Str.cps_append, hc, Array.all_append, Array.all_append]
    have : (#[59] : Array Nat).all Unicode.isSpace = false := by decide +kernel
    rw [this]; simp
  unfold Txt.isspace
  rw [this, Bool.and_false]
end Mine

theorem Mine.rstP18b : True := by w_top off; trivial
namespace Mine
section
variable {M : Model} {A : Around} {E : Value → Shared → Prop} {s : Shared} {env : Env}
theorem starMeth {o e : Expr} {name : Str} {apos p pos : Pos} {Q : Value → Shared → Prop}
    (h : wpAny M A (eval o env) (fun ov s₁ => wpAny M A (getAttr ov name true) (fun f s₂ => wpAny M A (callWith pos f [] (backTo pos (starEach [.Starred e p] env)) []) Q E s₂) E s₁) E s)
    (he : eval (.Call (.Attribute o name apos) [.Starred e p] [] pos) env = (do
      let ov ← eval o env
      standAt apos.atName
      let (f, first) ← holding [ov] (do pure (← getAttr ov name true, []))
      callWith pos f first (backTo pos (starEach [.Starred e p] env)) []) := by rfl) :
    wpAny M A (eval (.Call (.Attribute o name apos) [.Starred e p] [] pos) env) Q E s := by
  rw [he]
  refine wpAny_bind (wpAny_mono h (fun ov s₁ h₁ => wpAny_bind (wpAny_standAt (wpAny_bind (wpAny_holding (wpAny_bind (wpAny_mono h₁ (fun f s₂ h₂ => wpAny_pure ?_) fun _ _ x => x)))))) fun _ _ x => x)
  exact h₂
end
section
variable {prog : Program} {w : World} {A : Around} {E : Value → Shared → Prop} {s : Shared} {h₀ : Heap} {L : Addr} {m : Str → Option Value} {news : List (Addr × Obj)} {K : Frag} {x dx : Addr} {name : Str} {its : List Value} {n k : Nat} {es : List DictEntry}
theorem accK_bound {f : Addr} {expr : Bool} {Q : Value → Shared → Prop} (F : Fr h₀ L s.heap m) (X₀ : K.In h₀) (N : News h₀ L s.heap news) (h1 : (x, accO dx its n) ∈ news) (h2 : (dx, dictOf es k) ∈ news)
    (hm : mroIn K 178 (.type "list") = some true) (hga : findIn K (.ref 178) "__getattribute__" = some (some (.builtin "list.__getattribute__"))) (hk : findIn K (.ref 178) "__getattr__" = some none) (hh : hasDictIn K 178 = true)
    (ha : findIn K (.ref 178) name = some (some (.ref f))) (hf : isFn K (.ref f) = true) (hgf : specialIn K (.ref f) "__get__" = some (some (.builtin "function.__get__"))) (ht : takesIn K (.ref f) = some false) (hc : copiedNames.contains name = false) (hl : getL name es = some none)
    (h : ∀ q h', Fr h₀ L h' m → News h₀ L h' ((q, methodObj (.ref f) (.ref x)) :: news) → (∀ p ∈ news, p.1 < q) → Q (.ref q) { s with heap := h', toks := s.toks + 1 }) :
    wpAny (model prog w) A (getAttr (.ref x) name expr) Q E s := by
  refine sub_getOpen (X₀.keeps F.keep) (accI N h1 h2) hm hga hk (findObj_fn hh ha hgf ht hc (by show lookIn name (dictOf es k) = _; rw [lookIn_dict, hl])) ?_ (by intro e; cases e)
  show wpAny _ _ (holding [.ref f] (call (.builtin "function.__get__") [.ref f, .ref x, .ref 178]) >>= ret) _ _ _
  refine wpAny_bind (wpAny_holding (wpAny_mono (Q := fun v s' => wpAny (model prog w) A (handedOut v) Q E s') (E := fun _ _ => False) ?_ (fun v s' z => wpAny_pure ⟨v, rfl, z⟩) fun _ _ z => z))
  exact wpAny_call (fn_get (s := { s with toks := s.toks + 1 }) (X₀.keeps F.keep) (beq_iff_eq.mp hf) (handed_on rfl (h s.heap.objs.size _ (F.push _) (N.push F _) fun p hp => Heap.lt_size (N p hp).1)))
theorem callWith_MS {q g : Addr} {self : Value} {e : Expr} {p pos : Pos} {env : Env} {Q : Value → Shared → Prop} (_X₀ : K.In h₀) (_N : News h₀ L s.heap news) (_hq : (q, methodObj (.ref g) self) ∈ news) (hf : fnIn K g = true) (h : wpAny (model prog w) A (eval e env) (fun v s₁ => StarOf (model prog w) A E v (fun vs s₂ => MethP K q g self s₂.heap ∧ wpAny (model prog w) A (call (.ref q) vs) Q E s₂) s₁) E s)
    (he : starEach [.Starred e p] env = [(true, eval e env)] := by rfl) :
    wpAny (model prog w) A (callWith pos (.ref q) [] (backTo pos (starEach [.Starred e p] env)) []) Q E s := by
  rw [he]
  exact ks_call rfl (keeps_M hf) (ks_lone h)
theorem callMS {q g : Addr} {self : Value} {vs : List Value} {Q : Value → Shared → Prop} (X₀ : K.In h₀) (F : Fr h₀ L s.heap m) (N : News h₀ L s.heap news) (hq : (q, methodObj (.ref g) self) ∈ news)
    (h : codeAny (model prog w) A (.call (.ref g) ⟨self :: vs, []⟩) (fun r s' => match r with | .ok (.ret v) => Q v s' | .ok _ => False | .error e => E e s') s) : MethP K q g self s.heap ∧ wpAny (model prog w) A (call (.ref q) vs) Q E s :=
  ⟨methP N hq (X₀.keeps F.keep), call_meth N hq h⟩
end
theorem code_push {x dx : Addr} {its : List Value} {n : Nat} {t1 t2 : Tok} {u v : Value} {p : Program} {loose : List Str} {mean : ExcName → Option Value} {mg mb : Str → Option Value} {w : World} {dp un : Nat} {gd : Option (List Code)} {cn : Str} {cs : Scope} {ca : Addr} {ccd : Value} {cl : List (Str × Addr)} {outer : List Env} {A₀ : Around} {base h₀ : Heap} {L : Addr} {m : Str → Option Value} {s : Shared} {Q E : Value → Shared → Prop} {rest : List (Addr × Obj)}
  (B : Below A₀ base outer h₀) (F : Fr h₀ L s.heap m) (X : (hd.heap_1 w.params).In h₀) (N : News h₀ L s.heap ((x, accO dx its n) :: (dx, dictOf (accE w t1 t2) 1) :: rest)) (T : Top p loose mean mg mb h₀) (hk : cs.kind = .function) (hd' : dp + 1 < recursionLimit) (hu : un + 8 * 1 < cLine)
  (hr : ∀ p ∈ rest, p.1 ≠ x) (hdx : @Ne Nat dx x) (hsz : its.length ≤ 1000)
  (ret : ∀ s' t, Fr h₀ L s'.heap m → News h₀ L s'.heap ((t, tupO u v) :: (x, accO dx (its ++ [.ref t]) (n + 1)) :: (dx, dictOf (accE w t1 t2) 1) :: rest) → s'.gens = s.gens → s'.os = s.os → (@LT.lt Nat _ x t ∧ @LT.lt Nat _ dx t ∧ AllLt t rest) → Q .none s') :
  codeAny (model Challenge.rw_wo0053_01.row.prog w) (ktrTop dp un gd cn cs L ca ccd cl outer) (.call (.ref 122) ⟨[.ref x, u, v], []⟩) (fun r s' => match r with | .ok (.ret v) => Q v s' | .ok _ => False | .error e => E e s') s := by
  revert X; k_fill; intro X
  k_dflt (walk_at "mine enter")
  k_steps
  all_goals (exact ret _ _ (by k_asm) (by walk_at "mine news") rfl rfl (by assumption))
theorem code_pushP {x dx : Addr} {ws : List (Addr × Str)} {n : Nat} {t1 t2 tf tz : Tok} {z : Str} {o147 : Obj} {news : List (Addr × Obj)} {nw : Obj → List (Addr × Obj)} {p : Program} {loose : List Str} {mean : ExcName → Option Value} {mg mb : Str → Option Value} {w : World} {dp un : Nat} {gd : Option (List Code)} {cn : Str} {cs : Scope} {ca : Addr} {ccd : Value} {cl : List (Str × Addr)} {outer : List Env} {A₀ : Around} {base h₀ : Heap} {L : Addr} {m : Str → Option Value} {s : Shared} {Q E : Value → Shared → Prop}
  (B : Below A₀ base outer h₀) (F : Fr h₀ L s.heap m) (X : (hd.heap_1 w.params).In h₀) (N : News h₀ L s.heap (news)) (T : Top p loose mean mg mb h₀) (hk : cs.kind = .function) (hd' : dp + 1 < recursionLimit) (hu : un + 8 * 1 < cLine) (h2 : (dx, dictOf (accE w t1 t2) 1) ∈ news) (hdx : @Ne Nat dx x) (hf : Fine ws) (hn : ws.length < 1000) (hz : z.length ≤ 1000) (h147 : (147, o147) ∈ news) (U : ∀ o', Upd x (accO dx (refs ws) n) o' news (nw o'))
  (ret : ∀ s' t, Fr h₀ L s'.heap m → News h₀ L s'.heap ((t, tupO (.str (Str.ofString "") tf) (.str z tz)) :: nw (accO dx (refs (ws ++ [(t, z)])) (n + 1))) → Fine (ws ++ [(t, z)]) → s'.gens = s.gens → s'.os = s.os → (∀ p ∈ news, @LT.lt Nat _ p.1 t) → Q .none s') :
  codeAny (model Challenge.rw_wo0053_01.row.prog w) (ktrTop dp un gd cn cs L ca ccd cl outer) (.call (.ref 122) ⟨[.ref x, .str (Str.ofString "") tf, .str z tz], []⟩) (fun r s' => match r with | .ok (.ret v) => Q v s' | .ok _ => False | .error e => E e s') s := by
  refine code_push (rest := but2 x dx news) B F X (own2 N (upd_mem (U (accO dx (refs ws) n))) h2) T hk hd' hu but2_x hdx (by rw [List.length_map]; exact hf.few) fun s' t F' N' g o lt => ret s' t F' (fun p hp => ?_) (hf.push hz hn (but2_lt lt _ h147)) g o (but2_lt lt)
  rw [refs, List.map_append] at hp
  rcases List.mem_cons.mp hp with rfl | hp
  · exact N' _ (.head _)
  · exact back1 (own := [(t, tupO (.str (Str.ofString "") tf) (.str z tz)), (x, accO dx (refs ws ++ [.ref t]) (n + 1)), (dx, dictOf (accE w t1 t2) 1)]) N h2 (U _) N' (.tail _ (.head _)) (.tail _ (.tail _ (.head _))) p hp
end Mine

section
local macro_rules | `(tactic| k_mem) => `(tactic| with_reducible_and_instances assumption)
theorem Mine.regF11 : True := by
  k_with_none
  k_with "own kne" => ((refine neN ?_; (try dsimp only); walk_at "mine apart"))
  k_with "own ktrroom" => (((try simp only [depth_under_make, depth_under_kw, depth_in1, depth_deeper, depth_caller]); (try dsimp only [ktrTop]); walk_at "mine near"))
  k_with "own ktrunits" => (((try simp only [units_in1, units_deeper, Around.mark_units, units_caller]); (try dsimp only [ktrTop]); walk_at "mine near"))
  k_with "mine near" => (((try simp only [Nat.add_assoc]); first | exact Mine.roomOf ‹_› (by decide) | exact Mine.roomOf0 ‹_› | decide))
  k_with "mine apart" => (first | assumption | exact Ne.symm ‹_› | exact Nat.ne_of_lt ‹_› | exact Nat.ne_of_gt ‹_› | exact Nat.ne_of_lt (Mine.A0 ‹_›) | exact Nat.ne_of_gt (Mine.A0 ‹_›) | exact Mine.A0 ‹_› | exact Ne.symm (Mine.A0 ‹_›) | exact Nat.ne_of_lt (Mine.A1 ‹_›) | exact Nat.ne_of_gt (Mine.A1 ‹_›) | exact Mine.A1 ‹_› | exact Ne.symm (Mine.A1 ‹_›) | exact Nat.ne_of_lt (Mine.A2 ‹_›) | exact Nat.ne_of_gt (Mine.A2 ‹_›) | exact Mine.A2 ‹_› | exact Ne.symm (Mine.A2 ‹_›) | exact Nat.ne_of_lt (Mine.A3 ‹_›) | exact Nat.ne_of_gt (Mine.A3 ‹_›) | exact Mine.A3 ‹_› | exact Ne.symm (Mine.A3 ‹_›) | exact Nat.ne_of_lt (Mine.A4 ‹_›) | exact Nat.ne_of_gt (Mine.A4 ‹_›) | exact Mine.A4 ‹_› | exact Ne.symm (Mine.A4 ‹_›) | exact Nat.ne_of_lt (Mine.A5 ‹_›) | exact Nat.ne_of_gt (Mine.A5 ‹_›) | exact Mine.A5 ‹_› | exact Ne.symm (Mine.A5 ‹_›) | exact Nat.ne_of_lt (Mine.A6 ‹_›) | exact Nat.ne_of_gt (Mine.A6 ‹_›) | exact Mine.A6 ‹_› | exact Ne.symm (Mine.A6 ‹_›) | exact Nat.ne_of_lt (Mine.A7 ‹_›) | exact Nat.ne_of_gt (Mine.A7 ‹_›) | exact Mine.A7 ‹_› | exact Ne.symm (Mine.A7 ‹_›) | exact Nat.ne_of_lt (Mine.A8 ‹_›) | exact Nat.ne_of_gt (Mine.A8 ‹_›) | exact Mine.A8 ‹_› | exact Ne.symm (Mine.A8 ‹_›) | exact Nat.ne_of_lt (Mine.A9 ‹_›) | exact Nat.ne_of_gt (Mine.A9 ‹_›) | exact Mine.A9 ‹_› | exact Ne.symm (Mine.A9 ‹_›) | exact Nat.ne_of_lt (Mine.A10 ‹_›) | exact Nat.ne_of_gt (Mine.A10 ‹_›) | exact Mine.A10 ‹_› | exact Ne.symm (Mine.A10 ‹_›) | decide | omega)
  k_with "getMethod ref" => ((k_here; k_dflt (refine' Mine.accK_method ?k1Zc ?k2Zc ?k3Zc ?k4Zc ?k5Zc ?k6Zc ?k7Zc ?k8Zc ?k9Zc ?k10Zc ?k11Zc ?_; (case k1Zc => k_asm); (case k2Zc => k_asm); (case k3Zc => k_asm); (case k4Zc => k_mem); (case k5Zc => k_mem); (case k6Zc => k_is); (case k7Zc => k_is); (case k8Zc => k_is); (case k9Zc => k_is); (case k10Zc => decide); (case k11Zc => k_get); k_whole)))
  k_with "call builtin:list.append" => ((k_here; (with_reducible show wpAny _ _ (call (Value.builtin _) [Value.ref _, _]) _ _ _); k_dflt (refine' Mine.accK_append ?k1Zc ?k2Zc ?k3Zc ?k4Zc ?k5Zc ?k6Zc ?_ ?zZc; (case k1Zc => k_asm); (case k2Zc => k_asm); (case k3Zc => k_asm); (case k6Zc => k_upd); (case k4Zc => k_mem); (case k5Zc => k_is); (case zZc => first | size_fits | (rw [sizeLine_eq]; omega)); k_whole); intro hqZn FqZn NqZn; (try k_sweep)))
  k_with "getAttr ref" => ((k_here; k_dflt (refine' Mine.accK_get ?k1Zc ?k2Zc ?k3Zc ?k4Zc ?k5Zc ?k6Zc ?k7Zc ?k8Zc ?k9Zc ?k10Zc ?k11Zc ?k12Zc ?k13Zc ?_; (case k1Zc => k_asm); (case k2Zc => k_asm); (case k3Zc => k_asm); (case k4Zc => k_mem); (case k5Zc => k_mem); (case k6Zc => k_is); (case k7Zc => k_is); (case k8Zc => k_is); (case k9Zc => k_is); (case k10Zc => k_is); (case k11Zc => k_is); (case k12Zc => k_get); (case k13Zc => k_handed); k_whole)))
  k_with "setAttr ref" => ((k_here; k_dflt (refine' Mine.accK_set ?k1Zc ?k2Zc ?k3Zc ?k4Zc ?k5Zc ?k6Zc ?k7Zc ?k8Zc ?k9Zc ?k10Zc ?k11Zc ?k12Zc ?k13Zc ?k14Zc ?_; (case k1Zc => k_asm); (case k2Zc => k_asm); (case k3Zc => k_asm); (case k4Zc => k_mem); (case k5Zc => k_mem); (case k6Zc => k_is); (case k7Zc => k_is); (case k8Zc => rfl); (case k9Zc => rfl); (case k10Zc => k_is); (case k11Zc => k_get); (case k12Zc => k_put); (case k13Zc => k_upd); (case k14Zc => exact Nat.le_of_ble_eq_true rfl); k_whole); intro hqZn FqZn NqZn; (try k_sweep)))
  k_with "call builtin:len" => ((k_here; (with_reducible show wpAny _ _ (call (Value.builtin "len") [Value.ref _]) _ _ _); k_dflt (refine' Mine.accK_len ?k1Zc ?k2Zc ?k3Zc ?k4Zc ?k5Zc ?k6Zc ?k7Zc ?_; (case k1Zc => k_asm); (case k2Zc => k_asm); (case k3Zc => k_asm); (case k4Zc => k_mem); (case k5Zc => k_mem); (case k6Zc => k_is); (case k7Zc => k_is); k_whole)))
  k_with "subscriptTail" => ((k_here; (with_reducible show wpAny _ _ (subscriptTail _ _ (Value.ref _) (Value.ref _)) _ _ _); k_dflt (refine' Mine.accK_slice ?k1Zc ?k2Zc ?k3Zc ?k4Zc ?k5Zc ?k6Zc ?k7Zc ?k8Zc ?k9Zc ?k10Zc ?k11Zc ?zZc ?_ ?k12Zc; (case k1Zc => k_asm); (case k2Zc => k_asm); (case k3Zc => k_asm); (case k4Zc => k_mem); (case k5Zc => k_mem); (case k6Zc => k_is); (case k7Zc => k_is); (case k8Zc => k_is); (case k9Zc => first | exact .none | exact .int _ _); (case k10Zc => first | exact .none | exact .int _ _); (case k11Zc => exact Mine.accPick _ _); (case zZc => first | size_fits | (rw [sizeLine_eq]; omega)); (case k12Zc => intro slZn; with_unfolding_all rfl); k_whole); intro lqZn hqZn FqZn NqZn l1Zn; (try k_lt l1Zn); (try k_sweep)))
  k_with "setItem ref" => ((k_here; (with_reducible show wpAny _ _ (setItem (Value.ref _) (Value.ref _) (Value.ref _)) _ _ _); k_dflt (refine' Mine.accK_setSlice ?k1Zc ?k2Zc ?k3Zc ?k4Zc ?k5Zc ?k6Zc ?k7Zc ?k8Zc ?k10Zc ?k11Zc ?k12Zc ?k13Zc ?k14Zc ?zZc ?_; (case k1Zc => k_asm); (case k2Zc => k_asm); (case k3Zc => k_asm); (case k4Zc => k_mem); (case k5Zc => k_mem); (case k6Zc => k_is); (case k7Zc => k_is); (case k8Zc => k_is); (case k10Zc => k_mem); (case k11Zc => first | exact .none | exact .int _ _); (case k12Zc => first | exact .none | exact .int _ _); (case k13Zc => first | exact Mine.accB_all _ _ | exact Mine.accB_del _ _ (by assumption)); (case k14Zc => k_upd); (case zZc => first | size_fits | (simp only [List.length_nil, List.length_cons]; rw [sizeLine_eq]; omega)); k_whole); intro hqZn FqZn NqZn; (try k_sweep)))
  k_with "subscriptTail" => ((k_here; (with_reducible show wpAny _ _ (subscriptTail _ _ (Value.ref _) (Value.int _ _)) _ _ _); k_dflt (refine' Mine.accK_item ?k1Zc ?k2Zc ?k3Zc ?k4Zc ?k5Zc ?k6Zc ?k7Zc ?k8Zc ?k9Zc ?k10Zc ?k11Zc ?_ ?k12Zc; (case k1Zc => k_asm); (case k2Zc => k_asm); (case k3Zc => k_asm); (case k4Zc => k_mem); (case k5Zc => k_mem); (case k6Zc => k_is); (case k7Zc => k_is); (case k8Zc => k_is); (case k9Zc => omega); (case k10Zc => omega); (case k11Zc => first | assumption | rfl); (case k12Zc => with_unfolding_all rfl); k_whole)))
  k_with "mine enter" => ((refine' code_def ?k1Zc ?k2Zc ?k3Zc ?k4Zc ?k5Zc ?kAZc ?kFZc ?kKZc ?k6Zc ?k7Zc ?k8Zc ?k9Zc ?kBZc ?_ ?c2Zc ?c3Zc ?c4Zc ?c5Zc; (case kAZc => exact rfl); (case kFZc => exact rfl); (case kKZc => assumption); (case k1Zc => k_asm); (case k2Zc => k_asm); (case k3Zc => k_asm); (case k4Zc => k_asm); (case k5Zc => k_asm); (case k6Zc => k_is); (case k7Zc => k_is); (case k8Zc => ktr_room); (case k9Zc => first | exact BindsTo.of_eq rfl | exact binds_K (by k_in) rfl (by k_is) rfl rfl rfl); (case c5Zc => decide); (case kBZc => exact locs rfl); (case c2Zc => exact rfl); (case c3Zc => exact rfl); (case c4Zc => exact rfl); k_whole; intro gqZn LqZn hqZn FGqZn FqZn NqZn BqZn XqZn TqZn; (try dsimp only); (try k_lift BqZn); (try k_fold)))
  k_with "mine sub" => (first | exact fun _ h => h | (refine' List.forall_mem_cons.mpr ⟨?maZc, ?mbZc⟩; (case maZc => k_mem); (case mbZc => walk_at "mine sub")) | (intro pZn hpZn; (repeat' first | exact hpZn | apply List.Mem.tail)))
  k_with "mine news" => (first | k_asm | (refine' cb_drop ?cbNZc ?cbSZc; (case cbNZc => assumption); (case cbSZc => walk_at "mine sub")))
  k_with "mine senter" => ((refine' ks_code_super ?k1Zc ?k2Zc ?k3Zc ?k4Zc ?k5Zc ?kAZc ?kFZc ?kKZc ?k6Zc ?k7Zc ?k8Zc ?k9Zc ?kBZc ?_ ?c1Zc ?c2Zc ?c3Zc ?c4Zc; (case kAZc => exact rfl); (case kFZc => exact rfl); (case kKZc => assumption); (case k1Zc => k_asm); (case k2Zc => k_asm); (case k3Zc => k_asm); (case k4Zc => k_asm); (case k5Zc => k_asm); (case k6Zc => k_is); (case k7Zc => k_is); (case k8Zc => ktr_room); (case k9Zc => first | exact BindsTo.of_eq rfl | exact binds_K (by k_in) rfl (by k_is) rfl rfl rfl); (case kBZc => exact locs rfl); (case c1Zc => decide); (case c2Zc => exact rfl); (case c3Zc => exact rfl); (case c4Zc => exact rfl); intro gqZn LqZn hqZn FGqZn FqZn NqZn BqZn XqZn TqZn l1Zn; (try k_lt l1Zn); (try dsimp only); (try k_lift BqZn)))
  k_with "wpAt" => ((ks_step "attributeBase Call"; k_here; k_dflt (refine ks_node (by k_asm) (by k_asm) (by k_asm) (by k_asm) (by k_is) (by rfl) (by rfl) (Mine.accI (by k_asm) (by k_mem) (by k_mem)) (by k_is) (by rfl) (by first | rfl | decide +kernel) (by k_is) (by k_is) (by k_is) (by k_is) (by decide) (by rfl) (by rfl) (by rfl) (by rfl) (by decide +kernel) (by first | boot_by_name | rfl | kernel_rfl) ?_; intro soqZn hqZn FqZn NqZn l1Zn; (try k_lt l1Zn))))
  k_with "getMethod ref" => ((k_here; k_dflt (first | ((with_reducible show wpAny _ _ (getMethod (Value.ref _) (PySem.Str.ofString "pop") _) _ _ _); refine' Mine.accK_supPop ?k1Zc ?k2Zc ?k3Zc ?k4Zc ?k5Zc ?k6Zc ?k7Zc ?k8Zc ?k9Zc ?k10Zc ?_; (case k1Zc => k_asm); (case k2Zc => k_asm); (case k3Zc => k_asm); (case k4Zc => k_mem); (case k5Zc => k_mem); (case k6Zc => k_mem); (case k7Zc => k_is); (case k8Zc => k_is); (case k9Zc => ks_is); (case k10Zc => k_is); intro qqZn hqZn FqZn NqZn l1Zn; (try k_lt l1Zn)) | ((with_reducible show wpAny _ _ (getMethod (Value.ref _) (PySem.Str.ofString "__len__") _) _ _ _); refine' Mine.accK_supLen ?k1Zc ?k2Zc ?k3Zc ?k4Zc ?k5Zc ?k6Zc ?k7Zc ?k8Zc ?k9Zc ?k10Zc ?_; (case k1Zc => k_asm); (case k2Zc => k_asm); (case k3Zc => k_asm); (case k4Zc => k_mem); (case k5Zc => k_mem); (case k6Zc => k_mem); (case k7Zc => k_is); (case k8Zc => k_is); (case k9Zc => ks_is); (case k10Zc => k_is); intro qqZn hqZn FqZn NqZn l1Zn; (try k_lt l1Zn)) | ((with_reducible show wpAny _ _ (getMethod (Value.ref _) (PySem.Str.ofString "__init__") _) _ _ _); refine' Mine.accK_supInit ?k1Zc ?k2Zc ?k3Zc ?k4Zc ?k5Zc ?k6Zc ?k7Zc ?k8Zc ?k9Zc ?k10Zc ?_; (case k1Zc => k_asm); (case k2Zc => k_asm); (case k3Zc => k_asm); (case k4Zc => k_mem); (case k5Zc => k_mem); (case k6Zc => k_mem); (case k7Zc => k_is); (case k8Zc => k_is); (case k9Zc => ks_is); (case k10Zc => k_is); intro qqZn hqZn FqZn NqZn l1Zn; (try k_lt l1Zn)))))
  k_with "callWith ref" => ((k_here; (with_reducible show wpAny _ _ (callWith _ (Value.ref _) [] (backTo _ (starEach [] _)) []) _ _ _); k_dflt (first | (refine' Mine.callLen ?k1Zc ?k2Zc ?k3Zc ?_; (case k1Zc => k_asm); (case k2Zc => k_mem); (case k3Zc => k_mem); k_whole) | (refine' Mine.callInit ?k0Zc ?k1Zc ?k2Zc ?k3Zc ?k4Zc ?_; (case k0Zc => k_asm); (case k1Zc => k_asm); (case k2Zc => k_mem); (case k3Zc => k_upd); (case k4Zc => first | size_fits | (rw [sizeLine_eq]; omega) | (rw [sizeLine_eq]; exact Nat.le_of_ble_eq_true rfl)); k_whole; intro hqZn FqZn NqZn; (try k_sweep)) | (refine' Mine.callPop ?k0Zc ?kXZc ?k1Zc ?k2Zc ?k3Zc ?k4Zc ?k5Zc ?k6Zc ?k7Zc ?k8Zc ?k9Zc ?k10Zc ?_; (case k0Zc => k_asm); (case kXZc => k_asm); (case k1Zc => k_asm); (case k2Zc => k_mem); (case k8Zc => first | assumption | rfl); (case k9Zc => k_upd); (case k3Zc => k_mem); (case k4Zc => k_is); (case k5Zc => k_is); (case k6Zc => rfl); (case k7Zc => k_is); (case k10Zc => rw [sizeLine_eq]; simp at *; omega); k_whole; intro hqZn FqZn NqZn; (try k_sweep)))))
  k_with "wpAt" => ((dsimp only; ks_step "execs cons"; refine ks_wpAt_execs_cons ?_))
  k_with "wpAt" => ((ks_step "eval Call"; k_dflt (refine ks_wpAt_MethodCall ?_)))
  k_with "mine os" => (first | rfl | assumption | (simp only [*]; done))
  k_with "wpAt" => ((ks_step "exec Expr"; k_dflt (refine ks_wpAt_Expr_any ?_)))
  k_with "mine upto" => (repeat' ((fail_if_success (with_reducible show wpAny _ _ (exec (Stmt.For _ _ _ _ _) _) _ _ _)); first | (k_unfold; (try dsimp only)) | (k_end; wrow_close) | walk1 | (dsimp only; walk1) | (leave1; try dsimp only)))
  k_with "mine parts" => (repeat' (first | assumption | apply Mine.Parts.tail))
  k_with "mine bare" => (first | assumption | (simp only [*]; done))
  k_with "call ref" => ((k_here; (with_reducible show wpAny _ _ (call (Value.ref 175) _) _ _ _); k_dflt (refine' Mine.use_count ?k1Zc ?k2Zc ?k3Zc ?k4Zc ?k5Zc ?k6Zc ?k7Zc ?k8Zc ?k9Zc ?k10Zc ?_; (case k1Zc => k_asm); (case k2Zc => k_asm); (case k3Zc => k_asm); (case k4Zc => k_asm); (case k5Zc => k_asm); (case k6Zc => first | exact rfl | assumption); (case k7Zc => ktr_room); (case k8Zc => ktr_units); (case k9Zc => k_mem); (case k10Zc => k_mem); k_whole; intro sqZn tqZn FqZn NqZn gqZn oqZn)))
  k_with "call ref" => ((k_here; (with_reducible show wpAny _ _ (call (Value.ref 122) _) _ _ _); k_dflt (refine' Mine.use_push ?k1Zc ?k2Zc ?k3Zc ?k4Zc ?k5Zc ?k6Zc ?k7Zc ?k8Zc ?k9Zc ?k10Zc ?k11Zc ?k12Zc ?_; (case k1Zc => k_asm); (case k2Zc => k_asm); (case k3Zc => k_asm); (case k4Zc => k_asm); (case k5Zc => k_asm); (case k6Zc => first | exact rfl | assumption); (case k7Zc => ktr_room); (case k8Zc => ktr_units); (case k12Zc => intro oqZn; k_upd); (case k9Zc => k_mem); (case k10Zc => assumption); (case k11Zc => walk_at "mine size"); k_whole; intro sqZn tqZn FqZn NqZn gqZn oqZn lqZn; (try k_lt lqZn))))
  k_with "call ref" => ((k_here; (with_reducible show wpAny _ _ (call (Value.ref 130) _) _ _ _); k_dflt (refine' Mine.use_pop_from ?k1Zc ?k2Zc ?k3Zc ?k4Zc ?k5Zc ?k6Zc ?k7Zc ?k8Zc ?k9Zc ?k10Zc ?k11Zc ?k12Zc ?k13Zc ?_; (case k1Zc => k_asm); (case k2Zc => k_asm); (case k3Zc => k_asm); (case k4Zc => k_asm); (case k5Zc => k_asm); (case k6Zc => first | exact rfl | assumption); (case k7Zc => ktr_room); (case k8Zc => ktr_units); (case k13Zc => intro oqZn; k_upd); (case k9Zc => k_mem); (case k10Zc => assumption); (case k11Zc => walk_at "mine size"); (case k12Zc => walk_at "mine size"); k_whole; intro sqZn tqZn nqZn FqZn NqZn gqZn oqZn lqZn; (try k_lt lqZn))))
  k_with "call ref" => ((k_here; (with_reducible show wpAny _ _ (call (Value.ref 138) _) _ _ _); k_dflt (refine' Mine.use_pop ?k1Zc ?k2Zc ?k3Zc ?k4Zc ?k5Zc ?k6Zc ?k7Zc ?k8Zc ?k9Zc ?k10Zc ?k11Zc ?k12Zc ?k13Zc ?_; (case k1Zc => k_asm); (case k2Zc => k_asm); (case k3Zc => k_asm); (case k4Zc => k_asm); (case k5Zc => k_asm); (case k6Zc => first | exact rfl | assumption); (case k7Zc => ktr_room); (case k8Zc => ktr_units); (case k13Zc => intro oqZn; k_upd); (case k9Zc => k_mem); (case k10Zc => assumption); (case k12Zc => first | assumption | walk_at "mine last"); (case k11Zc => walk_at "mine size"); k_whole; intro sqZn FqZn NqZn gqZn oqZn)))
  k_with "call ref" => ((k_here; (with_reducible show wpAny _ _ (call (Value.ref 160) _) _ _ _); k_dflt (refine' Mine.use_reset0 ?k1Zc ?k2Zc ?k3Zc ?k4Zc ?k5Zc ?k6Zc ?k7Zc ?k8Zc ?k9Zc ?k10Zc ?k11Zc ?k12Zc ?k13Zc ?_; (case k1Zc => k_asm); (case k2Zc => k_asm); (case k3Zc => k_asm); (case k4Zc => k_asm); (case k5Zc => k_asm); (case k6Zc => first | exact rfl | assumption); (case k7Zc => ktr_room); (case k8Zc => ktr_units); (case k12Zc => intro oqZn; k_upd); (case k13Zc => intro o1Zn oqZn; k_upd); (case k11Zc => k_mem); (case k9Zc => assumption); (case k10Zc => walk_at "mine size"); k_whole; intro sqZn t1qZn t2qZn nqZn FqZn NqZn gqZn oqZn)))
  k_with "call ref" => ((k_here; (with_reducible show wpAny _ _ (call (Value.ref 160) _) _ _ _); k_dflt (refine' Mine.use_reset ?k1Zc ?k2Zc ?k3Zc ?k4Zc ?k5Zc ?k6Zc ?k7Zc ?k8Zc ?k9Zc ?k9bZc ?k9cZc ?k10Zc ?k11Zc ?k11bZc ?k12Zc ?k13Zc ?_; (case k1Zc => k_asm); (case k2Zc => k_asm); (case k3Zc => k_asm); (case k4Zc => k_asm); (case k5Zc => k_asm); (case k6Zc => first | exact rfl | assumption); (case k7Zc => ktr_room); (case k8Zc => ktr_units); (case k12Zc => intro oqZn; k_upd); (case k13Zc => intro o1Zn oqZn; k_upd); (case k11Zc => k_mem); (case k11bZc => k_mem); (case k9Zc => first | assumption | omega); (case k9bZc => first | assumption | omega); (case k9cZc => first | assumption | omega); (case k10Zc => walk_at "mine size"); k_whole; intro sqZn t1qZn t2qZn nqZn FqZn NqZn gqZn oqZn)))
  k_with "truthy ref" => ((k_here; k_dflt (refine' Mine.acc_truthy ?k1Zc ?k2Zc ?k3Zc ?k4Zc ?k5Zc ?k6Zc ?k7Zc ?k8Zc ?k9Zc ?k10Zc ?k11Zc ?k12Zc ?k13Zc ?k14Zc ?k15Zc ?k16Zc ?k17Zc ?k18Zc ?_; (case k1Zc => k_asm); (case k2Zc => k_asm); (case k3Zc => k_asm); (case k4Zc => k_asm); (case k5Zc => k_asm); (case k6Zc => first | exact rfl | assumption); (case k7Zc => ktr_room); (case k8Zc => ktr_units); (case k11Zc => intro oqZn; k_upd); (case k9Zc => k_mem); (case k10Zc => k_mem); (case k12Zc => walk_at "mine parts"); (case k13Zc => assumption); (case k14Zc => assumption); (case k15Zc => walk_at "mine bare"); (case k16Zc => k_is); (case k17Zc => k_is); (case k18Zc => k_is); k_whole; intro sqZn moreqZn FqZn NqZn trqZn GqZn oqZn)))
  k_with "call builtin:len" => ((k_here; (with_reducible show wpAny _ _ (call (Value.builtin "len") [Value.ref _]) _ _ _); k_dflt (refine' Mine.acc_lenb ?k1Zc ?k2Zc ?k3Zc ?k4Zc ?k5Zc ?k6Zc ?k7Zc ?k8Zc ?k9Zc ?k10Zc ?k11Zc ?k12Zc ?k13Zc ?k14Zc ?k15Zc ?k17Zc ?k18Zc ?_; (case k1Zc => k_asm); (case k2Zc => k_asm); (case k3Zc => k_asm); (case k4Zc => k_asm); (case k5Zc => k_asm); (case k6Zc => first | exact rfl | assumption); (case k7Zc => ktr_room); (case k8Zc => ktr_units); (case k11Zc => intro oqZn; k_upd); (case k9Zc => k_mem); (case k10Zc => k_mem); (case k12Zc => walk_at "mine parts"); (case k13Zc => assumption); (case k14Zc => assumption); (case k15Zc => walk_at "mine bare"); (case k17Zc => k_is); (case k18Zc => k_is); k_whole; intro sqZn tqZn moreqZn FqZn NqZn trqZn GqZn oqZn)))
  k_with "call type:str" => ((k_here; (with_reducible show wpAny _ _ (call (Value.type "str") [Value.ref _]) _ _ _); k_dflt (refine' Mine.acc_strc ?k1Zc ?k2Zc ?k3Zc ?k4Zc ?k5Zc ?k6Zc ?k7Zc ?k8Zc ?k9Zc ?k10Zc ?k11Zc ?k12Zc ?k13Zc ?k14Zc ?k15Zc ?k17Zc ?k18Zc ?_; (case k1Zc => k_asm); (case k2Zc => k_asm); (case k3Zc => k_asm); (case k4Zc => k_asm); (case k5Zc => k_asm); (case k6Zc => first | exact rfl | assumption); (case k7Zc => ktr_room); (case k8Zc => ktr_units); (case k11Zc => intro oqZn; k_upd); (case k9Zc => k_mem); (case k10Zc => k_mem); (case k12Zc => walk_at "mine parts"); (case k13Zc => assumption); (case k14Zc => assumption); (case k15Zc => walk_at "mine bare"); (case k17Zc => k_is); (case k18Zc => k_is); k_whole; intro sqZn tqZn moreqZn FqZn NqZn trqZn GqZn oqZn)))
  k_with "mine size" => (first | assumption | omega | (simp only [List.length_append, List.length_cons, List.length_nil, List.length_map] at *; omega))
  k_with "call ref" => ((k_here; (with_reducible show wpAny _ _ (call (Value.ref 178) _) _ _ _); k_dflt (refine' Mine.con_acc ?k1Zc ?k2Zc ?k3Zc ?k4Zc ?k5Zc ?k6Zc ?k7Zc ?k8Zc ?_; (case k1Zc => k_asm); (case k2Zc => k_asm); (case k3Zc => k_asm); (case k4Zc => k_asm); (case k5Zc => k_asm); (case k6Zc => first | exact rfl | assumption); (case k7Zc => ktr_room); (case k8Zc => ktr_units); k_whole; intro sqZn xqZn dxqZn t1qZn t2qZn nqZn FqZn NqZn gqZn oqZn l1Zn l2Zn; (try k_lt l1Zn); (try k_lt2 l2Zn))))
  k_with "mine ne" => (first | assumption | omega)
  k_with "mine parts" => (first | (refine Mine.Parts.snoc ?_ (by k_mem); walk_at "mine parts") | exact Mine.Parts.one (by k_mem) | exact Mine.Parts.nil | (repeat' (first | assumption | apply Mine.Parts.tail)))
  k_with "mine fine" => (first | assumption | (simp only [List.append_nil, List.nil_append, List.append_assoc, List.cons_append] at *; assumption))
  k_with "call ref" => ((k_here; (with_reducible show wpAny _ _ (call (Value.ref 122) _) _ _ _); k_dflt (refine' Mine.use_pushP ?k1Zc ?k2Zc ?k3Zc ?k4Zc ?k5Zc ?k6Zc ?k7Zc ?k8Zc ?k9Zc ?k10Zc ?k11Zc ?k12Zc ?k13Zc ?k14Zc ?k15Zc ?_; (case k1Zc => k_asm); (case k2Zc => k_asm); (case k3Zc => k_asm); (case k4Zc => k_asm); (case k5Zc => k_asm); (case k6Zc => first | exact rfl | assumption); (case k7Zc => ktr_room); (case k8Zc => ktr_units); (case k15Zc => intro oqZn; k_upd); (case k9Zc => k_mem); (case k10Zc => walk_at "mine ne"); (case k11Zc => walk_at "mine fine"); (case k12Zc => walk_at "mine size"); (case k13Zc => walk_at "mine size"); (case k14Zc => k_mem); k_whole; intro sqZn tqZn FqZn NqZn fiqZn gqZn oqZn lqZn; (try k_lt lqZn))))
  k_with "call ref" => ((k_here; (with_reducible show wpAny _ _ (call (Value.ref 138) _) _ _ _); k_dflt (refine' Mine.use_popP ?k1Zc ?k2Zc ?k3Zc ?k4Zc ?k5Zc ?k6Zc ?k7Zc ?k8Zc ?k9Zc ?k10Zc ?k11Zc ?k12Zc ?_; (case k1Zc => k_asm); (case k2Zc => k_asm); (case k3Zc => k_asm); (case k4Zc => k_asm); (case k5Zc => k_asm); (case k6Zc => first | exact rfl | assumption); (case k7Zc => ktr_room); (case k8Zc => ktr_units); (case k12Zc => intro oqZn; k_upd); (case k9Zc => k_mem); (case k10Zc => walk_at "mine ne"); (case k11Zc => walk_at "mine fine"); k_whole; intro sqZn FqZn NqZn gqZn oqZn)))
  k_with "call ref" => ((k_here; (with_reducible show wpAny _ _ (call (Value.ref 130) _) _ _ _); k_dflt (refine' Mine.use_pop_fromP ?k1Zc ?k2Zc ?k3Zc ?k4Zc ?k5Zc ?k6Zc ?k7Zc ?k8Zc ?k9Zc ?k10Zc ?k11Zc ?k12Zc ?k13Zc ?_; (case k1Zc => k_asm); (case k2Zc => k_asm); (case k3Zc => k_asm); (case k4Zc => k_asm); (case k5Zc => k_asm); (case k6Zc => first | exact rfl | assumption); (case k7Zc => ktr_room); (case k8Zc => ktr_units); (case k13Zc => intro oqZn; k_upd); (case k9Zc => k_mem); (case k10Zc => walk_at "mine ne"); (case k11Zc => walk_at "mine fine"); (case k12Zc => walk_at "mine size"); k_whole; intro sqZn tqZn nqZn FqZn NqZn gqZn oqZn lqZn; (try k_lt lqZn))))
  k_with "call ref" => ((k_here; (with_reducible show wpAny _ _ (call (Value.ref 160) _) _ _ _); k_dflt (refine' Mine.use_resetP ?k1Zc ?k2Zc ?k3Zc ?k4Zc ?k5Zc ?k6Zc ?k7Zc ?k8Zc ?k9Zc ?k9bZc ?k9cZc ?k10Zc ?k11Zc ?k11bZc ?k12Zc ?k13Zc ?_; (case k1Zc => k_asm); (case k2Zc => k_asm); (case k3Zc => k_asm); (case k4Zc => k_asm); (case k5Zc => k_asm); (case k6Zc => first | exact rfl | assumption); (case k7Zc => ktr_room); (case k8Zc => ktr_units); (case k12Zc => intro oqZn; k_upd); (case k13Zc => intro o1Zn oqZn; k_upd); (case k11Zc => k_mem); (case k11bZc => k_mem); (case k9Zc => walk_at "mine ne"); (case k9bZc => walk_at "mine ne"); (case k9cZc => walk_at "mine ne"); (case k10Zc => walk_at "mine fine"); k_whole; intro sqZn t1qZn t2qZn nqZn FqZn NqZn gqZn oqZn)))
  k_with "call ref" => ((k_here; (with_reducible show wpAny _ _ (call (Value.ref 167) _) _ _ _); k_dflt (refine' Mine.use_onlyws ?k1Zc ?k2Zc ?k3Zc ?k4Zc ?k5Zc ?k6Zc ?k7Zc ?k8Zc ?k9Zc ?k10Zc ?k11Zc ?k12Zc ?k13Zc ?k14Zc ?k15Zc ?k16Zc ?k17Zc ?k18Zc ?k19Zc ?k20Zc ?_; (case k1Zc => k_asm); (case k2Zc => k_asm); (case k3Zc => k_asm); (case k4Zc => k_asm); (case k5Zc => k_asm); (case k6Zc => first | exact rfl | assumption); (case k7Zc => ktr_room); (case k8Zc => ktr_units); (case k11Zc => intro oqZn; k_upd); (case k13Zc => intro o1Zn oqZn; k_upd); (case k9Zc => k_mem); (case k10Zc => k_mem); (case k12Zc => k_mem); (case k14Zc => walk_at "mine parts"); (case k15Zc => assumption); (case k16Zc => assumption); (case k17Zc => assumption); (case k18Zc => walk_at "mine bare"); (case k19Zc => walk_at "mine pos"); (case k20Zc => exact Mine.space_no _ _ _); k_whole; intro sqZn moreqZn more2qZn FqZn NqZn trqZn tr2qZn GqZn oqZn)))
  k_with "mine pos" => (first | assumption | omega | (simp at *; omega))
  k_with "eval Call Attribute" => ((k_here; (with_reducible show wpAny _ _ (eval (Expr.Call (Expr.Attribute _ _ _) [Expr.Starred _ _] [] _) _) _ _ _); k_dflt (refine' Mine.starMeth ?_; k_whole)))
  k_with "getAttr ref" => ((k_here; (with_reducible show wpAny _ _ (getAttr (Value.ref _) (PySem.Str.ofString "push") _) _ _ _); k_dflt (refine' Mine.accK_bound ?k1Zc ?k2Zc ?k3Zc ?k4Zc ?k5Zc ?k6Zc ?k7Zc ?k8Zc ?k9Zc ?k10Zc ?k11Zc ?k12Zc ?k13Zc ?k14Zc ?k15Zc ?_; (case k1Zc => k_asm); (case k2Zc => k_asm); (case k3Zc => k_asm); (case k4Zc => k_mem); (case k5Zc => k_mem); (case k6Zc => k_is); (case k7Zc => k_is); (case k8Zc => k_is); (case k9Zc => k_is); (case k10Zc => k_is); (case k11Zc => k_is); (case k12Zc => k_is); (case k13Zc => k_is); (case k14Zc => decide +kernel); (case k15Zc => k_get); k_whole); intro qqZn hqZn FqZn NqZn l1Zn; (try k_lt l1Zn)))
  k_with "callWith ref" => ((k_here; (with_reducible show wpAny _ _ (callWith _ (Value.ref _) [] (backTo _ (starEach [Expr.Starred _ _] _)) []) _ _ _); k_dflt (refine' Mine.callWith_MS ?k1Zc ?k2Zc ?k3Zc ?k4Zc ?_; (case k1Zc => k_asm); (case k2Zc => k_asm); (case k3Zc => k_mem); (case k4Zc => k_is); k_whole)))
  k_with "call ref" => ((k_here; k_dflt (refine' call_meth ?kNZc ?kMZc (Mine.code_pushP ?k1Zc ?k2Zc ?k3Zc ?k4Zc ?k5Zc ?k6Zc ?k7Zc ?k8Zc ?k9Zc ?k10Zc ?k11Zc ?k12Zc ?k13Zc ?k14Zc ?k15Zc ?_); (case kNZc => k_asm); (case kMZc => k_mem); (case k1Zc => k_asm); (case k2Zc => k_asm); (case k3Zc => k_asm); (case k4Zc => k_asm); (case k5Zc => k_asm); (case k6Zc => first | exact rfl | assumption); (case k7Zc => ktr_room); (case k8Zc => ktr_units); (case k15Zc => intro oqZn; k_upd); (case k9Zc => k_mem); (case k10Zc => walk_at "mine ne"); (case k11Zc => walk_at "mine fine"); (case k12Zc => walk_at "mine size"); (case k13Zc => walk_at "mine size"); (case k14Zc => k_mem); k_whole; intro sqZn tqZn FqZn NqZn fiqZn gqZn oqZn lqZn; (try k_lt lqZn))))
  k_with "call ref" => ((k_here; (with_reducible show wpAny _ _ (call (Value.ref 160) _) _ _ _); k_dflt (refine' Mine.use_reset0 ?k1Zc ?k2Zc ?k3Zc ?k4Zc ?k5Zc ?k6Zc ?k7Zc ?k8Zc ?k9Zc ?k10Zc ?k11Zc ?k12Zc ?k13Zc ?_; (case k1Zc => k_asm); (case k2Zc => k_asm); (case k3Zc => k_asm); (case k4Zc => k_asm); (case k5Zc => k_asm); (case k6Zc => first | exact rfl | assumption); (case k7Zc => ktr_room); (case k8Zc => ktr_units); (case k12Zc => intro oqZn; k_upd); (case k13Zc => intro o1Zn oqZn; k_upd); (case k11Zc => k_mem); (case k9Zc => walk_at "mine ne"); (case k10Zc => (simp only [Mine.refs, List.length_map, List.length_append, List.length_cons, List.length_nil]; omega)); k_whole; intro sqZn t1qZn t2qZn nqZn FqZn NqZn gqZn oqZn)))
  trivial
theorem Mine.rstP19 : True := by w_top off; trivial
namespace Mine
theorem ne_blank (z : Str) : (!PyData.eqv (.tuple [.str (Str.ofString ""), .str z]) (.tuple [.str (Str.ofString " "), .str (Str.ofString "")])) = true := by
  have : (Str.ofString "" == Str.ofString " ") = false := by decide +kernel
  simp only [PyData.eqv, PyData.eqvAll, this, Bool.false_and, Bool.not_false]
theorem shaped_two (a b : Str) (ha : PyData.strOk a = true) (hb : PyData.strOk b = true) : SeqAt.shaped (.tuple [.str a, .str b]) = true := by
  unfold SeqAt.shaped
  simp [PyData.canLay0, PyData.canLayAll0, PyData.depth, PyData.depthAll, ha, hb]
theorem parts_pos (wi : List (Addr × Str)) (t : Addr) (y : Str) : 0 < partsLen (wi ++ [(t, y ++ Str.ofString ";")]) := by
  have h1 : 0 ≤ (wi.map fun a => (a.2.length : Int)).sum := by
    induction wi with
    | nil => simp
    | cons a r ih => simp only [List.map_cons, List.sum_cons]; omega
  have h2 : (Str.ofString ";").length = 1 := by decide +kernel
  unfold partsLen
  rw [List.map_append, List.sum_append]
  simp only [List.map_cons, List.map_nil, List.sum_cons, List.sum_nil, Str.length_append, h2]
  omega
def glue (l : List Str) : Str := Txt.join (Str.ofString "") l
theorem glue_of (wi : List (Addr × Str)) (a : Addr × Str) : partsTxt (wi ++ [a]) = glue (wi.map (·.2) ++ [a.2]) := by
  unfold partsTxt glue
  rw [List.map_append]; rfl
theorem con_newline {x dx f fd ll : Addr} {wi : List (Addr × Str)} {a1 : Addr} {y : Str} {n c : Nat} {width : Int} {lines : Array Value} {t1 t2 : Tok} {v : VT} {ps qs : Array Value} {p : Program} {loose : List Str} {mean : ExcName → Option Value} {mg mb : Str → Option Value} {w : World} {dp un : Nat} {gd : Option (List Code)} {cn : Str} {cs : Scope} {ca : Addr} {ccd : Value} {cl : List (Str × Addr)} {outer : List Env} {A₀ : Around} {base h₀ : Heap} {L : Addr} {m : Str → Option Value} {s : Shared} {Q E : Value → Shared → Prop} {rest : List (Addr × Obj)}
  (B : Below A₀ base outer h₀) (F : Fr h₀ L s.heap m) (X : (hd.heap_1 w.params).In h₀) (N : News h₀ L s.heap ((x, accO dx (refs (wi ++ [(a1, y ++ Str.ofString ";")])) n) :: (dx, dictOf (accE w t1 t2) 1) :: (ll, W.listOf lines c) :: (f, instObj 94 fd) :: (fd, dictOf (vfE w width ll x v) 6) :: (140, tabO ps) :: (147, tabO qs) :: rest)) (T : Top p loose mean mg mb h₀) (hk : cs.kind = .function) (hd' : dp + 6 < recursionLimit) (hu : un + 8 * 9 < cLine)
  (O : Offs fd f ll dx x rest) (hws : Parts (wi ++ [(a1, y ++ Str.ofString ";")]) rest) (hf : Fine (wi ++ [(a1, y ++ Str.ofString ";")])) (hn : wi.length < 900) (hok : PyData.strOk (y ++ Str.ofString ";") = true) (htr : TriplesOk ps.toList) (htr2 : TriplesOk qs.toList) (G : AllBare s.gens)
  (hlines : lines.size ≤ 1000)
  (ret : ∀ s' ps' qs' n' c' tl t1 t2, Fr h₀ L s'.heap m → News h₀ L s'.heap ((x, accO dx (refs []) n') :: (dx, dictOf (accE w t1 t2) 1) :: (ll, W.listOf (lines.push (.str (glue (wi.map (·.2) ++ [y ++ Str.ofString ";"])) tl)) c') :: (f, instObj 94 fd) :: (fd, dictOf (vfE w width ll x v) 6) :: (140, tabO ps') :: (147, tabO qs') :: rest) → TriplesOk ps'.toList → TriplesOk qs'.toList → AllBare s'.gens → s'.os = s.os → Q .none s') :
  wpAny (model Challenge.rw_wo0053_01.row.prog w) (ktrTop dp un gd cn cs L ca ccd cl outer) (call (.ref 56) [.ref f]) Q E s := by
  obtain ⟨_, _, _, _, _, _, _, _, _, _, _, _, _, _, _⟩ := O.more
  obtain ⟨o1, o2, o3, o4, o5, r1, r2, r3, r4, r5, r6, r7⟩ := O
  obtain ⟨ta, tb, hma⟩ := hws (a1, y ++ Str.ofString ";") (by simp)
  dsimp only at hma
  have hya : (y ++ Str.ofString ";").length ≤ 1000 := hf.len (a1, y ++ Str.ofString ";") (by simp)
  have hpw : Parts wi rest := fun b hb => hws b (List.mem_append_left _ hb)
  have hfw : Fine wi := hf.sub (List.sublist_append_left _ _)
  revert X; k_fill; intro X
  refine wpAny_call ?_
  k_dflt (walk_at "mine enter")
  k_steps
  k_here
  refine ne_dataH (reads_tuple_at (News.get (by k_asm) (by k_mem)) rfl rfl (.cons (.str _ _) (.cons (.str _ _) .nil))) (reads_tuple_at (News.get (by k_asm) (by k_mem)) rfl rfl (.cons (.str _ _) (.cons (.str _ _) .nil))) (shaped_two _ _ (by decide +kernel) hok) (by decide +kernel) (by ke_room) ?_
  rw [ne_blank]
  k_steps
  rotate_left
  · exfalso
    rename ¬ 0 < partsLen _ => hq
    exact hq (parts_pos _ _ _)
  rename News h₀ _ _ _ => kN9
  have kN8 := tail3 kN9
  rw [glue_of] at kN8
  exact ret _ _ _ _ _ _ _ _ (by k_asm) kN8 (by assumption) (by assumption) (by walk_at "mine bare") (by walk_at "mine os")
end Mine

namespace Mine
def slen (l : List Str) : Int := (l.map fun z => (z.length : Int)).sum
def stepW (width : Int) (c : List Str × List Str) (z : Str) : List Str × List Str :=
  if width < slen (c.1 ++ [z]) then (if c.1.isEmpty then ([z], c.2) else ([z], c.2 ++ [glue c.1])) else (c.1 ++ [z], c.2)
theorem parts_slen (ws : List (Addr × Str)) : partsLen ws = slen (ws.map (·.2)) := by
  unfold partsLen slen; rw [List.map_map]; rfl
theorem lines_push (ls : List (Str × Tok)) (z : Str) (t : Tok) : (strValues ls).toArray.push (.str z t) = (strValues (ls ++ [(z, t)])).toArray := by
  simp [strValues]
theorem Offs.cons {fd f ll dx x t : Addr} {o : Obj} {rest : List (Addr × Obj)} (O : Offs fd f ll dx x rest) (h : @LT.lt Nat _ x t) : Offs fd f ll dx x ((t, o) :: rest) := by
  obtain ⟨o1, o2, o3, o4, o5, r1, r2, r3, r4, r5, r6, r7⟩ := O
  have key : ∀ {P : Addr}, @LT.lt Nat _ P t → (∀ p ∈ rest, p.1 ≠ P) → ∀ p ∈ (t, o) :: rest, p.1 ≠ P := fun {P} h1 h2 p hp => by
    rcases List.mem_cons.mp hp with rfl | hp
    · exact Nat.ne_of_gt h1
    · exact h2 p hp
  exact ⟨o1, o2, o3, o4, o5, key (P := 140) (by omega) r1, key (P := 147) (by omega) r2, key (P := fd) (by omega) r3, key (P := f) (by omega) r4, key (P := ll) (by omega) r5, key (P := dx) (by omega) r6, key (P := x) h r7⟩
theorem con_step {x dx f fd ll : Addr} {ws : List (Addr × Str)} {ls : List (Str × Tok)} {n c : Nat} {width : Int} {t1 t2 tf tz : Tok} {v : VT} {z : Str} {ps qs : Array Value} {p : Program} {loose : List Str} {mean : ExcName → Option Value} {mg mb : Str → Option Value} {w : World} {dp un : Nat} {gd : Option (List Code)} {cn : Str} {cs : Scope} {ca : Addr} {ccd : Value} {cl : List (Str × Addr)} {outer : List Env} {A₀ : Around} {base h₀ : Heap} {L : Addr} {m : Str → Option Value} {s : Shared} {Q E : Value → Shared → Prop} {rest : List (Addr × Obj)}
  (B : Below A₀ base outer h₀) (F : Fr h₀ L s.heap m) (X : (hd.heap_1 w.params).In h₀) (N : News h₀ L s.heap ((x, accO dx (refs ws) n) :: (dx, dictOf (accE w t1 t2) 1) :: (ll, W.listOf (strValues ls).toArray c) :: (f, instObj 94 fd) :: (fd, dictOf (vfE w width ll x v) 6) :: (140, tabO ps) :: (147, tabO qs) :: rest)) (T : Top p loose mean mg mb h₀) (hk : cs.kind = .function) (hd' : dp + 5 < recursionLimit) (hu : un + 8 * 8 < cLine)
  (O : Offs fd f ll dx x rest) (hws : Parts ws rest) (hf : Fine ws) (hn : ws.length < 900) (hz : z.length ≤ 1000) (hend : ∀ a ∈ ws, ∃ y : Str, a.2 = y ++ Str.ofString ";") (hls : ls.length ≤ 1000) (htr : TriplesOk ps.toList) (htr2 : TriplesOk qs.toList) (G : AllBare s.gens)
  (ret : ∀ s' t ws' ls' n' c' t1' t2' ps' qs', Fr h₀ L s'.heap m → News h₀ L s'.heap ((x, accO dx (refs ws') n') :: (dx, dictOf (accE w t1' t2') 1) :: (ll, W.listOf (strValues ls').toArray c') :: (f, instObj 94 fd) :: (fd, dictOf (vfE w width ll x v) 6) :: (140, tabO ps') :: (147, tabO qs') :: (t, tupO (.str (Str.ofString "") tf) (.str z tz)) :: rest) →
    Offs fd f ll dx x ((t, tupO (.str (Str.ofString "") tf) (.str z tz)) :: rest) → (∀ l, Parts ws l → (t, tupO (.str (Str.ofString "") tf) (.str z tz)) ∈ l → Parts ws' l) → Fine ws' → stepW width (ws.map (·.2), ls.map (·.1)) z = (ws'.map (·.2), ls'.map (·.1)) → TriplesOk ps'.toList → TriplesOk qs'.toList → AllBare s'.gens → s'.os = s.os → (∀ p ∈ rest, @LT.lt Nat _ p.1 t) → Q .none s') :
  wpAny (model Challenge.rw_wo0053_01.row.prog w) (ktrTop dp un gd cn cs L ca ccd cl outer) (call (.ref 91) [.ref f, .str (Str.ofString "") tf, .str z tz]) Q E s := by
  have rot : ∀ {h : Heap} {a b1 b2 b3 b4 b5 b6 b7 : Addr × Obj} {l : List (Addr × Obj)}, News h₀ L h (a :: b1 :: b2 :: b3 :: b4 :: b5 :: b6 :: b7 :: l) → News h₀ L h (b1 :: b2 :: b3 :: b4 :: b5 :: b6 :: b7 :: a :: l) := fun N p hp => N p (by
    revert p
    repeat' (first | exact List.forall_mem_nil _ | refine List.forall_mem_cons.mpr ⟨?_, ?_⟩ | exact .head _ | (intro p hp; first | exact hp | (repeat (first | exact hp | apply List.Mem.tail))) | apply List.Mem.tail))
  have hsl : ∀ (t : Addr) (l : List (Addr × Str)), partsLen (l ++ [(t, z)]) = slen (l.map (·.2) ++ [z]) := fun t l => by rw [parts_slen, List.map_append]; rfl
  have hz1 : (strValues ls).toArray.size ≤ 1000 := by simpa [strValues] using hls
  by_cases hw : width < slen (ws.map (·.2) ++ [z])
  · rcases List.eq_nil_or_concat ws with rfl | ⟨wi, a, rfl⟩
    · refine con_chunk0 B F X N T hk hd' hu O hz htr htr2 G hf (fun t => by rw [hsl]; exact hw) fun s' t more n' F' N' fi tr g o lt lx => ?_
      refine ret s' t [(t, z)] ls n' c t1 t2 _ qs F' (rot N') (O.cons lx) (fun l _ hm => Parts.one hm) fi ?_ tr htr2 g o lt
      unfold stepW
      rw [if_pos hw]; rfl
    · rw [List.concat_eq_append] at *
      refine con_chunkB B F X N T hk hd' hu O hws hf hn hz htr htr2 G (hend a (by simp)) hz1 (fun t => by rw [hsl]; exact hw) fun s' t more more2 n' c' tl t1 t2 F' N' fi tr tr2 g o lt lx => ?_
      rw [lines_push] at N'
      refine ret s' t [(t, z)] _ n' c' t1 t2 _ _ F' (rot N') (O.cons lx) (fun l _ hm => Parts.one hm) fi ?_ tr tr2 g o lt
      unfold stepW
      rw [if_pos hw, if_neg (by simp), List.map_append, glue_of]
      simp
  · refine con_chunkA B F X N T hk hd' hu O hws hf hn hz htr htr2 G (fun t => by rw [hsl]; omega) fun s' t more n' F' N' fi tr g o lt lx => ?_
    refine ret s' t _ ls n' c t1 t2 _ qs F' (rot N') (O.cons lx) (fun l hp hm => hp.snoc hm) fi ?_ tr htr2 g o lt
    unfold stepW
    rw [if_neg hw, List.map_append]; rfl
end Mine

namespace Mine
/-- the plain rows: words laid one by one -/
def stepR (width : Int) (c : List Str × List (List Str)) (z : Str) : List Str × List (List Str) :=
  if width < slen (c.1 ++ [z]) then (if c.1.isEmpty then ([z], c.2) else ([z], c.2 ++ [c.1])) else (c.1 ++ [z], c.2)
theorem step_R (width : Int) (c : List Str × List (List Str)) (z : Str) : stepW width (c.1, c.2.map glue) z = ((stepR width c z).1, (stepR width c z).2.map glue) := by
  unfold stepW stepR
  dsimp only
  split
  · split
    · rfl
    · simp
  · rfl
def rowsAt (width : Int) (zs : List Str) : List Str × List (List Str) := zs.foldl (stepR width) ([], [])
def rowsOf (width : Int) (zs : List Str) : List (List Str) := (rowsAt width zs).2 ++ [(rowsAt width zs).1]
theorem rows_snoc (width : Int) (zs : List Str) (z : Str) : rowsAt width (zs ++ [z]) = stepR width (rowsAt width zs) z := by
  unfold rowsAt; rw [List.foldl_append]; rfl
theorem stepR_last (width : Int) (c : List Str × List (List Str)) (z : Str) : ∃ i, (stepR width c z).1 = i ++ [z] := by
  unfold stepR
  split
  · split
    · exact ⟨[], rfl⟩
    · exact ⟨[], rfl⟩
  · exact ⟨c.1, rfl⟩
structure RowsIn (zs : List Str) (c : List Str × List (List Str)) : Prop where
  flat : c.2.flatten ++ c.1 = zs
  few : c.2.length + c.1.length ≤ zs.length
theorem rows_in (width : Int) (zs : List Str) : RowsIn zs (rowsAt width zs) := by
  have key : ∀ (k : Nat), ∀ zs : List Str, zs.length = k → RowsIn zs (rowsAt width zs) := by
    intro k
    induction k with
    | zero => intro zs h; rw [List.length_eq_zero_iff.mp h]; exact ⟨rfl, Nat.le_refl _⟩
    | succ k ih =>
      intro zs h
      rcases List.eq_nil_or_concat zs with rfl | ⟨i, a, rfl⟩
      · cases h
      · rw [List.concat_eq_append] at *
        have := ih i (by simpa using h)
        rw [rows_snoc]
        unfold stepR
        obtain ⟨f, g⟩ := this
        split
        · split
          · rename_i he
            rw [List.isEmpty_iff] at he
            rw [he] at f g
            rw [List.append_nil] at f
            refine ⟨?_, ?_⟩
            · dsimp only; rw [f]
            · simp at g ⊢; lia
          · rename_i he
            refine ⟨?_, ?_⟩
            · dsimp only; rw [List.flatten_append, List.flatten_cons, List.flatten_nil, List.append_nil, f]
            · have : (rowsAt width i).1.length ≠ 0 := fun e => he (by rw [List.isEmpty_iff]; exact List.length_eq_zero_iff.mp e)
              simp at g ⊢; lia
        · refine ⟨?_, ?_⟩
          · dsimp only; rw [← List.append_assoc, f]
          · simp at g ⊢; lia
  exact key _ zs rfl
theorem glue_nil : glue [] = Str.ofString "" := by decide +kernel
theorem glue_cons (a : Str) (r : List Str) : glue (a :: r) = a ++ glue r := by
  have h0 : Str.ofString "" = ⟨#[]⟩ := by decide +kernel
  unfold glue
  rw [eq_of_beq (join_plain_closes _ _), eq_of_beq (join_plain_closes _ _), h0, join_nil_cons]
theorem glue_length : ∀ l : List Str, (glue l).length = (l.map (·.length)).sum
  | [] => by rw [glue_nil]; decide +kernel
  | a :: r => by rw [glue_cons, Str.length_append, glue_length r]; rfl
theorem glue_cps : ∀ l : List Str, (glue l).cps.toList = (l.map fun z => z.cps.toList).flatten
  | [] => by rw [glue_nil]; decide +kernel
  | a :: r => by rw [glue_cons, Str.cps_append, Array.toList_append, glue_cps r]; rfl
end Mine

namespace Mine
open PySem.StrLaws
def jn (c : Nat) : List (List Nat) → List Nat
  | [] => []
  | [a] => a
  | a :: b :: r => a ++ c :: jn c (b :: r)
theorem jn_of (c : Nat) : ∀ l : List Str, (Str.join ⟨#[c]⟩ l).cps.toList = jn c (l.map fun z => z.cps.toList)
  | [] => rfl
  | [a] => rfl
  | a :: b :: r => by
    show (a ++ (⟨#[c]⟩ : Str) ++ Str.join ⟨#[c]⟩ (b :: r)).cps.toList = a.cps.toList ++ c :: jn c ((b :: r).map fun z => z.cps.toList)
    rw [Str.cps_append, Str.cps_append, Array.toList_append, Array.toList_append, jn_of c (b :: r), List.append_assoc]
    rfl
theorem cut_eq {c : Nat} : ∀ {a b x y : List Nat}, c ∉ a → c ∉ b → a ++ c :: x = b ++ c :: y → a = b ∧ x = y
  | [], [], _, _, _, _, h => by simpa using h
  | [], d :: b, _, _, _, hb, h => by
    simp only [List.nil_append, List.cons_append, List.cons.injEq] at h
    exact absurd (h.1 ▸ List.mem_cons_self) hb
  | d :: a, [], _, _, ha, _, h => by
    simp only [List.nil_append, List.cons_append, List.cons.injEq] at h
    exact absurd (h.1.symm ▸ List.mem_cons_self) ha
  | d :: a, e :: b, _, _, ha, hb, h => by
    simp only [List.cons_append, List.cons.injEq] at h
    obtain ⟨rfl, h⟩ := h
    obtain ⟨r1, r2⟩ := cut_eq (fun m => ha (.tail _ m)) (fun m => hb (.tail _ m)) h
    exact ⟨by rw [r1], r2⟩
theorem jn_uniq (c : Nat) : ∀ (a b : List (List Nat)), a ≠ [] → b ≠ [] → (∀ p ∈ a, c ∉ p) → (∀ p ∈ b, c ∉ p) → jn c a = jn c b → a = b
  | [], _, h, _, _, _, _ => absurd rfl h
  | _, [], _, h, _, _, _ => absurd rfl h
  | [a], [b], _, _, _, _, h => by rw [show a = b from h]
  | [a], b :: b' :: r, _, _, ha, hb, h => by
    have : c ∈ a := by rw [show a = b ++ c :: jn c (b' :: r) from h]; simp
    exact absurd this (ha a (.head _))
  | a :: a' :: r, [b], _, _, ha, hb, h => by
    have : c ∈ b := by rw [← show a ++ c :: jn c (a' :: r) = b from h]; simp
    exact absurd this (hb b (.head _))
  | a :: a' :: r, b :: b' :: t, _, _, ha, hb, h => by
    obtain ⟨e1, e2⟩ := cut_eq (ha a (.head _)) (hb b (.head _)) (show a ++ c :: jn c (a' :: r) = b ++ c :: jn c (b' :: t) from h)
    rw [e1, jn_uniq c (a' :: r) (b' :: t) (by simp) (by simp) (fun p hp => ha p (.tail _ hp)) (fun p hp => hb p (.tail _ hp)) e2]
theorem join_uniq (c : Nat) (a b : List Str) (ha : a ≠ []) (hb : b ≠ []) (fa : ∀ p ∈ a, c ∉ p.cps.toList) (fb : ∀ p ∈ b, c ∉ p.cps.toList) (h : Str.join ⟨#[c]⟩ a = Str.join ⟨#[c]⟩ b) : a = b := by
  have hl : (a.map fun z => z.cps.toList) = b.map fun z => z.cps.toList := by
    refine jn_uniq c _ _ (by simpa using ha) (by simpa using hb) ?_ ?_ ?_
    · intro p hp; obtain ⟨z, hz, rfl⟩ := List.mem_map.mp hp; exact fa z hz
    · intro p hp; obtain ⟨z, hz, rfl⟩ := List.mem_map.mp hp; exact fb z hz
    · rw [← jn_of, ← jn_of, h]
  have inj : ∀ {x y : Str}, x.cps.toList = y.cps.toList → x = y := fun h => Str.ext' (Array.toList_inj.mp h)
  have : ∀ a b : List Str, (a.map fun z => z.cps.toList) = (b.map fun z => z.cps.toList) → a = b := by
    intro a
    induction a with
    | nil => intro b h; cases b with | nil => rfl | cons _ _ => cases h
    | cons x r ih =>
      intro b h
      cases b with
      | nil => cases h
      | cons y t =>
        simp only [List.map_cons, List.cons.injEq] at h
        rw [inj h.1, ih t h.2]
  exact this a b hl
theorem split_join (c : Nat) (l : List Str) (h0 : l ≠ []) (hf : ∀ p ∈ l, c ∉ p.cps.toList) : Txt.split (Txt.join ⟨#[c]⟩ l) ⟨#[c]⟩ = l := by
  refine join_uniq c _ _ ?_ h0 (split_free _ _) hf ?_
  · intro e
    have := split_pos (Txt.join ⟨#[c]⟩ l) ⟨#[c]⟩
    rw [e] at this
    simp at this
  · rw [StrLaws.join_split, eq_of_beq (join_plain_closes _ _)]
theorem count_join (c : Nat) (l : List Str) (h0 : l ≠ []) (hf : ∀ p ∈ l, c ∉ p.cps.toList) : Txt.count (Str.join ⟨#[c]⟩ l) ⟨#[c]⟩ = (l.length : Int) - 1 := by
  obtain ⟨f, hG, hn⟩ := occ_tight (Str.join ⟨#[c]⟩ l) ⟨#[c]⟩ (Nat.le_refl 1)
  obtain ⟨f2, hC⟩ := occ_chain (Str.join ⟨#[c]⟩ l) ⟨#[c]⟩ ((Str.join ⟨#[c]⟩ l).length + 1)
  have hp := parts_free (Str.join ⟨#[c]⟩ l) c _ 0 f hG hn
  have hj := join_partsFrom (Str.join ⟨#[c]⟩ l) ⟨#[c]⟩ _ 0 f2 hC
  rw [sub_whole] at hj
  have e := join_uniq c _ l (by obtain ⟨p, r, e⟩ := partsFrom_ne (Str.join ⟨#[c]⟩ l) (⟨#[c]⟩ : Str).length 0 (PySem.Builtin.Str.occurrences (Str.join ⟨#[c]⟩ l) ⟨#[c]⟩ 0 (Str.join ⟨#[c]⟩ l).length ((Str.join ⟨#[c]⟩ l).length + 1)); rw [e]; simp) h0 hp hf hj
  have hlen := length_partsBetween (Str.join ⟨#[c]⟩ l) (PySem.Builtin.Str.occurrences (Str.join ⟨#[c]⟩ l) ⟨#[c]⟩ 0 (Str.join ⟨#[c]⟩ l).length ((Str.join ⟨#[c]⟩ l).length + 1)) (⟨#[c]⟩ : Str).length
  rw [partsBetween_eq, e] at hlen
  unfold Txt.count
  lia
end Mine

namespace Mine
def word (k : Nat) : Str := ⟨(List.replicate k 120).toArray⟩ ++ Str.ofString ";"
theorem word_length (k : Nat) : (word k).length = k + 1 := by
  unfold word
  rw [Str.length_append]
  have : (Str.ofString ";").length = 1 := by decide +kernel
  rw [this]
  simp [Str.length]
theorem semi : Str.ofString ";" = ⟨#[59]⟩ := by decide +kernel
theorem word_cps (k : Nat) : (word k).cps.toList = List.replicate k 120 ++ [59] := by
  unfold word
  rw [Str.cps_append, Array.toList_append, semi]
theorem word_ok (k : Nat) : PyData.strOk (word k) = true := by
  unfold PyData.strOk
  rw [← Array.all_toList, word_cps, List.all_append, List.all_replicate]
  simp
theorem glue_join : ∀ ks : List Nat, glue (ks.map word) = Str.join ⟨#[59]⟩ (ks.map (fun k => (⟨(List.replicate k 120).toArray⟩ : Str)) ++ [⟨#[]⟩])
  | [] => by rw [List.map_nil, glue_nil]; decide +kernel
  | k :: r => by
    rw [List.map_cons, glue_cons, glue_join r]
    have : ∀ (a : Str) (l : List Str), Str.join ⟨#[59]⟩ (a :: (l ++ [⟨#[]⟩])) = a ++ (⟨#[59]⟩ : Str) ++ Str.join ⟨#[59]⟩ (l ++ [⟨#[]⟩]) := by
      intro a l
      cases l <;> rfl
    rw [List.map_cons, List.cons_append, this]
    show word k ++ _ = _
    unfold word
    rw [semi]
theorem count_glue (ks : List Nat) : Txt.count (glue (ks.map word)) (Str.ofString ";") = (ks.length : Int) := by
  rw [glue_join, semi, count_join 59 _ (by simp) ?_]
  · simp
  · intro p hp
    rcases List.mem_append.mp hp with h | h
    · obtain ⟨k, _, rfl⟩ := List.mem_map.mp h
      intro hm
      have := List.eq_of_mem_replicate (by simpa using hm : (59 : Nat) ∈ List.replicate k 120)
      cases this
    · rw [List.mem_singleton.mp h]; simp
theorem glue_line (ks : List Nat) : 10 ∉ (glue (ks.map word)).cps.toList := by
  rw [glue_cps]
  intro hm
  obtain ⟨l, hl, hm⟩ := List.mem_flatten.mp hm
  rw [List.map_map] at hl
  obtain ⟨k, _, rfl⟩ := List.mem_map.mp hl
  dsimp only [Function.comp] at hm
  rw [word_cps] at hm
  rcases List.mem_append.mp hm with h | h
  · cases List.eq_of_mem_replicate h
  · cases List.mem_singleton.mp h
def klen (ks : List Nat) : Nat := (ks.map (· + 1)).sum
theorem slen_word (ks : List Nat) : slen (ks.map word) = (klen ks : Int) := by
  unfold slen klen
  induction ks with
  | nil => rfl
  | cons k r ih =>
    simp only [List.map_cons, List.sum_cons, word_length] at ih ⊢
    rw [ih]; lia
/-- the plain rows over the words' sizes -/
def stepN (width : Int) (c : List Nat × List (List Nat)) (k : Nat) : List Nat × List (List Nat) :=
  if width < (klen (c.1 ++ [k]) : Int) then (if c.1.isEmpty then ([k], c.2) else ([k], c.2 ++ [c.1])) else (c.1 ++ [k], c.2)
def rowsN (width : Int) (ks : List Nat) : List Nat × List (List Nat) := ks.foldl (stepN width) ([], [])
def wordsN (c : List Nat × List (List Nat)) : List Str × List (List Str) := (c.1.map word, c.2.map (·.map word))
theorem step_N (width : Int) (c : List Nat × List (List Nat)) (k : Nat) : stepR width (wordsN c) (word k) = wordsN (stepN width c k) := by
  unfold stepR stepN wordsN
  dsimp only
  have : c.1.map word ++ [word k] = (c.1 ++ [k]).map word := by simp
  rw [this, slen_word]
  split
  · rw [List.isEmpty_map]
    split <;> simp
  · rfl
theorem rows_N (width : Int) (ks : List Nat) : rowsAt width (ks.map word) = wordsN (rowsN width ks) := by
  have key : ∀ (ks : List Nat) (c : List Nat × List (List Nat)), (ks.map word).foldl (stepR width) (wordsN c) = wordsN (ks.foldl (stepN width) c) := by
    intro ks
    induction ks with
    | nil => intro c; rfl
    | cons k r ih => intro c; rw [List.map_cons, List.foldl_cons, List.foldl_cons, step_N, ih]
  exact key ks ([], [])
def rowsK (width : Int) (ks : List Nat) : List (List Nat) := (rowsN width ks).2 ++ [(rowsN width ks).1]
theorem rows_K (width : Int) (ks : List Nat) : rowsOf width (ks.map word) = (rowsK width ks).map (·.map word) := by
  unfold rowsOf rowsK
  rw [rows_N]
  unfold wordsN
  simp
end Mine

namespace Mine
def numsOf (ns : List Int) : List Int := List.map (fun k' => k'.fmod (10 ^ Int.toNat 6)) (List.take 2 ns) ++ [100, 94, 540, 390]
def stepsOf (xs : List Int) : List Int := List.map (fun k' => 1 + k'.fmod 9) xs
theorem fm6 (x : Int) : 0 ≤ x.fmod (10 ^ Int.toNat 6) ∧ x.fmod (10 ^ Int.toNat 6) < 1000000 := by
  have e : ((10 : Int) ^ Int.toNat 6) = 1000000 := by decide
  rw [e]
  exact ⟨Int.fmod_nonneg_of_pos _ (by decide), Int.fmod_lt_of_pos _ (by decide)⟩
theorem fm9 (x : Int) : 0 ≤ x.fmod 9 ∧ x.fmod 9 < 9 := ⟨Int.fmod_nonneg_of_pos _ (by decide), Int.fmod_lt_of_pos _ (by decide)⟩
theorem numsOf_mem {ns : List Int} : ∀ x ∈ numsOf ns, 0 ≤ x ∧ x < 1000000 := by
  intro x hx
  unfold numsOf at hx
  rcases List.mem_append.mp hx with h | h
  · obtain ⟨y, _, rfl⟩ := List.mem_map.mp h
    exact fm6 y
  · simp only [List.mem_cons, List.not_mem_nil, or_false] at h
    lia
theorem nums_len {ns : List Int} : 4 ≤ (numsOf ns).length ∧ (numsOf ns).length ≤ 6 := by
  unfold numsOf
  simp only [List.length_append, List.length_map, List.length_take, List.length_cons, List.length_nil]
  lia
theorem steps_mem {xs : List Int} : ∀ x ∈ stepsOf xs, 1 ≤ x ∧ x ≤ 9 := by
  intro x hx
  obtain ⟨y, _, rfl⟩ := List.mem_map.mp hx
  have := fm9 y
  show 1 ≤ 1 + y.fmod 9 ∧ 1 + y.fmod 9 ≤ 9
  lia
theorem steps_len {xs : List Int} : (stepsOf xs).length = xs.length := by simp [stepsOf]
theorem steps_cases (ns : List Int) : stepsOf (numsOf ns) = [2, 5, 1, 4] ∨ (∃ a, (1 ≤ a ∧ a ≤ 9) ∧ stepsOf (numsOf ns) = [a, 2, 5, 1, 4]) ∨ ∃ a b, (1 ≤ a ∧ a ≤ 9) ∧ (1 ≤ b ∧ b ≤ 9) ∧ stepsOf (numsOf ns) = [a, b, 2, 5, 1, 4] := by
  have f : ∀ x : Int, 1 ≤ 1 + x.fmod 9 ∧ 1 + x.fmod 9 ≤ 9 := fun x => by have := fm9 x; lia
  match ns with
  | [] => exact .inl rfl
  | [a] => exact .inr (.inl ⟨_, f _, rfl⟩)
  | a :: b :: _ => exact .inr (.inr ⟨_, _, f _, f _, rfl⟩)
theorem steps_sum (ns : List Int) : 12 ≤ (stepsOf (numsOf ns)).sum ∧ (stepsOf (numsOf ns)).sum ≤ 30 := by
  rcases steps_cases ns with e | ⟨a, h, e⟩ | ⟨a, b, h, h', e⟩ <;> rw [e] <;> simp only [List.sum_cons, List.sum_nil] <;> lia
/-- The stop of the number at place i. -/
def stopOf (xs : List Int) (i : Nat) : Int := ((xs.sum.fmod (stepsOf xs).sum) + ((stepsOf xs).take i).sum).fmod (stepsOf xs).sum
def stopsOf (xs : List Int) : List Int := (List.range xs.length).map (stopOf xs)
theorem take_sum_le : ∀ (l : List Int) (i : Nat), (∀ x ∈ l, 1 ≤ x) → i < l.length → 0 ≤ (l.take i).sum ∧ (l.take i).sum < l.sum
  | [], _, _, h => by simp at h
  | a :: l, 0, h, _ => by
    have h1 := h a (.head _)
    have h2 : ∀ (l : List Int), (∀ x ∈ l, 1 ≤ x) → 0 ≤ l.sum := fun l hl => by
      induction l with
      | nil => exact Int.le_refl _
      | cons b l ih => have := hl b (.head _); have := ih fun x hx => hl x (.tail _ hx); simp only [List.sum_cons]; lia
    have h3 := h2 l fun x hx => h x (.tail _ hx)
    simp only [List.take_zero, List.sum_nil, List.sum_cons]
    lia
  | a :: l, i + 1, h, hi => by
    have := h a (.head _)
    have := take_sum_le l i (fun x hx => h x (.tail _ hx)) (by simpa using hi)
    simp only [List.take_succ_cons, List.sum_cons]
    lia
theorem stop_arg (ns : List Int) (i : Nat) (hi : i < (numsOf ns).length) : 0 ≤ ((numsOf ns).sum.fmod (stepsOf (numsOf ns)).sum) + ((stepsOf (numsOf ns)).take i).sum ∧ ((numsOf ns).sum.fmod (stepsOf (numsOf ns)).sum) + ((stepsOf (numsOf ns)).take i).sum < 2 * (stepsOf (numsOf ns)).sum := by
  have hw := steps_sum ns
  have h1 := Int.fmod_nonneg_of_pos (a := (numsOf ns).sum) (show 0 < (stepsOf (numsOf ns)).sum by lia)
  have h2 := Int.fmod_lt_of_pos (numsOf ns).sum (show 0 < (stepsOf (numsOf ns)).sum by lia)
  have h3 := take_sum_le (stepsOf (numsOf ns)) i (fun x hx => (steps_mem x hx).1) (by rw [steps_len]; exact hi)
  lia
theorem mem_bound {ns xs : List Int} (h : numsOf ns = xs) {i : Nat} (hi : i < xs.length) : 0 ≤ xs.getD i 0 ∧ xs.getD i 0 < 1000000 := by
  subst h
  refine numsOf_mem (ns := ns) _ ?_
  rw [List.getD_eq_getElem?_getD, List.getElem?_eq_getElem hi]
  exact List.getElem_mem hi
theorem ints_snoc {vs : List Value} {l : List Int} {n : Int} {t : Tok} (h : IntsAre vs l) : IntsAre (vs ++ [.int n t]) (l ++ [n]) := IntsAre.append h (.cons n t .nil)
theorem stops_len {xs : List Int} : (stopsOf xs).length = xs.length := by simp [stopsOf]
theorem stops_get {xs : List Int} {i : Nat} (hi : i < xs.length) : (stopsOf xs)[i]? = some (stopOf xs i) := by simp [stopsOf, hi]
theorem stops_take {xs : List Int} {i : Nat} (hi : i < xs.length) : (stopsOf xs).take (i + 1) = (stopsOf xs).take i ++ [stopOf xs i] := by
  rw [List.take_add_one, stops_get hi]; rfl
theorem stop_ints {xs st : List Int} {vs : List Value} {i : Nat} {t : Tok} (hst : stepsOf xs = st) (hi : i < xs.length) (h : IntsAre vs ((stopsOf xs).take i)) :
    IntsAre (vs ++ [.int ((xs.sum.fmod st.sum + (st.take (i : Int).toNat).sum).fmod st.sum) t]) ((stopsOf xs).take (i + 1)) := by
  rw [stops_take hi]
  have e : (xs.sum.fmod st.sum + (st.take (i : Int).toNat).sum).fmod st.sum = stopOf xs i := by subst hst; unfold stopOf; rw [Int.toNat_natCast]
  rw [e]
  exact ints_snoc h
def gapsOf (xs : List Int) : List Nat := (stepsOf xs).map fun s => (s - 1).toNat
end Mine

namespace Mine
theorem gaps_len {xs : List Int} : (gapsOf xs).length = xs.length := by simp [gapsOf, stepsOf]
theorem gaps_getD {xs : List Int} {i : Nat} (hi : i < xs.length) : (((gapsOf xs).getD i 0 : Nat) : Int) = (stepsOf xs).getD i 0 - 1 ∧ (gapsOf xs).getD i 0 ≤ 8 := by
  have hi' : i < (stepsOf xs).length := by rw [steps_len]; exact hi
  have h1 := steps_mem (xs := xs) (stepsOf xs)[i] (List.getElem_mem hi')
  have e1 : (gapsOf xs).getD i 0 = ((stepsOf xs)[i] - 1).toNat := by
    rw [List.getD_eq_getElem?_getD]; simp [gapsOf, hi']
  have e2 : (stepsOf xs).getD i 0 = (stepsOf xs)[i] := by
    rw [List.getD_eq_getElem?_getD]; simp [hi']
  rw [e1, e2]
  grind
theorem take_sum_succ (l : List Int) (i : Nat) (hi : i < l.length) : (l.take (i + 1)).sum = (l.take i).sum + l.getD i 0 := by
  rw [List.take_add_one, List.getElem?_eq_getElem hi, List.sum_append, List.getD_eq_getElem?_getD, List.getElem?_eq_getElem hi]
  simp
theorem fmod_sub_fmod (a b w k : Int) (hw : 0 < w) (hk : 0 ≤ k) (hk' : k < w) (h : ∃ q : Int, a - b - 1 = k + w * q) : (a.fmod w - b.fmod w - 1).fmod w = k := by
  obtain ⟨q, h⟩ := h
  rw [Int.fmod_eq_emod_of_nonneg _ (by grind), Int.fmod_eq_emod_of_nonneg _ (by grind), Int.fmod_eq_emod_of_nonneg _ (by grind)]
  have ha := Int.emod_add_mul_ediv a w
  have hb := Int.emod_add_mul_ediv b w
  have e : a % w - b % w - 1 = k + w * (q - a / w + b / w) := by
    rw [Int.mul_add, Int.mul_sub]
    grind
  rw [e, Int.add_mul_emod_self_left]
  exact Int.emod_eq_of_lt hk hk'
theorem gap_eq (ns : List Int) {xs st : List Int} (hxs : numsOf ns = xs) (hst : stepsOf xs = st) {i : Nat} (hi : i < (stopsOf xs).length) :
    ((List.drop 1 (stopsOf xs) ++ List.take 1 (stopsOf xs)).getD i 0 - (stopsOf xs).getD i 0 - 1).fmod st.sum = ((gapsOf xs).getD i 0 : Nat) := by
  subst hxs; subst hst
  have hi' : i < (numsOf ns).length := by rw [← stops_len]; exact hi
  have hs : i < (stepsOf (numsOf ns)).length := by rw [steps_len]; exact hi'
  obtain ⟨g1, g2⟩ := gaps_getD hi'
  have hw := steps_sum ns
  have hnl := nums_len (ns := ns)
  have e1 : (stopsOf (numsOf ns)).getD i 0 = stopOf (numsOf ns) i := by rw [List.getD_eq_getElem?_getD, stops_get hi']; rfl
  rw [e1]
  rw [g1]
  by_cases hl : i + 1 < (numsOf ns).length
  · have e2 : (List.drop 1 (stopsOf (numsOf ns)) ++ List.take 1 (stopsOf (numsOf ns))).getD i 0 = stopOf (numsOf ns) (i + 1) := by
      rw [List.getD_eq_getElem?_getD, List.getElem?_append_left (by rw [List.length_drop, stops_len]; grind), List.getElem?_drop, Nat.add_comm 1 i, stops_get hl]; rfl
    rw [e2]
    unfold stopOf
    refine fmod_sub_fmod _ _ _ _ (by grind) (by grind) (by grind) ⟨0, ?_⟩
    rw [take_sum_succ _ _ hs]
    grind
  · have e2 : (List.drop 1 (stopsOf (numsOf ns)) ++ List.take 1 (stopsOf (numsOf ns))).getD i 0 = stopOf (numsOf ns) 0 := by
      rw [List.getD_eq_getElem?_getD, List.getElem?_append_right (by rw [List.length_drop, stops_len]; grind), List.length_drop, stops_len]
      have : i - ((numsOf ns).length - 1) = 0 := by grind
      rw [this, List.getElem?_take, if_pos (by grind), stops_get (by grind)]; rfl
    rw [e2]
    unfold stopOf
    refine fmod_sub_fmod _ _ _ _ (by grind) (by grind) (by grind) ⟨-1, ?_⟩
    have h3 := take_sum_succ _ _ hs
    rw [List.take_of_length_le (by rw [steps_len]; grind)] at h3
    rw [List.take_zero, List.sum_nil]
    grind
theorem word_snoc {xs : List Int} {us : List (Str × Tok)} {i : Nat} {t : Tok} {z : Str} (hi : i < xs.length) (hz : z = word ((gapsOf xs).getD i 0)) (h : us.map (·.1) = ((gapsOf xs).take i).map word) :
    (us ++ [(z, t)]).map (·.1) = ((gapsOf xs).take (i + 1)).map word := by
  have hg : i < (gapsOf xs).length := by rw [gaps_len]; exact hi
  rw [List.take_add_one, List.getElem?_eq_getElem hg, List.map_append, List.map_append, h, hz, List.getD_eq_getElem?_getD, List.getElem?_eq_getElem hg]
  rfl
theorem word_txt (k : Nat) : Txt.mul (Str.ofString "x") (k : Int) ++ Str.ofString ";" = word k := by
  unfold word
  congr 1
  have e : Str.ofString "x" = ⟨#[120]⟩ := by rfl
  have h := mul_one_list 120 (k : Int)
  rw [Int.toNat_natCast] at h
  rw [e]
  have h2 : (Txt.mul ⟨#[120]⟩ (k : Int)).cps = (List.replicate k 120).toArray := by rw [← h]
  show Txt.mul ⟨#[120]⟩ (k : Int) = ⟨(List.replicate k 120).toArray⟩
  rw [← h2]
theorem strs_snoc (us : List (Str × Tok)) (z : Str) (t : Tok) : strValues us ++ [.str z t] = strValues (us ++ [(z, t)]) := by simp [strValues]
end Mine

namespace Mine
theorem strs_len (us : List (Str × Tok)) : (strValues us).length = us.length := by simp [strValues]
theorem strs_from {us : List (Str × Tok)} {i : Nat} (h : i ≤ us.length) : (slicePick (strValues us).toArray (some (i : Int)) none none).toList = strValues (us.drop i) := by
  rw [slicePick_from _ _ (by simp [strs_len, h])]
  simp [strValues, List.map_drop]
theorem strs_upto {us : List (Str × Tok)} {i : Nat} (h : i ≤ us.length) : (slicePick (strValues us).toArray none (some (i : Int)) none).toList = strValues (us.take i) := by
  rw [slicePick_upto _ _ (by simp [strs_len, h])]
  simp [strValues, List.map_take]
theorem strs_rev {us : List (Str × Tok)} : (strValues us).toArray.toList.reverse = strValues us.reverse := by simp [strValues]
theorem strs_add {us vs : List (Str × Tok)} : (strValues us).toArray.toList ++ (strValues vs).toArray.toList = strValues (us ++ vs) := by simp [strValues]
theorem strs_size {us : List (Str × Tok)} (h : us.length ≤ 1000) : (strValues us).toArray.size ≤ sizeLine := by
  rw [List.size_toArray, strs_len, sizeLine_eq]; lia
theorem strs_room {us vs : List (Str × Tok)} (h : us.length + vs.length ≤ 1000) : (strValues us).toArray.toList.length + (strValues vs).toArray.toList.length ≤ sizeLine := by
  rw [sizeLine_eq]; simp [strs_len]; lia
theorem fr_at {h₀ h : Heap} {L : Addr} {m : Str → Option Value} {x : Str} {v : Value} (F : Fr h₀ L h m) (e : m x = some v) : Fr h₀ L h (fun y => if y = x then some v else m y) := by
  have : (fun y => if y = x then some v else m y) = m := by
    funext y
    by_cases hy : y = x
    · rw [if_pos hy, hy, e]
    · rw [if_neg hy]
  rw [this]; exact F
theorem spot_rot {h₀ h : Heap} {L : Addr} {a b c d e : Addr × Obj} {l : List (Addr × Obj)} (N : News h₀ L h (a :: b :: c :: d :: e :: l)) : News h₀ L h (d :: e :: a :: l) := fun p hp => N p (by
  revert p
  repeat' (first | exact List.forall_mem_nil _ | refine List.forall_mem_cons.mpr ⟨?_, ?_⟩ | exact .head _ | (intro p hp; first | exact hp | (repeat (first | exact hp | apply List.Mem.tail))) | apply List.Mem.tail))
theorem rot_words {us : List (Str × Tok)} {ks : List Nat} {i : Nat} (h : us.map (·.1) = ks.map word) : (us.drop i ++ us.take i).map (·.1) = (ks.drop i ++ ks.take i).map word := by
  simp only [List.map_append, List.map_drop, List.map_take, h]
theorem rev_words {us : List (Str × Tok)} {ks : List Nat} {i : Nat} (h : us.map (·.1) = ks.map word) : (us.drop i ++ us.take i).reverse.map (·.1) = (ks.drop i ++ ks.take i).reverse.map word := by
  rw [List.map_reverse, rot_words h, List.map_reverse]
theorem rot_mem {ks : List Nat} {i : Nat} (h : ∀ k ∈ ks, k ≤ 50) : ∀ k ∈ ks.drop i ++ ks.take i, k ≤ 50 := fun k hk => (List.mem_append.mp hk).elim (fun q => h k (List.mem_of_mem_drop q)) fun q => h k (List.mem_of_mem_take q)
theorem rev_mem {ks : List Nat} {i : Nat} (h : ∀ k ∈ ks, k ≤ 50) : ∀ k ∈ (ks.drop i ++ ks.take i).reverse, k ≤ 50 := fun k hk => rot_mem h k (List.mem_reverse.mp hk)
theorem off140 {l : List (Addr × Obj)} (h : ∀ p ∈ l, @Ne Nat p.1 140 ∧ @Ne Nat p.1 147) : ∀ p ∈ l, p.1 ≠ 140 := fun p hp => (h p hp).1
theorem off147 {l : List (Addr × Obj)} (h : ∀ p ∈ l, @Ne Nat p.1 140 ∧ @Ne Nat p.1 147) : ∀ p ∈ l, p.1 ≠ 147 := fun p hp => (h p hp).2
theorem spot_rot2 {h₀ h : Heap} {L : Addr} {a b c d e : Addr × Obj} {l : List (Addr × Obj)} (N : News h₀ L h (a :: b :: c :: d :: e :: l)) : News h₀ L h (c :: d :: a :: b :: l) := fun p hp => N p (by
  revert p
  repeat' (first | exact List.forall_mem_nil _ | refine List.forall_mem_cons.mpr ⟨?_, ?_⟩ | exact .head _ | (intro p hp; first | exact hp | (repeat (first | exact hp | apply List.Mem.tail))) | apply List.Mem.tail))
theorem last_sub {prog : Program} {w : World} {A : Around} {E : Value → Shared → Prop} {s : Shared} {value slice : PySem.Expr} {l : Addr} {vs : List Value} {x : Value} {u : Tok} {Q : Value → Shared → Prop} (hl : s.heap.IsList l (vs ++ [x]).toArray) (hf : vs.length ≤ 1000) (h : Q x s)
    (hs : subscripted slice false (.ref l) (.int (-1) u) = operate [.ref l, .int (-1) u] (getItem (.ref l) (.int (-1) u)) := by with_unfolding_all rfl) :
    wpAny (model prog w) A (subscriptTail value slice (.ref l) (.int (-1) u)) Q E s :=
  tail_any hl.typeIs slot_list_getitem.lookup (wpAny_getItem_list_neg hl (by decide) (by simp; lia) (by decide) (by
    have e : ((-1 : Int) + ((vs ++ [x]).toArray.size : Int)).toNat = vs.length := by simp; lia
    rw [e]; simp) h) hs
theorem bring6 {h₀ h : Heap} {L : Addr} {a b c d e f x : Addr × Obj} {l : List (Addr × Obj)} (N : News h₀ L h (a :: b :: c :: d :: e :: f :: x :: l)) : News h₀ L h (x :: a :: b :: c :: d :: e :: f :: l) := fun p hp => N p (by
  revert p
  repeat' (first | exact List.forall_mem_nil _ | refine List.forall_mem_cons.mpr ⟨?_, ?_⟩ | exact .head _ | (intro p hp; first | exact hp | (repeat (first | exact hp | apply List.Mem.tail))) | apply List.Mem.tail))
theorem bring1 {h₀ h : Heap} {L : Addr} {a x : Addr × Obj} {l : List (Addr × Obj)} (N : News h₀ L h (a :: x :: l)) : News h₀ L h (x :: a :: l) := fun p hp => N p (by
  revert p
  repeat' (first | exact List.forall_mem_nil _ | refine List.forall_mem_cons.mpr ⟨?_, ?_⟩ | exact .head _ | (intro p hp; first | exact hp | (repeat (first | exact hp | apply List.Mem.tail))) | apply List.Mem.tail))
theorem spot_end {h₀ h : Heap} {L : Addr} {x1 x2 x3 x4 x5 x6 x7 x8 x9 y1 y2 y3 : Addr × Obj} {l : List (Addr × Obj)} (N : News h₀ L h (x1 :: x2 :: x3 :: x4 :: x5 :: x6 :: x7 :: x8 :: x9 :: y1 :: y2 :: y3 :: l)) : News h₀ L h (x8 :: x4 :: x5 :: x6 :: x9 :: x2 :: y1 :: y2 :: y3 :: l) := fun p hp => N p (by
  revert p
  repeat' (first | exact List.forall_mem_nil _ | refine List.forall_mem_cons.mpr ⟨?_, ?_⟩ | exact .head _ | (intro p hp; first | exact hp | (repeat (first | exact hp | apply List.Mem.tail))) | apply List.Mem.tail))
theorem lst_push (fv : List Value) (x : Value) : LCg.lst (fv ++ [x]) = W.listOf (fv ++ [x]).toArray (fv.length + 1) := by simp [LCg.lst, W.listOf]
theorem idx_sub {prog : Program} {w : World} {A : Around} {E : Value → Shared → Prop} {s : Shared} {value slice : PySem.Expr} {l : Addr} {its : Array Value} {k : Int} {x : Value} {u : Tok} {Q : Value → Shared → Prop} (hl : s.heap.IsList l its) (h0 : 0 ≤ k) (h1 : k < 2 ^ 63) (hx : its[k.toNat]? = some x) (h : Q x s)
    (hs : subscripted slice false (.ref l) (.int k u) = operate [.ref l, .int k u] (getItem (.ref l) (.int k u)) := by with_unfolding_all rfl) :
    wpAny (model prog w) A (subscriptTail value slice (.ref l) (.int k u)) Q E s :=
  tail_any hl.typeIs slot_list_getitem.lookup (wpAny_getItem_list hl h0 h1 hx h) hs
theorem xs_snoc {vs : List Value} {xs : List Int} {i : Nat} {n : Int} {t : Tok} (hi : i < xs.length) (e : n = xs.getD i 0) (h : IntsAre vs (xs.take i)) : IntsAre (vs ++ [.int n t]) (xs.take (i + 1)) := by
  have q : xs.take (i + 1) = xs.take i ++ [xs.getD i 0] := by
    rw [List.take_add_one, List.getElem?_eq_getElem hi]; simp [hi]
  rw [q, ← e]; exact ints_snoc h
end Mine

theorem Mine.rstP21 : True := by w_top off; trivial
namespace Mine
theorem strs_are : ∀ ls : List (Str × Tok), StrsAre (strValues ls) (ls.map (·.1))
  | [] => .nil
  | a :: r => .cons _ _ (strs_are r)
theorem con_vstr {x dx f fd ll : Addr} {wi : List (Addr × Str)} {a1 : Addr} {y sep : Str} {ls : List (Str × Tok)} {n c : Nat} {width : Int} {t1 t2 ts : Tok} {v : VT} {ps qs : Array Value} {p : Program} {loose : List Str} {mean : ExcName → Option Value} {mg mb : Str → Option Value} {w : World} {dp un : Nat} {gd : Option (List Code)} {cn : Str} {cs : Scope} {ca : Addr} {ccd : Value} {cl : List (Str × Addr)} {outer : List Env} {A₀ : Around} {base h₀ : Heap} {L : Addr} {m : Str → Option Value} {s : Shared} {Q E : Value → Shared → Prop} {rest : List (Addr × Obj)}
  (B : Below A₀ base outer h₀) (F : Fr h₀ L s.heap m) (X : (hd.heap_1 w.params).In h₀) (N : News h₀ L s.heap ((x, accO dx (refs (wi ++ [(a1, y ++ Str.ofString ";")])) n) :: (dx, dictOf (accE w t1 t2) 1) :: (ll, W.listOf (strValues ls).toArray c) :: (f, instObj 94 fd) :: (fd, dictOf (vfE w width ll x v) 6) :: (140, tabO ps) :: (147, tabO qs) :: rest)) (T : Top p loose mean mg mb h₀) (hk : cs.kind = .function) (hd' : dp + 7 < recursionLimit) (hu : un + 8 * 10 < cLine)
  (O : Offs fd f ll dx x rest) (hws : Parts (wi ++ [(a1, y ++ Str.ofString ";")]) rest) (hf : Fine (wi ++ [(a1, y ++ Str.ofString ";")])) (hn : wi.length < 900) (hok : PyData.strOk (y ++ Str.ofString ";") = true) (htr : TriplesOk ps.toList) (htr2 : TriplesOk qs.toList) (G : AllBare s.gens)
  (hlines : ls.length ≤ 1000) (hsep : sep.length ≤ 1) (hsum : ((ls.map (·.1) ++ [glue (wi.map (·.2) ++ [y ++ Str.ofString ";"])]).map (·.length)).sum ≤ 100000)
  (ret : ∀ s' ps' qs' tl, Fr h₀ L s'.heap m → News h₀ L s'.heap ((140, tabO ps') :: (147, tabO qs') :: rest) → TriplesOk ps'.toList → TriplesOk qs'.toList → AllBare s'.gens → s'.os = s.os → Q (.str (Txt.join sep (ls.map (·.1) ++ [glue (wi.map (·.2) ++ [y ++ Str.ofString ";"])])) tl) s') :
  wpAny (model Challenge.rw_wo0053_01.row.prog w) (ktrTop dp un gd cn cs L ca ccd cl outer) (call (.ref 42) [.ref f, .str sep ts]) Q E s := by
  have hz1 : (strValues ls).toArray.size ≤ 1000 := by simpa [strValues] using hlines
  obtain ⟨o1, o2, o3, o4, o5, r1, r2, r3, r4, r5, r6, r7⟩ := id O
  revert X; k_fill; intro X
  refine wpAny_call ?_
  k_dflt (walk_at "mine enter")
  k_steps
  k_here
  k_dflt (refine' Mine.con_newline ?k1 ?k2 ?k3 ?k4 ?k5 ?k6 ?k7 ?k8 O hws hf hn hok htr htr2 ?k9 hz1 ?_; (case k1 => k_asm); (case k2 => k_asm); (case k3 => k_asm); (case k4 => k_asm); (case k5 => k_asm); (case k6 => first | exact rfl | assumption); (case k7 => ktr_room); (case k8 => ktr_units); (case k9 => walk_at "mine bare"); k_whole)
  intro s' ps' qs' n' c' tl t1' t2' F' N' tr' tr2' G' o'
  rw [lines_push] at N'
  k_steps
  k_here
  refine PyProof.Rows.join_list (ys := (ls ++ [(glue (wi.map (·.2) ++ [y ++ Str.ofString ";"]), tl)]).map (·.1)) (News.isList N' (.tail _ (.tail _ (.head _)))) (strs_are _) ?_ ?_
  · rw [List.map_append]
    have h9 : (ls.map (·.1)).length ≤ 1000 := by simpa using hlines
    simp only [List.map_append, List.map_cons, List.map_nil, List.sum_append, List.sum_cons, List.sum_nil, List.length_append, List.length_cons, List.length_nil] at hsum ⊢
    have : ((ls.map (·.1)).length + (0 + 1)) * sep.length ≤ 1001 * 1 := Nat.mul_le_mul (by omega) hsep
    omega
  intro t9 k9
  rw [List.map_append]
  k_steps
  rename News h₀ _ _ _ => kN9
  exact ret _ _ _ _ (by k_asm) (fun p hp => kN9 p (.tail _ (.tail _ (.tail _ (.tail _ (.tail _ hp)))))) tr' tr2' (by walk_at "mine bare") (by walk_at "mine os")
end Mine

theorem Mine.rstP22 : True := by w_top off; trivial
namespace Mine
def FoldJ (w : World) (width : Int) (f fd ll dx x : Addr) (v : VT) (zs : List Str) (rest0 : List (Addr × Obj)) (i : Nat) (l : List (Addr × Obj)) : Prop :=
  ∃ ws ls n c t1 t2 ps qs rest', l = ((x, accO dx (refs ws) n) :: (dx, dictOf (accE w t1 t2) 1) :: (ll, W.listOf (strValues ls).toArray c) :: (f, instObj 94 fd) :: (fd, dictOf (vfE w width ll x v) 6) :: (140, tabO ps) :: (147, tabO qs) :: rest') ∧
    Offs fd f ll dx x rest' ∧ Parts ws rest' ∧ Fine ws ∧ (ws.map (·.2), ls.map (·.1)) = ((rowsAt width (zs.take i)).1, (rowsAt width (zs.take i)).2.map glue) ∧ TriplesOk ps.toList ∧ TriplesOk qs.toList ∧ ∀ p ∈ rest0, p ∈ rest'
theorem FoldJ.elim {w : World} {width : Int} {f fd ll dx x : Addr} {v : VT} {zs : List Str} {rest0 l : List (Addr × Obj)} {i : Nat} {C : Prop} (h : FoldJ w width f fd ll dx x v zs rest0 i l)
    (k : ∀ ws ls n c t1 t2 ps qs rest', l = ((x, accO dx (refs ws) n) :: (dx, dictOf (accE w t1 t2) 1) :: (ll, W.listOf (strValues ls).toArray c) :: (f, instObj 94 fd) :: (fd, dictOf (vfE w width ll x v) 6) :: (140, tabO ps) :: (147, tabO qs) :: rest') →
      Offs fd f ll dx x rest' → Parts ws rest' → Fine ws → (ws.map (·.2), ls.map (·.1)) = ((rowsAt width (zs.take i)).1, (rowsAt width (zs.take i)).2.map glue) → TriplesOk ps.toList → TriplesOk qs.toList → (∀ p ∈ rest0, p ∈ rest') → C) : C := by
  obtain ⟨ws, ls, n, c, t1, t2, ps, qs, rest', e, a1, a2, a3, a4, a5, a6, a7⟩ := h
  exact k ws ls n c t1 t2 ps qs rest' e a1 a2 a3 a4 a5 a6 a7
theorem Fine.nil : Fine [] := ⟨(by intro _ h; cases h), (by intro _ h; cases h), (by intro _ h; cases h), Nat.zero_le _⟩
theorem fold_facts {ws : List (Addr × Str)} {ls : List (Str × Tok)} {ks : List Nat} {width : Int} {i : Nat} (hk1 : ks.length ≤ 50)
    (hst : (ws.map (·.2), ls.map (·.1)) = ((rowsAt width ((ks.map word).take i)).1, (rowsAt width ((ks.map word).take i)).2.map glue)) :
    ws.length ≤ 50 ∧ ls.length ≤ 50 ∧ ∀ a ∈ ws, ∃ k, a.2 = word k := by
  obtain ⟨f, g⟩ := rows_in width ((ks.map word).take i)
  obtain ⟨e1, e2⟩ := Prod.mk.inj hst
  have l1 := congrArg List.length e1
  have l2 := congrArg List.length e2
  simp only [List.length_map] at l1 l2
  have l3 : ((ks.map word).take i).length ≤ ks.length := by rw [List.length_take, List.length_map]; lia
  refine ⟨by lia, by lia, fun a ha => ?_⟩
  have h1 : a.2 ∈ ks.map word := by
    refine List.mem_of_mem_take (i := i) ?_
    rw [← f]
    exact List.mem_append_right _ (e1 ▸ List.mem_map_of_mem ha)
  obtain ⟨k, _, e⟩ := List.mem_map.mp h1
  exact ⟨k, e.symm⟩
theorem rot8 {h₀ h : Heap} {L : Addr} {a b1 b2 b3 b4 b5 b6 b7 : Addr × Obj} {l : List (Addr × Obj)} (N : News h₀ L h (a :: b1 :: b2 :: b3 :: b4 :: b5 :: b6 :: b7 :: l)) : News h₀ L h (b1 :: b2 :: b3 :: b4 :: b5 :: b6 :: b7 :: a :: l) := fun p hp => N p (by
  revert p
  repeat' (first | exact List.forall_mem_nil _ | refine List.forall_mem_cons.mpr ⟨?_, ?_⟩ | exact .head _ | (intro p hp; first | exact hp | (repeat (first | exact hp | apply List.Mem.tail))) | apply List.Mem.tail))
theorem rot9 {h₀ h : Heap} {L : Addr} {i a b1 b2 b3 b4 b5 b6 b7 : Addr × Obj} {l : List (Addr × Obj)} (N : News h₀ L h (b1 :: b2 :: b3 :: b4 :: b5 :: b6 :: b7 :: a :: i :: l)) : News h₀ L h (i :: b1 :: b2 :: b3 :: b4 :: b5 :: b6 :: b7 :: a :: l) := fun p hp => N p (by
  revert p
  repeat' (first | exact List.forall_mem_nil _ | refine List.forall_mem_cons.mpr ⟨?_, ?_⟩ | exact .head _ | (intro p hp; first | exact hp | (repeat (first | exact hp | apply List.Mem.tail))) | apply List.Mem.tail))
theorem Offs.drop2 {fd f ll dx x : Addr} {a b : Addr × Obj} {rest : List (Addr × Obj)} (O : Offs fd f ll dx x (a :: b :: rest)) : Offs fd f ll dx x (a :: rest) := by
  obtain ⟨a1, a2, a3, a4, a5, b1, b2, b3, b4, b5, b6, b7⟩ := O
  have dr : ∀ {P : Addr}, (∀ p ∈ a :: b :: rest, p.1 ≠ P) → ∀ p ∈ a :: rest, p.1 ≠ P := fun h p hp => h p (by
    rcases List.mem_cons.mp hp with e | hp
    · rw [e]; exact .head _
    · exact .tail _ (.tail _ hp))
  exact ⟨a1, a2, a3, a4, a5, dr b1, dr b2, dr b3, dr b4, dr b5, dr b6, dr b7⟩
theorem fold_last {ws : List (Addr × Str)} {ls : List (Str × Tok)} {ks : List Nat} {width : Int} (hk0 : 0 < ks.length) (hk1 : ks.length ≤ 50) (hks : ∀ k ∈ ks, k ≤ 50)
    (hst : (ws.map (·.2), ls.map (·.1)) = ((rowsAt width (ks.map word)).1, (rowsAt width (ks.map word)).2.map glue)) :
    ∃ wi a1 k, ws = wi ++ [(a1, word k)] ∧ ls.map (·.1) ++ [glue (wi.map (·.2) ++ [word k])] = (rowsOf width (ks.map word)).map glue ∧ (((rowsOf width (ks.map word)).map glue).map (·.length)).sum ≤ 2550 := by
  obtain ⟨f, g⟩ := rows_in width (ks.map word)
  obtain ⟨e1, e2⟩ := Prod.mk.inj hst
  have hne : ks ≠ [] := fun e => by rw [e] at hk0; exact absurd hk0 (Nat.lt_irrefl _)
  obtain ⟨ki, kl, hkl⟩ := List.eq_nil_or_concat ks |>.resolve_left hne
  rw [List.concat_eq_append] at hkl
  obtain ⟨i, hi⟩ : ∃ i, (rowsAt width (ks.map word)).1 = i ++ [word kl] := by
    rw [hkl, List.map_append, List.map_cons, List.map_nil, rows_snoc]
    exact stepR_last _ _ _
  rcases List.eq_nil_or_concat ws with rfl | ⟨wi, a, rfl⟩
  · rw [hi] at e1; simp at e1
  · rw [List.concat_eq_append] at *
    have e3 : a.2 = word kl := by
      rw [hi, List.map_append, List.map_cons, List.map_nil] at e1
      exact (List.append_inj' e1 rfl).2 |> fun h => by simpa using h
    refine ⟨wi, a.1, kl, by rw [← e3], ?_, ?_⟩
    · unfold rowsOf
      rw [List.map_append, ← e2, ← e1, List.map_append, List.map_cons, List.map_nil, List.map_cons, List.map_nil, e3]
    · have h1 : ∀ l : List (List Str), ((l.map glue).map (·.length)).sum = (l.flatten.map (·.length)).sum := by
        intro l
        induction l with
        | nil => rfl
        | cons b r ih => simp only [List.map_cons, List.sum_cons, List.flatten_cons, List.map_append, List.sum_append, glue_length, ih]
      rw [h1]
      unfold rowsOf
      rw [List.flatten_append, List.flatten_cons, List.flatten_nil, List.append_nil, f]
      have h2 : ∀ l : List Nat, (∀ k ∈ l, k ≤ 50) → ((l.map word).map (·.length)).sum ≤ 51 * l.length := by
        intro l
        induction l with
        | nil => intro _; simp
        | cons k r ih =>
          intro h
          have := ih fun b hb => h b (.tail _ hb)
          have := h k (.head _)
          simp only [List.map_cons, List.sum_cons, List.length_cons, word_length]
          lia
      have := h2 ks hks
      lia
theorem drop2nd {h₀ h : Heap} {L : Addr} {a b : Addr × Obj} {l : List (Addr × Obj)} (N : News h₀ L h (a :: b :: l)) : News h₀ L h (a :: l) := fun p hp => N p (by
  rcases List.mem_cons.mp hp with e | hp
  · rw [e]; exact .head _
  · exact .tail _ (.tail _ hp))
theorem con_counts {wl : Addr} {zs : List (Str × Tok)} {ks q0 q1 : List Nat} {qr : List (List Nat)} {c : Nat} {width : Int} {tw : Tok} {ps qs : Array Value} {p : Program} {loose : List Str} {mean : ExcName → Option Value} {mg mb : Str → Option Value} {w : World} {dp un : Nat} {gd : Option (List Code)} {cn : Str} {cs : Scope} {ca : Addr} {ccd : Value} {cl : List (Str × Addr)} {outer : List Env} {A₀ : Around} {base h₀ : Heap} {L : Addr} {m : Str → Option Value} {s : Shared} {Q E : Value → Shared → Prop} {rest : List (Addr × Obj)}
  (B : Below A₀ base outer h₀) (F : Fr h₀ L s.heap m) (X : (hd.heap_1 w.params).In h₀) (N : News h₀ L s.heap ((140, tabO ps) :: (147, tabO qs) :: (wl, W.listOf (strValues zs).toArray c) :: rest)) (T : Top p loose mean mg mb h₀) (hk : cs.kind = .function) (hd' : dp + 12 < recursionLimit) (hu : un + 8 * 20 < cLine)
  (r1 : ∀ p ∈ rest, p.1 ≠ 140) (r2 : ∀ p ∈ rest, p.1 ≠ 147) (r3 : @Ne Nat wl 140) (r4 : @Ne Nat wl 147) (htr : TriplesOk ps.toList) (htr2 : TriplesOk qs.toList) (G : AllBare s.gens)
  (hzs : zs.map (·.1) = ks.map word) (hks : ∀ k ∈ ks, k ≤ 50) (hk0 : 0 < ks.length) (hk1 : ks.length ≤ 50) (hrows : rowsK width ks = q0 :: q1 :: qr)
  (ret : ∀ s' t ps' qs' u1 u2, Fr h₀ L s'.heap m → News h₀ L s'.heap ((t, W.listOf #[.int (q0.length : Int) u1, .int ((q0.length : Int) + (q1.length : Int)) u2] 0) :: (140, tabO ps') :: (147, tabO qs') :: (wl, W.listOf (strValues zs).toArray c) :: rest) → TriplesOk ps'.toList → TriplesOk qs'.toList → AllBare s'.gens → s'.os = s.os → (∀ p ∈ rest, @LT.lt Nat _ p.1 t) → @LT.lt Nat _ wl t → @LT.lt Nat _ 147 t → Q (.ref t) s') :
  wpAny (model Challenge.rw_wo0053_01.row.prog w) (ktrTop dp un gd cn cs L ca ccd cl outer) (call (.ref 238) [.ref wl, .int width tw]) Q E s := by
  revert X; k_fill; intro X
  refine wpAny_call ?_
  k_dflt (walk_at "mine enter")
  k_steps
  k_here
  k_dflt (refine' Mine.con_vf ?k1 ?k2 ?k3 ?k4 ?k5 ?k6 ?k7 ?k8 ?_; (case k1 => k_asm); (case k2 => k_asm); (case k3 => k_asm); (case k4 => k_asm); (case k5 => k_asm); (case k6 => first | exact rfl | assumption); (case k7 => ktr_room); (case k8 => ktr_units); k_whole)
  intro s1 f fd ll x dx t1 t2 n v F1 N1 g1 o1 l1 l2 l3 l4 l5
  have hg0 : 147 < fd := l1 (147, tabO qs) (.tail _ (.head _))
  walk_at "mine upto"
  refine For_go ?_
  k_steps
  refine forListV (FoldJ w width f fd ll dx x v (zs.map (·.1)) ((wl, W.listOf (strValues zs).toArray c) :: rest)) rfl rfl rfl (by k_asm) (by k_asm) (.tail _ (.tail _ (.tail _ (.tail _ (.tail _ (.tail _ (.tail _ (.head _)))))))) (by walk_at "mine bare") ?_ ?_ ?_ ?_
  · refine ⟨[], [], n, 0, t1, t2, ps, qs, _, rfl, ⟨hg0, l2, l3, l4, l5, ?_, ?_, ?_, ?_, ?_, ?_, ?_⟩, Parts.nil, Fine.nil, rfl, htr, htr2, fun p hp => hp⟩
    · intro p hp; rcases List.mem_cons.mp hp with rfl | hp
      · exact r3
      · exact r1 p hp
    · intro p hp; rcases List.mem_cons.mp hp with rfl | hp
      · exact r4
      · exact r2 p hp
    all_goals (intro p hp; have hlt := l1 p (.tail _ (.tail _ hp)))
    · exact Nat.ne_of_lt hlt
    · exact Nat.ne_of_lt (Nat.lt_trans hlt l2)
    · exact Nat.ne_of_lt (Nat.lt_trans hlt (Nat.lt_trans l2 l3))
    · exact Nat.ne_of_lt (Nat.lt_trans hlt (Nat.lt_trans l2 (Nat.lt_trans l3 l4)))
    · exact Nat.ne_of_lt (Nat.lt_trans hlt (Nat.lt_trans l2 (Nat.lt_trans l3 (Nat.lt_trans l4 l5))))
  · intro i l hJ
    refine hJ.elim ?_
    rintro ws ls n' c' t1' t2' ps' qs' rest' rfl _ _ _ _ _ _ hsub
    exact .tail _ (.tail _ (.tail _ (.tail _ (.tail _ (.tail _ (.tail _ (hsub _ (.head _))))))))
  · intro i v9 I oI l s2 hv lt hJ off F2 N2 G2 o2
    refine hJ.elim ?_
    clear hJ
    rintro ws ls n' c' t1' t2' ps' qs' rest' rfl O hws hf hst htr' htr2' hsub
    obtain ⟨z, tz, hzi, rfl⟩ : ∃ z tz, zs[i]? = some (z, tz) ∧ v9 = .str z tz := by
      simp only [strValues, List.getElem?_toArray, List.getElem?_map, Option.map_eq_some_iff] at hv
      obtain ⟨⟨z, tz⟩, e1, e2⟩ := hv
      exact ⟨z, tz, e1, e2.symm⟩
    rw [hzs] at hst
    obtain ⟨ff1, ff2, ff3⟩ := fold_facts hk1 hst
    have hzk : ∃ k, k ≤ 50 ∧ z = word k := by
      have : z ∈ zs.map (·.1) := List.mem_map.mpr ⟨(z, tz), List.mem_of_getElem? hzi, rfl⟩
      rw [hzs] at this
      obtain ⟨k, hk, e⟩ := List.mem_map.mp this
      exact ⟨k, hks k hk, e.symm⟩
    obtain ⟨kz, hkz, ez⟩ := hzk
    have hzi' : (ks.map word)[i]? = some z := by rw [← hzs, List.getElem?_map, hzi]; rfl
    have hxI : @LT.lt Nat _ x I := lt (x, _) (.head _)
    k_steps
    k_here
    k_dflt (refine' Mine.con_step (ws := ws) (ls := ls) ?k1 ?k2 ?k3 (rot8 N2) ?k5 ?k6 ?k7 ?k8 (O.cons hxI) hws.tail hf (by lia) (by rw [ez, word_length]; lia) (fun a ha => by obtain ⟨k, e⟩ := ff3 a ha; exact ⟨_, e⟩) (by lia) htr' htr2' G2 ?_; (case k1 => k_asm); (case k2 => k_asm); (case k3 => k_asm); (case k5 => k_asm); (case k6 => first | exact rfl | assumption); (case k7 => ktr_room); (case k8 => ktr_units); k_whole)
    intro s3 t ws3 ls3 n3 c3 t13 t23 ps3 qs3 F3 N3 O3 hw3 hf3 hst3 tr3 trb3 G3 o3 lt3
    k_steps
    dsimp only [FlowTo]
    have hI : @LT.lt Nat _ I t := lt3 (I, oI) (.head _)
    refine invP0 (by k_asm) (rot9 N3) ⟨off.1, off.2.1, off.2.2.1, off.2.2.2.1, off.2.2.2.2.1, off.2.2.2.2.2.1, off.2.2.2.2.2.2.1, Nat.ne_of_gt hI, off.2.2.2.2.2.2.2⟩ ⟨fun y hy => if_neg hy, ?_⟩ G3 (by walk_at "mine os")
    refine ⟨ws3, ls3, n3, c3, t13, t23, ps3, qs3, _, rfl, ?_, hw3 _ hws.tail (.head _), hf3, ?_, tr3, trb3, fun p hp => .tail _ (hsub p hp)⟩
    · exact O3.drop2
    · rw [hzs] at *
      have e1 : (ks.map word).take (i + 1) = (ks.map word).take i ++ [z] := by
        rw [List.take_succ, hzi']; rfl
      rw [e1, rows_snoc, ← hst3, hst, step_R]
  · intro u l s2 hJ F2 N2 G2 o2
    refine hJ.elim ?_
    clear hJ
    rintro ws ls n' c' t1' t2' ps' qs' rest' rfl O hws hf hst htr' htr2' hsub
    have esz : (strValues zs).toArray.size = (ks.map word).length := by rw [← hzs]; simp [strValues]
    rw [esz, hzs, List.take_length] at hst
    obtain ⟨wi, a1, k, rfl, el, esum⟩ := fold_last hk0 hk1 hks hst
    have ff := fold_facts (i := (ks.map word).length) hk1 (by rw [List.take_length]; exact hst)
    have fw1 := ff.1
    rw [List.length_append] at fw1
    have hwl : (word k).length ≤ 51 := by
      obtain ⟨f, _⟩ := rows_in width (ks.map word)
      have : word k ∈ ks.map word := by
        rw [← f]
        refine List.mem_append_right _ ?_
        rw [← (Prod.mk.inj hst).1]
        simp
      obtain ⟨k', hk', e⟩ := List.mem_map.mp this
      rw [← e, word_length]
      have := hks k' hk'
      lia
    have erows : (rowsOf width (ks.map word)).map glue = glue (q0.map word) :: glue (q1.map word) :: qr.map fun r => glue (r.map word) := by
      rw [rows_K, hrows]; simp
    k_steps
    k_here
    k_dflt (refine' Mine.con_vstr (wi := wi) (ls := ls) (a1 := a1) (y := ⟨(List.replicate k 120).toArray⟩) ?k1 ?k2 ?k3 N2 ?k5 ?k6 ?k7 ?k8 O hws hf (by lia) (word_ok k) htr' htr2' G2 (by lia) (by decide +kernel) (by show ((ls.map (·.1) ++ [glue (wi.map (·.2) ++ [word k])]).map (·.length)).sum ≤ 100000; rw [el]; lia) ?_; (case k1 => k_asm); (case k2 => k_asm); (case k3 => k_asm); (case k5 => k_asm); (case k6 => first | exact rfl | assumption); (case k7 => ktr_room); (case k8 => ktr_units); k_whole)
    intro s3 ps3 qs3 tl3 F3 N3 tr3 trb3 G3 o3
    have el' : ls.map (·.1) ++ [glue (wi.map (·.2) ++ [(⟨(List.replicate k 120).toArray⟩ : Str) ++ Str.ofString ";"])] = glue (q0.map word) :: glue (q1.map word) :: qr.map fun r => glue (r.map word) := el.trans erows
    rw [el']
    k_steps
    have hjl : (Txt.join (Str.ofString "\n") (glue (q0.map word) :: glue (q1.map word) :: qr.map fun r => glue (r.map word))).length ≤ 3000 := by
      rw [eq_of_beq (join_plain_closes _ _)]
      refine Nat.le_trans (StrLaws.join_length_le _ _) ?_
      rw [← erows]
      have h1 : (Str.ofString "\n").length = 1 := by decide +kernel
      have h2 : (rowsOf width (ks.map word)).length ≤ 51 := by
        obtain ⟨_, g⟩ := rows_in width (ks.map word)
        unfold rowsOf
        rw [List.length_append]
        simp only [List.length_map, List.length_cons, List.length_nil] at g ⊢
        lia
      rw [h1, List.length_map]
      lia
    have esp : Txt.split (Txt.join (Str.ofString "\n") (glue (q0.map word) :: glue (q1.map word) :: qr.map fun r => glue (r.map word))) (Str.ofString "\n") = glue (q0.map word) :: glue (q1.map word) :: qr.map fun r => glue (r.map word) := by
      have hn : Str.ofString "\n" = ⟨#[10]⟩ := by decide +kernel
      rw [hn]
      refine split_join 10 _ (by simp) fun p hp => ?_
      have hp' : p ∈ (rowsK width ks).map fun r => glue (r.map word) := by rw [hrows]; exact hp
      obtain ⟨r, _, rfl⟩ := List.mem_map.mp hp'
      exact glue_line r
    have N4 : News _ _ s3.heap ((140, tabO ps3) :: (147, tabO qs3) :: (wl, W.listOf (strValues zs).toArray c) :: rest) := fun p hp => N3 p (by
      rcases List.mem_cons.mp hp with rfl | hp
      · exact .head _
      rcases List.mem_cons.mp hp with rfl | hp
      · exact .tail _ (.head _)
      exact .tail _ (.tail _ (hsub p hp)))
    clear N3 N2
    refine' KSpl.split1 ?ka ?kb ?kc ?_ ?kd
    case ka => k_asm
    case kb => k_asm
    case kc => decide +kernel
    case kd => rw [sizeLine_eq]; exact Nat.le_trans (Nat.add_le_add_right hjl 2) (by decide)
    intro D sl h5 k5 es _ F5 N5 lt5
    rw [esp] at es
    rcases sl with _ | ⟨⟨z0, u0⟩, _ | ⟨⟨z1, u1⟩, sr⟩⟩
    · cases es
    · cases es
    simp only [List.map_cons, List.cons.injEq] at es
    obtain ⟨rfl, rfl, es⟩ := es
    k_lt lt5
    k_steps
    rename News h₀ _ _ _ => kN9
    rw [count_glue, count_glue] at kN9
    exact ret _ _ _ _ _ _ (by k_asm) (drop2nd kN9) tr3 trb3 (by walk_at "mine bare") (by walk_at "mine os") (lt_all (by simp only [*])) (by lia) (by lia)
end Mine

end
end
end
section
theorem Mine.regF12 : True := by
  k_with_none
  k_with "own kne" => ((refine neN ?_; (try dsimp only); walk_at "mine apart"))
  k_with "own ktrroom" => (((try simp only [depth_under_make, depth_under_kw, depth_in1, depth_deeper, depth_caller]); (try dsimp only [ktrTop]); walk_at "mine near"))
  k_with "own ktrunits" => (((try simp only [units_in1, units_deeper, Around.mark_units, units_caller]); (try dsimp only [ktrTop]); walk_at "mine near"))
  k_with "mine near" => (((try simp only [Nat.add_assoc]); first | exact Mine.roomOf ‹_› (by decide) | exact Mine.roomOf0 ‹_› | decide))
  k_with "mine apart" => (first | assumption | exact Ne.symm ‹_› | exact Nat.ne_of_lt ‹_› | exact Nat.ne_of_gt ‹_› | exact Nat.ne_of_lt (Mine.A0 ‹_›) | exact Nat.ne_of_gt (Mine.A0 ‹_›) | exact Mine.A0 ‹_› | exact Ne.symm (Mine.A0 ‹_›) | exact Nat.ne_of_lt (Mine.A1 ‹_›) | exact Nat.ne_of_gt (Mine.A1 ‹_›) | exact Mine.A1 ‹_› | exact Ne.symm (Mine.A1 ‹_›) | exact Nat.ne_of_lt (Mine.A2 ‹_›) | exact Nat.ne_of_gt (Mine.A2 ‹_›) | exact Mine.A2 ‹_› | exact Ne.symm (Mine.A2 ‹_›) | exact Nat.ne_of_lt (Mine.A3 ‹_›) | exact Nat.ne_of_gt (Mine.A3 ‹_›) | exact Mine.A3 ‹_› | exact Ne.symm (Mine.A3 ‹_›) | exact Nat.ne_of_lt (Mine.A4 ‹_›) | exact Nat.ne_of_gt (Mine.A4 ‹_›) | exact Mine.A4 ‹_› | exact Ne.symm (Mine.A4 ‹_›) | exact Nat.ne_of_lt (Mine.A5 ‹_›) | exact Nat.ne_of_gt (Mine.A5 ‹_›) | exact Mine.A5 ‹_› | exact Ne.symm (Mine.A5 ‹_›) | exact Nat.ne_of_lt (Mine.A6 ‹_›) | exact Nat.ne_of_gt (Mine.A6 ‹_›) | exact Mine.A6 ‹_› | exact Ne.symm (Mine.A6 ‹_›) | exact Nat.ne_of_lt (Mine.A7 ‹_›) | exact Nat.ne_of_gt (Mine.A7 ‹_›) | exact Mine.A7 ‹_› | exact Ne.symm (Mine.A7 ‹_›) | exact Nat.ne_of_lt (Mine.A8 ‹_›) | exact Nat.ne_of_gt (Mine.A8 ‹_›) | exact Mine.A8 ‹_› | exact Ne.symm (Mine.A8 ‹_›) | exact Nat.ne_of_lt (Mine.A9 ‹_›) | exact Nat.ne_of_gt (Mine.A9 ‹_›) | exact Mine.A9 ‹_› | exact Ne.symm (Mine.A9 ‹_›) | exact Nat.ne_of_lt (Mine.A10 ‹_›) | exact Nat.ne_of_gt (Mine.A10 ‹_›) | exact Mine.A10 ‹_› | exact Ne.symm (Mine.A10 ‹_›) | decide | omega)
  k_with "getMethod ref" => ((k_here; k_dflt (refine' Mine.accK_method ?k1Zc ?k2Zc ?k3Zc ?k4Zc ?k5Zc ?k6Zc ?k7Zc ?k8Zc ?k9Zc ?k10Zc ?k11Zc ?_; (case k1Zc => k_asm); (case k2Zc => k_asm); (case k3Zc => k_asm); (case k4Zc => k_mem); (case k5Zc => k_mem); (case k6Zc => k_is); (case k7Zc => k_is); (case k8Zc => k_is); (case k9Zc => k_is); (case k10Zc => decide); (case k11Zc => k_get); k_whole)))
  k_with "call builtin:list.append" => ((k_here; (with_reducible show wpAny _ _ (call (Value.builtin _) [Value.ref _, _]) _ _ _); k_dflt (refine' Mine.accK_append ?k1Zc ?k2Zc ?k3Zc ?k4Zc ?k5Zc ?k6Zc ?_ ?zZc; (case k1Zc => k_asm); (case k2Zc => k_asm); (case k3Zc => k_asm); (case k6Zc => k_upd); (case k4Zc => k_mem); (case k5Zc => k_is); (case zZc => first | size_fits | (rw [sizeLine_eq]; omega)); k_whole); intro hqZn FqZn NqZn; (try k_sweep)))
  k_with "getAttr ref" => ((k_here; k_dflt (refine' Mine.accK_get ?k1Zc ?k2Zc ?k3Zc ?k4Zc ?k5Zc ?k6Zc ?k7Zc ?k8Zc ?k9Zc ?k10Zc ?k11Zc ?k12Zc ?k13Zc ?_; (case k1Zc => k_asm); (case k2Zc => k_asm); (case k3Zc => k_asm); (case k4Zc => k_mem); (case k5Zc => k_mem); (case k6Zc => k_is); (case k7Zc => k_is); (case k8Zc => k_is); (case k9Zc => k_is); (case k10Zc => k_is); (case k11Zc => k_is); (case k12Zc => k_get); (case k13Zc => k_handed); k_whole)))
  k_with "setAttr ref" => ((k_here; k_dflt (refine' Mine.accK_set ?k1Zc ?k2Zc ?k3Zc ?k4Zc ?k5Zc ?k6Zc ?k7Zc ?k8Zc ?k9Zc ?k10Zc ?k11Zc ?k12Zc ?k13Zc ?k14Zc ?_; (case k1Zc => k_asm); (case k2Zc => k_asm); (case k3Zc => k_asm); (case k4Zc => k_mem); (case k5Zc => k_mem); (case k6Zc => k_is); (case k7Zc => k_is); (case k8Zc => rfl); (case k9Zc => rfl); (case k10Zc => k_is); (case k11Zc => k_get); (case k12Zc => k_put); (case k13Zc => k_upd); (case k14Zc => exact Nat.le_of_ble_eq_true rfl); k_whole); intro hqZn FqZn NqZn; (try k_sweep)))
  k_with "call builtin:len" => ((k_here; (with_reducible show wpAny _ _ (call (Value.builtin "len") [Value.ref _]) _ _ _); k_dflt (refine' Mine.accK_len ?k1Zc ?k2Zc ?k3Zc ?k4Zc ?k5Zc ?k6Zc ?k7Zc ?_; (case k1Zc => k_asm); (case k2Zc => k_asm); (case k3Zc => k_asm); (case k4Zc => k_mem); (case k5Zc => k_mem); (case k6Zc => k_is); (case k7Zc => k_is); k_whole)))
  k_with "subscriptTail" => ((k_here; (with_reducible show wpAny _ _ (subscriptTail _ _ (Value.ref _) (Value.ref _)) _ _ _); k_dflt (refine' Mine.accK_slice ?k1Zc ?k2Zc ?k3Zc ?k4Zc ?k5Zc ?k6Zc ?k7Zc ?k8Zc ?k9Zc ?k10Zc ?k11Zc ?zZc ?_ ?k12Zc; (case k1Zc => k_asm); (case k2Zc => k_asm); (case k3Zc => k_asm); (case k4Zc => k_mem); (case k5Zc => k_mem); (case k6Zc => k_is); (case k7Zc => k_is); (case k8Zc => k_is); (case k9Zc => first | exact .none | exact .int _ _); (case k10Zc => first | exact .none | exact .int _ _); (case k11Zc => exact Mine.accPick _ _); (case zZc => first | size_fits | (rw [sizeLine_eq]; omega)); (case k12Zc => intro slZn; with_unfolding_all rfl); k_whole); intro lqZn hqZn FqZn NqZn l1Zn; (try k_lt l1Zn); (try k_sweep)))
  k_with "setItem ref" => ((k_here; (with_reducible show wpAny _ _ (setItem (Value.ref _) (Value.ref _) (Value.ref _)) _ _ _); k_dflt (refine' Mine.accK_setSlice ?k1Zc ?k2Zc ?k3Zc ?k4Zc ?k5Zc ?k6Zc ?k7Zc ?k8Zc ?k10Zc ?k11Zc ?k12Zc ?k13Zc ?k14Zc ?zZc ?_; (case k1Zc => k_asm); (case k2Zc => k_asm); (case k3Zc => k_asm); (case k4Zc => k_mem); (case k5Zc => k_mem); (case k6Zc => k_is); (case k7Zc => k_is); (case k8Zc => k_is); (case k10Zc => k_mem); (case k11Zc => first | exact .none | exact .int _ _); (case k12Zc => first | exact .none | exact .int _ _); (case k13Zc => first | exact Mine.accB_all _ _ | exact Mine.accB_del _ _ (by assumption)); (case k14Zc => k_upd); (case zZc => first | size_fits | (simp only [List.length_nil, List.length_cons]; rw [sizeLine_eq]; omega)); k_whole); intro hqZn FqZn NqZn; (try k_sweep)))
  k_with "subscriptTail" => ((k_here; (with_reducible show wpAny _ _ (subscriptTail _ _ (Value.ref _) (Value.int _ _)) _ _ _); k_dflt (refine' Mine.accK_item ?k1Zc ?k2Zc ?k3Zc ?k4Zc ?k5Zc ?k6Zc ?k7Zc ?k8Zc ?k9Zc ?k10Zc ?k11Zc ?_ ?k12Zc; (case k1Zc => k_asm); (case k2Zc => k_asm); (case k3Zc => k_asm); (case k4Zc => k_mem); (case k5Zc => k_mem); (case k6Zc => k_is); (case k7Zc => k_is); (case k8Zc => k_is); (case k9Zc => omega); (case k10Zc => omega); (case k11Zc => first | assumption | rfl); (case k12Zc => with_unfolding_all rfl); k_whole)))
  k_with "mine enter" => ((refine' code_def ?k1Zc ?k2Zc ?k3Zc ?k4Zc ?k5Zc ?kAZc ?kFZc ?kKZc ?k6Zc ?k7Zc ?k8Zc ?k9Zc ?kBZc ?_ ?c2Zc ?c3Zc ?c4Zc ?c5Zc; (case kAZc => exact rfl); (case kFZc => exact rfl); (case kKZc => assumption); (case k1Zc => k_asm); (case k2Zc => k_asm); (case k3Zc => k_asm); (case k4Zc => k_asm); (case k5Zc => k_asm); (case k6Zc => k_is); (case k7Zc => k_is); (case k8Zc => ktr_room); (case k9Zc => first | exact BindsTo.of_eq rfl | exact binds_K (by k_in) rfl (by k_is) rfl rfl rfl); (case c5Zc => decide); (case kBZc => exact locs rfl); (case c2Zc => exact rfl); (case c3Zc => exact rfl); (case c4Zc => exact rfl); k_whole; intro gqZn LqZn hqZn FGqZn FqZn NqZn BqZn XqZn TqZn; (try dsimp only); (try k_lift BqZn); (try k_fold)))
  k_with "mine sub" => (first | exact fun _ h => h | (refine' List.forall_mem_cons.mpr ⟨?maZc, ?mbZc⟩; (case maZc => k_mem); (case mbZc => walk_at "mine sub")) | (intro pZn hpZn; (repeat' first | exact hpZn | apply List.Mem.tail)))
  k_with "mine news" => (first | k_asm | (refine' cb_drop ?cbNZc ?cbSZc; (case cbNZc => assumption); (case cbSZc => walk_at "mine sub")))
  k_with "mine senter" => ((refine' ks_code_super ?k1Zc ?k2Zc ?k3Zc ?k4Zc ?k5Zc ?kAZc ?kFZc ?kKZc ?k6Zc ?k7Zc ?k8Zc ?k9Zc ?kBZc ?_ ?c1Zc ?c2Zc ?c3Zc ?c4Zc; (case kAZc => exact rfl); (case kFZc => exact rfl); (case kKZc => assumption); (case k1Zc => k_asm); (case k2Zc => k_asm); (case k3Zc => k_asm); (case k4Zc => k_asm); (case k5Zc => k_asm); (case k6Zc => k_is); (case k7Zc => k_is); (case k8Zc => ktr_room); (case k9Zc => first | exact BindsTo.of_eq rfl | exact binds_K (by k_in) rfl (by k_is) rfl rfl rfl); (case kBZc => exact locs rfl); (case c1Zc => decide); (case c2Zc => exact rfl); (case c3Zc => exact rfl); (case c4Zc => exact rfl); intro gqZn LqZn hqZn FGqZn FqZn NqZn BqZn XqZn TqZn l1Zn; (try k_lt l1Zn); (try dsimp only); (try k_lift BqZn)))
  k_with "wpAt" => ((ks_step "attributeBase Call"; k_here; k_dflt (refine ks_node (by k_asm) (by k_asm) (by k_asm) (by k_asm) (by k_is) (by rfl) (by rfl) (Mine.accI (by k_asm) (by k_mem) (by k_mem)) (by k_is) (by rfl) (by first | rfl | decide +kernel) (by k_is) (by k_is) (by k_is) (by k_is) (by decide) (by rfl) (by rfl) (by rfl) (by rfl) (by decide +kernel) (by first | boot_by_name | rfl | kernel_rfl) ?_; intro soqZn hqZn FqZn NqZn l1Zn; (try k_lt l1Zn))))
  k_with "getMethod ref" => ((k_here; k_dflt (first | ((with_reducible show wpAny _ _ (getMethod (Value.ref _) (PySem.Str.ofString "pop") _) _ _ _); refine' Mine.accK_supPop ?k1Zc ?k2Zc ?k3Zc ?k4Zc ?k5Zc ?k6Zc ?k7Zc ?k8Zc ?k9Zc ?k10Zc ?_; (case k1Zc => k_asm); (case k2Zc => k_asm); (case k3Zc => k_asm); (case k4Zc => k_mem); (case k5Zc => k_mem); (case k6Zc => k_mem); (case k7Zc => k_is); (case k8Zc => k_is); (case k9Zc => ks_is); (case k10Zc => k_is); intro qqZn hqZn FqZn NqZn l1Zn; (try k_lt l1Zn)) | ((with_reducible show wpAny _ _ (getMethod (Value.ref _) (PySem.Str.ofString "__len__") _) _ _ _); refine' Mine.accK_supLen ?k1Zc ?k2Zc ?k3Zc ?k4Zc ?k5Zc ?k6Zc ?k7Zc ?k8Zc ?k9Zc ?k10Zc ?_; (case k1Zc => k_asm); (case k2Zc => k_asm); (case k3Zc => k_asm); (case k4Zc => k_mem); (case k5Zc => k_mem); (case k6Zc => k_mem); (case k7Zc => k_is); (case k8Zc => k_is); (case k9Zc => ks_is); (case k10Zc => k_is); intro qqZn hqZn FqZn NqZn l1Zn; (try k_lt l1Zn)) | ((with_reducible show wpAny _ _ (getMethod (Value.ref _) (PySem.Str.ofString "__init__") _) _ _ _); refine' Mine.accK_supInit ?k1Zc ?k2Zc ?k3Zc ?k4Zc ?k5Zc ?k6Zc ?k7Zc ?k8Zc ?k9Zc ?k10Zc ?_; (case k1Zc => k_asm); (case k2Zc => k_asm); (case k3Zc => k_asm); (case k4Zc => k_mem); (case k5Zc => k_mem); (case k6Zc => k_mem); (case k7Zc => k_is); (case k8Zc => k_is); (case k9Zc => ks_is); (case k10Zc => k_is); intro qqZn hqZn FqZn NqZn l1Zn; (try k_lt l1Zn)))))
  k_with "callWith ref" => ((k_here; (with_reducible show wpAny _ _ (callWith _ (Value.ref _) [] (backTo _ (starEach [] _)) []) _ _ _); k_dflt (first | (refine' Mine.callLen ?k1Zc ?k2Zc ?k3Zc ?_; (case k1Zc => k_asm); (case k2Zc => k_mem); (case k3Zc => k_mem); k_whole) | (refine' Mine.callInit ?k0Zc ?k1Zc ?k2Zc ?k3Zc ?k4Zc ?_; (case k0Zc => k_asm); (case k1Zc => k_asm); (case k2Zc => k_mem); (case k3Zc => k_upd); (case k4Zc => first | size_fits | (rw [sizeLine_eq]; omega) | (rw [sizeLine_eq]; exact Nat.le_of_ble_eq_true rfl)); k_whole; intro hqZn FqZn NqZn; (try k_sweep)) | (refine' Mine.callPop ?k0Zc ?kXZc ?k1Zc ?k2Zc ?k3Zc ?k4Zc ?k5Zc ?k6Zc ?k7Zc ?k8Zc ?k9Zc ?k10Zc ?_; (case k0Zc => k_asm); (case kXZc => k_asm); (case k1Zc => k_asm); (case k2Zc => k_mem); (case k8Zc => first | assumption | rfl); (case k9Zc => k_upd); (case k3Zc => k_mem); (case k4Zc => k_is); (case k5Zc => k_is); (case k6Zc => rfl); (case k7Zc => k_is); (case k10Zc => rw [sizeLine_eq]; simp at *; omega); k_whole; intro hqZn FqZn NqZn; (try k_sweep)))))
  k_with "wpAt" => ((dsimp only; ks_step "execs cons"; refine ks_wpAt_execs_cons ?_))
  k_with "wpAt" => ((ks_step "eval Call"; k_dflt (refine ks_wpAt_MethodCall ?_)))
  k_with "mine os" => (first | rfl | assumption | (simp only [*]; done))
  k_with "wpAt" => ((ks_step "exec Expr"; k_dflt (refine ks_wpAt_Expr_any ?_)))
  k_with "mine upto" => (repeat' ((fail_if_success (with_reducible show wpAny _ _ (exec (Stmt.For _ _ _ _ _) _) _ _ _)); first | (k_unfold; (try dsimp only)) | (k_end; wrow_close) | walk1 | (dsimp only; walk1) | (leave1; try dsimp only)))
  k_with "mine center" => ((refine' code_defC ?k1Zc ?k2Zc ?k3Zc ?k4Zc ?k5Zc ?kAZc ?kFZc ?kKZc ?k6Zc ?k7Zc ?k8Zc ?k9Zc ?kBZc ?kDZc ?_ ?c2Zc ?c3Zc ?c4Zc; (case kAZc => exact rfl); (case kFZc => exact rfl); (case kKZc => assumption); (case k1Zc => k_asm); (case k2Zc => k_asm); (case k3Zc => k_asm); (case k4Zc => k_asm); (case k5Zc => k_asm); (case k6Zc => k_is); (case k7Zc => k_is); (case k8Zc => ktr_room); (case k9Zc => first | exact BindsTo.of_eq rfl | exact binds_K (by k_in) rfl (by k_is) rfl rfl rfl); (case kBZc => exact rfl); (case kDZc => decide +kernel); (case c2Zc => exact rfl); (case c3Zc => exact rfl); (case c4Zc => exact rfl); k_whole; intro gqZn LqZn hqZn tkqZn cellsqZn FGqZn FqZn NqZn YqZn BqZn XqZn TqZn l1Zn; (try k_lt l1Zn); k_cells YqZn; (try simp only [List.cons_append, List.nil_append] at NqZn); (try dsimp only); (try k_lift BqZn); (try k_fold)))
  k_with "mine bare" => (first | assumption | (simp only [*]; done))
  k_with "eval Dict" => ((k_here; (with_reducible show wpAny _ _ (eval (Expr.Dict [some (Expr.Name _ _)] _ _) _) _ _ _); k_dflt (refine' kdn_eval (knd := PySem.intKind _ _) ?FZc ?NZc ?bZc ?aZc ?lZc ?eZc ?nZc ?_; (case FZc => k_asm); (case NZc => k_asm); (case bZc => exact Top.nolimit (by k_asm)); (case aZc => rfl); (case lZc => rfl); (case eZc => exact List.cons_ne_nil _ _); (case nZc => exact Nat.le_of_ble_eq_true rfl)); intro dqZn hqZn oqZn FqZn NqZn l1Zn loqZn hdqZn; (try k_lt l1Zn)))
  trivial
theorem Mine.rstCV : True := by w_top off; trivial
namespace Mine
theorem con_v {b1 b2 b3 : UInt64} {t1 t2 t3 : Tok} {p : Program} {loose : List Str} {mean : ExcName → Option Value} {mg mb : Str → Option Value} {w : World} {dp un : Nat} {gd : Option (List Code)} {cn : Str} {cs : Scope} {ca : Addr} {ccd : Value} {cl : List (Str × Addr)} {outer : List Env} {A₀ : Around} {base h₀ : Heap} {L : Addr} {m : Str → Option Value} {s : Shared} {Q E : Value → Shared → Prop} {rest : List (Addr × Obj)}
  (B : Below A₀ base outer h₀) (F : Fr h₀ L s.heap m) (X : (hd.heap_1 w.params).In h₀) (N : News h₀ L s.heap (rest)) (T : Top p loose mean mg mb h₀) (hk : cs.kind = .function) (hd' : dp + 6 < recursionLimit) (hu : un + 8 * 10 < cLine)
  (ret : ∀ h' tk t, Fr h₀ L h' m → News h₀ L h' rest → Q (.float (vF b1 b2 b3) t) { s with heap := h', toks := tk }) :
  wpAny (model Challenge.rw_wo0053_01.row.prog w) (ktrTop dp un gd cn cs L ca ccd cl outer) (call (.ref 196) [.float b1 t1, .float b2 t2, .float b3 t3]) Q E s := by
  revert X; k_fill; intro X
  unfold vF at ret
  refine wpAny_call ?_
  k_dflt (walk_at "mine enter")
  k_steps
  all_goals (simp only [*, if_true, Bool.false_eq_true, if_false] at ret; exact ret _ _ _ (by k_asm) (by walk_at "mine news"))
end Mine

theorem Mine.rstK1 : True := by w_top off; trivial
namespace Mine
open PySem.W PyProof.V
def kvOf (ds : List (Int × Int × Tok)) : List (Int × Value) := ds.map fun d => (d.1, .int d.2.1 d.2.2)
def vsum (ds : List (Int × Int × Tok)) : Int := (ds.map fun d => d.2.1).sum
theorem vsum_succ (ds : List (Int × Int × Tok)) (i : Nat) (d : Int × Int × Tok) (h : ds[i]? = some d) : vsum (ds.take (i + 1)) = vsum (ds.take i) + d.2.1 := by
  unfold vsum
  rw [List.take_add_one, h]
  simp
theorem canon0 {a b : Str} {v : Option Value} {m : Str → Option Value} (h : a ≠ b) : (fun y => if y = b then v else m y) = fun y => if y = a then m a else if y = b then v else m y := by
  funext y
  by_cases e1 : y = a
  · rw [if_pos e1, e1, if_neg h]
  · rw [if_neg e1]
theorem canonS {a b : Str} {u v1 v2 x : Option Value} {m : Str → Option Value} (h : a ≠ b) : (fun y => if y = b then v2 else if y = a then v1 else if y = a then u else if y = b then x else m y) = fun y => if y = a then v1 else if y = b then v2 else m y := by
  funext y
  by_cases e1 : y = a
  · subst e1; rw [if_neg h, if_pos rfl, if_pos rfl]
  · rw [if_neg e1, if_neg e1, if_neg e1]
    by_cases e2 : y = b
    · rw [if_pos e2, if_pos e2]
    · rw [if_neg e2, if_neg e2, if_neg e2]
def calJ (base : List (Addr × Obj)) (ds : List (Int × Int × Tok)) (m0 : Str → Option Value) (i : Nat) (mm : Str → Option Value) (nw : List (Addr × Obj)) : Prop :=
  nw = base ∧ ∃ u t, mm = fun y => if y = Str.ofString "calls" then u else if y = Str.ofString "nc" then some (.int (vsum (ds.take i)) t) else m0 y
theorem con_calls {dl : Addr} {o : Obj} {ds : List (Int × Int × Tok)} {p : Program} {loose : List Str} {mean : ExcName → Option Value} {mg mb : Str → Option Value} {w : World} {dp un : Nat} {gd : Option (List Code)} {cn : Str} {cs : Scope} {ca : Addr} {ccd : Value} {cl : List (Str × Addr)} {outer : List Env} {A₀ : Around} {base h₀ : Heap} {L : Addr} {m : Str → Option Value} {s : Shared} {Q E : Value → Shared → Prop} {rest : List (Addr × Obj)}
  (B : Below A₀ base outer h₀) (F : Fr h₀ L s.heap m) (X : (hd.heap_1 w.params).In h₀) (N : News h₀ L s.heap ((dl, o) :: rest)) (T : Top p loose mean mg mb h₀) (hk : cs.kind = .function) (hd' : dp + 6 < recursionLimit) (hu : un + 8 * 10 < cLine)
  (ho : o.IsDictOf (intKind Challenge.rw_wo0053_01.row.prog w) (kvOf ds)) (lo : (dl == sysModules) = false) (hb : ∀ d ∈ ds, 0 ≤ d.2.1 ∧ d.2.1 ≤ 100) (hl : ds.length ≤ 100)
  (ret : ∀ s' t, Fr h₀ L s'.heap m → News h₀ L s'.heap ((dl, o) :: rest) → s'.gens = s.gens → s'.os = s.os → Q (.int (vsum ds) t) s') :
  wpAny (model Challenge.rw_wo0053_01.row.prog w) (ktrTop dp un gd cn cs L ca ccd cl outer) (call (.ref 224) [.ref dl]) Q E s := by
  revert X; k_fill; intro X
  refine wpAny_call ?_
  k_dflt (walk_at "mine enter")
  iterate 6 (first | walk1 | (dsimp only; walk1))
  (rename Fr _ _ _ _ => lF'); (rename News _ _ _ _ => lN')
  with_unfolding_all ((refine' For_turns lF' ?_); k_whole; (refine MethodCall_ ?_); (refine ld lF' (by rfl) ?_); (refine kdl_method (knd := intKind Challenge.rw_wo0053_01.row.prog w) PySem.F.slot_dict_values PySem.F.type_dict_values lN' (by k_mem) (by k_asm) ?_); (refine callWith_method0 ?_); (refine kta_callValues (knd := intKind Challenge.rw_wo0053_01.row.prog w) lF' lN' (by k_mem) (by k_asm) (by k_asm) ?_); intro h5 hv5 F5 N5; (refine kta_vals (knd := intKind Challenge.rw_wo0053_01.row.prog w) (xs := (kvOf ds).map fun p => Itm.val p.2) (by rfl) F5 N5 hv5 (by k_mem) (by k_asm) (by rfl) ?_))
  intro I lI
  have hab : Str.ofString "calls" ≠ Str.ofString "nc" := by decide +kernel
  rw [canon0 hab]
  refine itemsRest_ind (calJ ((dl, o) :: rest) ds _) _ ?_ ?_ _ 0 _ _ rfl (by simp) ⟨rfl, _, _, rfl⟩
  · rintro i a mm nw ha ⟨rfl, u, t, rfl⟩ v h6 tk6 hv F6
    have hdi : ∃ d, ds[i]? = some d ∧ a = .val (.int d.2.1 d.2.2) := by
      rw [List.getElem?_map, Option.map_eq_some_iff] at ha
      obtain ⟨q, hq, rfl⟩ := ha
      rw [kvOf, List.getElem?_map, Option.map_eq_some_iff] at hq
      obtain ⟨d, hd, rfl⟩ := hq
      exact ⟨d, hd, rfl⟩
    obtain ⟨d, hd, rfl⟩ := hdi
    have hv' : v = .int d.2.1 d.2.2 := hv
    subst hv'
    intro oI hoI N6
    have hbd := hb d (List.mem_of_getElem? hd)
    k_steps
    rename Fr _ _ _ _ => kF9
    rename News _ _ _ _ => kN9
    rw [canonS hab] at kF9
    refine ⟨_, _, _, _, rfl, kF9, kN9, fun p hp q hq => ?_, ⟨.head _, trivial⟩, rfl, _, _, by rw [vsum_succ ds i d hd]⟩
    rw [List.mem_singleton.mp hq]
    exact Nat.ne_of_lt (lI p hp)
  · rintro mm nw ⟨rfl, u, t, rfl⟩ h6 tk6 F6 N6
    have hlen : ((kvOf ds).map fun p => Itm.val p.2).length = ds.length := by simp [kvOf]
    rw [hlen, List.take_length] at F6
    k_steps
    exact ret _ _ (by k_asm) (by k_asm) rfl rfl
end Mine

theorem Mine.rstK2 : True := by w_top off; trivial
namespace Mine
open PySem.W PyProof.V
abbrev ik (w : World) := intKind Challenge.rw_wo0053_01.row.prog w
def calI (base : List (Addr × Obj)) (dn : Addr) (w : World) (ds : List (Int × Int × Tok)) (m0 : Str → Option Value) (i : Nat) (mm : Str → Option Value) (nw : List (Addr × Obj)) : Prop :=
  ∃ o', nw = (dn, o') :: base ∧ o'.IsDictOf (ik w) (kvOf (ds.take i)) ∧ ∃ u1 u2, mm = fun y => if y = Str.ofString "caller" then u1 else if y = Str.ofString "func" then u2 else m0 y
theorem kv_keys (ds : List (Int × Int × Tok)) : (kvOf ds).map (·.1) = ds.map (·.1) := by unfold kvOf; rw [List.map_map]; rfl
theorem kv_take {w : World} {o : Obj} {ds : List (Int × Int × Tok)} (ho : o.IsDictOf (ik w) (kvOf ds)) {i : Nat} {d : Int × Int × Tok} (hd : ds[i]? = some d) : stored (kvOf (ds.take i)) d.1 (.int d.2.1 d.2.2) = kvOf (ds.take (i + 1)) := by
  obtain ⟨_, _, _, _, _, _, hn⟩ := ho
  rw [kv_keys] at hn
  have hnot : (kvOf (ds.take i)).any (fun kv => decide (kv.1 = d.1)) = false := by
    rw [List.any_eq_false]
    intro kv hkv
    simp only [decide_eq_true_eq]
    intro e
    have h1 : d.1 ∈ (ds.take i).map (·.1) := by rw [← kv_keys]; exact List.mem_map.mpr ⟨kv, hkv, e⟩
    have h2 : ds = ds.take i ++ d :: ds.drop (i + 1) := by
      obtain ⟨hi, e⟩ := List.getElem?_eq_some_iff.mp hd
      have := List.take_append_drop i ds
      rw [List.drop_eq_getElem_cons hi, e] at this
      exact this.symm
    rw [h2, List.map_append, List.map_cons] at hn
    exact (List.nodup_append.mp hn).2.2 _ h1 _ (.head _) rfl
  unfold stored
  rw [hnot, if_neg (by decide)]
  unfold kvOf
  rw [List.take_add_one, hd]
  simp
theorem kv_small {ds : List (Int × Int × Tok)} (hl : ds.length ≤ 100) (i : Nat) : (kvOf (ds.take i)).length ≤ sizeLine := by
  rw [sizeLine_eq]
  unfold kvOf
  rw [List.length_map]
  have : (ds.take i).length ≤ ds.length := by rw [List.length_take]; omega
  omega
theorem val_some {ds : List (Int × Int × Tok)} {c : Int} (h : (valueAt (kvOf ds) c).isSome = true) : ∃ d ∈ ds, d.1 = c ∧ valueAt (kvOf ds) c = some (.int d.2.1 d.2.2) := by
  obtain ⟨v, hv⟩ := Option.isSome_iff_exists.mp h
  have hv' := hv
  unfold valueAt at hv'
  obtain ⟨kv, hk, rfl⟩ := Option.map_eq_some_iff.mp hv'
  have h1 := List.find?_some hk
  have h2 := List.mem_of_find?_eq_some hk
  unfold kvOf at h2
  obtain ⟨d, hd, rfl⟩ := List.mem_map.mp h2
  exact ⟨d, hd, by simpa using h1, hv⟩
def pl (ds : List (Int × Int × Tok)) : List (Int × Int) := ds.map fun d => (d.1, d.2.1)
def bump (D : List (Int × Int)) (c : Int) : List (Int × Int) := if D.any (fun p => decide (p.1 = c)) = true then D.map (fun p => if p.1 = c then (p.1, p.2 + 1) else p) else D ++ [(c, 1)]
theorem any_iff (ds : List (Int × Int × Tok)) (c : Int) : (kvOf ds).any (fun kv => decide (kv.1 = c)) = (valueAt (kvOf ds) c).isSome := by
  unfold valueAt
  rw [Option.isSome_map, Bool.eq_iff_iff, List.any_eq_true, List.find?_isSome]
theorem any_pl (ds : List (Int × Int × Tok)) (c : Int) : (pl ds).any (fun p => decide (p.1 = c)) = (kvOf ds).any (fun kv => decide (kv.1 = c)) := by
  unfold pl kvOf
  rw [List.any_map, List.any_map]; rfl
theorem bump_no {ds : List (Int × Int × Tok)} {c : Int} {tc : Tok} (h : (valueAt (kvOf ds) c).isSome = false) : stored (kvOf ds) c (.int 1 tc) = kvOf (ds ++ [(c, 1, tc)]) ∧ pl (ds ++ [(c, 1, tc)]) = bump (pl ds) c := by
  constructor
  · unfold stored
    rw [any_iff, h, if_neg (by decide)]
    simp [kvOf]
  · unfold bump
    rw [any_pl, any_iff, h, if_neg (by decide)]
    simp [pl]
theorem bump_yes {w : World} {o : Obj} {ds : List (Int × Int × Tok)} (ho : o.IsDictOf (ik w) (kvOf ds)) {c : Int} {t : Tok} {d : Int × Int × Tok} (h : (valueAt (kvOf ds) c).isSome = true) (hd : d ∈ ds) (hc : d.1 = c) :
    stored (kvOf ds) c (.int (d.2.1 + 1) t) = kvOf (ds.map fun e => if e.1 = c then (e.1, d.2.1 + 1, t) else e) ∧ pl (ds.map fun e => if e.1 = c then (e.1, d.2.1 + 1, t) else e) = bump (pl ds) c := by
  obtain ⟨_, _, _, _, _, _, hn⟩ := ho
  rw [kv_keys] at hn
  constructor
  · unfold stored
    rw [any_iff, h, if_pos rfl]
    unfold kvOf
    rw [List.map_map, List.map_map]
    refine List.map_congr_left fun e _ => ?_
    dsimp only [Function.comp]
    split <;> rfl
  · unfold bump
    rw [any_pl, any_iff, h, if_pos rfl]
    unfold pl
    rw [List.map_map, List.map_map]
    refine List.map_congr_left fun e he => ?_
    dsimp only [Function.comp]
    split
    · rename_i hec
      have hinj : ∀ (l : List (Int × Int × Tok)), (l.map (·.1)).Nodup → ∀ a ∈ l, ∀ b ∈ l, a.1 = b.1 → a = b := by
        intro l
        induction l with
        | nil => intro _ a ha; cases ha
        | cons x r ih =>
          intro hl a ha b hb e
          rw [List.map_cons, List.nodup_cons] at hl
          rcases List.mem_cons.mp ha with e1 | ha'
          · rcases List.mem_cons.mp hb with e2 | hb'
            · rw [e1, e2]
            · rw [e1] at e
              exact absurd (e ▸ List.mem_map_of_mem hb') hl.1
          · rcases List.mem_cons.mp hb with e2 | hb'
            · rw [e2] at e
              exact absurd (e ▸ List.mem_map_of_mem ha') hl.1
            · exact ih hl.2 a ha' b hb' e
      have : e = d := hinj ds hn e he d hd (by rw [hec, hc])
      rw [this]
    · rfl
theorem canonA {a b : Str} {v : Option Value} {m : Str → Option Value} : m = fun y => if y = a then m a else if y = b then m b else m y := by
  funext y
  by_cases e1 : y = a
  · rw [if_pos e1, e1]
  · rw [if_neg e1]
    by_cases e2 : y = b
    · rw [if_pos e2, e2]
    · rw [if_neg e2]
theorem canonT {a b : Str} {u1 u2 v1 v2 : Option Value} {m : Str → Option Value} : (fun y => if y = a then v1 else if y = b then v2 else if y = a then u1 else if y = b then u2 else m y) = fun y => if y = a then v1 else if y = b then v2 else m y := by
  funext y
  by_cases e1 : y = a
  · rw [if_pos e1, if_pos e1]
  · rw [if_neg e1, if_neg e1, if_neg e1]
    by_cases e2 : y = b
    · rw [if_pos e2, if_pos e2]
    · rw [if_neg e2, if_neg e2, if_neg e2]
theorem con_callers {dl el : Addr} {o oe : Obj} {ds : List (Int × Int × Tok)} {c : Int} {tc : Tok} {p : Program} {loose : List Str} {mean : ExcName → Option Value} {mg mb : Str → Option Value} {w : World} {dp un : Nat} {gd : Option (List Code)} {cn : Str} {cs : Scope} {ca : Addr} {ccd : Value} {cl : List (Str × Addr)} {outer : List Env} {A₀ : Around} {base h₀ : Heap} {L : Addr} {m : Str → Option Value} {s : Shared} {Q E : Value → Shared → Prop} {rest : List (Addr × Obj)}
  (B : Below A₀ base outer h₀) (F : Fr h₀ L s.heap m) (X : (hd.heap_1 w.params).In h₀) (N : News h₀ L s.heap ((dl, o) :: (el, oe) :: rest)) (T : Top p loose mean mg mb h₀) (hk : cs.kind = .function) (hd' : dp + 6 < recursionLimit) (hu : un + 8 * 10 < cLine)
  (ho : o.IsDictOf (ik w) (kvOf ds)) (hoe : oe.IsDictOf (ik w) (kvOf [(c, 1, tc)])) (lo : (dl == sysModules) = false) (le : (el == sysModules) = false) (hb : ∀ d ∈ ds, 0 ≤ d.2.1 ∧ d.2.1 ≤ 100) (hl : ds.length ≤ 100)
  (ret : ∀ s' dn o' ds', Fr h₀ L s'.heap m → News h₀ L s'.heap ((dn, o') :: (dl, o) :: (el, oe) :: rest) → o'.IsDictOf (ik w) (kvOf ds') → pl ds' = bump (pl ds) c → (dn == sysModules) = false → s'.gens = s.gens → s'.os = s.os → (∀ p ∈ rest, @LT.lt Nat _ p.1 dn) → @LT.lt Nat _ dl dn → @LT.lt Nat _ el dn → Q (.ref dn) s') :
  wpAny (model Challenge.rw_wo0053_01.row.prog w) (ktrTop dp un gd cn cs L ca ccd cl outer) (call (.ref 217) [.ref dl, .ref el]) Q E s := by
  revert X; k_fill; intro X
  refine wpAny_call ?_
  k_dflt (walk_at "mine enter")
  k_steps
  (rename Fr _ _ _ _ => lF'); (rename News _ _ _ _ => lN')
  with_unfolding_all ((refine' For_turns lF' ?_); k_whole; (refine MethodCall_ ?_); (refine ld lF' (by rfl) ?_); (refine kdl_method (knd := intKind Challenge.rw_wo0053_01.row.prog w) PySem.F.slot_dict_items PySem.F.type_dict_items lN' (by k_mem) ho ?_); (refine callWith_method0 ?_); (refine kta_callItems (knd := intKind Challenge.rw_wo0053_01.row.prog w) lF' lN' (by k_mem) ho (by k_asm) ?_); intro h5 hv5 F5 N5; (refine kta_items (knd := intKind Challenge.rw_wo0053_01.row.prog w) (enc := PyData.int) (xs := (kvOf ds).map fun p => Itm.pair (kyVal (PyData.int p.1)) p.2) (by rfl) F5 N5 hv5 (by k_mem) ho ?hkey (by rfl) ?_))
  case hkey => exact fun _ _ h => Value.isInt_shape h
  intro I lI
  have lI' := lI
  k_lt lI'
  refine itemsRest_ind (calI ((dl, o) :: (el, oe) :: rest) _ w ds _) _ ?_ ?_ _ 0 _ _ rfl (by simp) ⟨_, rfl, by assumption, _, _, canonA (v := none)⟩
  · rintro i a mm nw ha ⟨o', rfl, hoi, u1, u2, rfl⟩ v h6 tk6 hv F6
    have hdi : ∃ d, ds[i]? = some d ∧ a = .pair (kyVal (PyData.int d.1)) (.int d.2.1 d.2.2) := by
      rw [List.getElem?_map, Option.map_eq_some_iff] at ha
      obtain ⟨q, hq, rfl⟩ := ha
      rw [kvOf, List.getElem?_map, Option.map_eq_some_iff] at hq
      obtain ⟨d, hd, rfl⟩ := hq
      exact ⟨d, hd, rfl⟩
    obtain ⟨d, hd, rfl⟩ := hdi
    obtain ⟨T5, t5, rfl, hT5⟩ := hv
    dsimp only [kyVal] at hT5
    intro oI hoI N6
    simp only [List.cons_append, List.nil_append] at N6
    k_steps
    k_here
    k_dflt (refine' kda_set (knd := PySem.intKind _ _) ?F ?N ?U hoi (intKind_is _ _ _ _) ?z ?_; (case F => k_asm); (case N => k_asm); (case U => k_updF); (case z => exact kv_small hl i))
    intro h7 o7 F7 N7 hd7
    rw [kv_take ho hd] at hd7
    rw [canonT] at F7
    k_steps
    refine ⟨h7, _, _, _, rfl, F7, N7, fun p hp q hq => ?_, ⟨.tail _ (.head _), trivial⟩, o7, rfl, hd7, _, _, rfl⟩
    rw [List.mem_singleton.mp hq]
    rcases List.mem_cons.mp hp with rfl | hp
    · have := lI _ (.head _); exact Nat.ne_of_lt this
    · exact Nat.ne_of_lt (lI p (.tail _ hp))
  · rintro mm nw ⟨o', rfl, hoi, u1, u2, rfl⟩ h6 tk6 F6 N6
    have hlen : ((kvOf ds).map fun p => Itm.pair (kyVal (PyData.int p.1)) p.2).length = ds.length := by simp [kvOf]
    rw [hlen, List.take_length] at hoi
    have hlen2 : (kvOf ds).length ≤ sizeLine := by have := kv_small hl ds.length; rwa [List.take_length] at this
    k_steps
    (rename Fr _ _ _ _ => lF'); (rename News _ _ _ _ => lN')
    with_unfolding_all ((refine' For_turns lF' ?_); k_whole; (refine MethodCall_ ?_); (refine ld lF' (by rfl) ?_); (refine kdl_method (knd := intKind Challenge.rw_wo0053_01.row.prog w) PySem.F.slot_dict_items PySem.F.type_dict_items lN' (by k_mem) hoe ?_); (refine callWith_method0 ?_); (refine kta_callItems (knd := intKind Challenge.rw_wo0053_01.row.prog w) lF' lN' (by k_mem) hoe (by k_asm) ?_); intro h5 hv5 F5 N5; (refine kta_items (knd := intKind Challenge.rw_wo0053_01.row.prog w) (enc := PyData.int) (xs := [Itm.pair (kyVal (PyData.int c)) (.int 1 tc)]) (by rfl) F5 N5 hv5 (by k_mem) hoe (fun _ _ h => Value.isInt_shape h) (by rfl) ?_))
    intro I2 lI2
    have lI2' := lI2
    k_lt lI2'
    refine ItemsRest.pair (fun T8 t8 h8 tk8 hT8 F8 => ?_)
    intro oI2 hoI2 N8
    simp only [List.cons_append, List.nil_append] at N8
    dsimp only [kyVal] at hT8
    k_steps
    k_here
    cases hva : (valueAt (kvOf ds) c).isSome with
    | false =>
      k_dflt (refine kda_in (knd := PySem.intKind _ _) (by k_asm) (by k_mem) hoi (by k_asm) (intKind_is _ _ _ _) false hva ?_)
      k_steps
      k_here
      k_dflt (refine' kda_set (knd := PySem.intKind _ _) ?F ?N ?U hoi (intKind_is _ _ _ _) hlen2 ?_; (case F => k_asm); (case N => k_asm); (case U => k_updF))
      intro h7 o7 F7 N7 hd7
      k_steps
      have EE := bump_no (ds := ds) (tc := tc) hva
      refine ⟨h7, _, _, _, rfl, F7, N7, ?_, ⟨.tail _ (.tail _ (.head _)), trivial⟩, ?_⟩
      · intro p hp q hq
        rw [List.mem_singleton.mp hq]
        rcases List.mem_cons.mp hp with rfl | hp
        · have := lI2 _ (.head _); exact Nat.ne_of_lt this
        · exact Nat.ne_of_lt (lI2 p (.tail _ hp))
      refine ItemsRest.zero (fun h9 tk9 F9 N9 => ?_)
      k_steps
      rename News h₀ _ _ _ => kN9
      rw [EE.1] at hd7
      exact ret _ _ _ _ (by k_asm) kN9 hd7 EE.2 (by k_asm) rfl rfl (lt_all (by simp only [*])) (by omega) (by omega)
    | true =>
      obtain ⟨d, hd, hdc, hvs⟩ := val_some hva
      have hbd := hb d hd
      k_dflt (refine kda_in (knd := PySem.intKind _ _) (by k_asm) (by k_mem) hoi (by k_asm) (intKind_is _ _ _ _) true hva ?_)
      k_steps
      k_here
      rename News _ _ _ _ => kN8
      refine wpAny_getItem_of (knd := PySem.intKind _ _) (intKind_is _ _ _ _) (kda_dict kN8 (.tail _ (.head _)) hoi).mapOf hvs ?_
      k_steps
      k_here
      k_dflt (refine' kda_set (knd := PySem.intKind _ _) ?F ?N ?U hoi (intKind_is _ _ _ _) hlen2 ?_; (case F => k_asm); (case N => k_asm); (case U => k_updF))
      intro h7 o7 F7 N7 hd7
      k_steps
      have EE := fun t => bump_yes (t := t) ho hva hd hdc
      refine ⟨h7, _, _, _, rfl, F7, N7, ?_, ⟨.tail _ (.tail _ (.head _)), trivial⟩, ?_⟩
      · intro p hp q hq
        rw [List.mem_singleton.mp hq]
        rcases List.mem_cons.mp hp with rfl | hp
        · have := lI2 _ (.head _); exact Nat.ne_of_lt this
        · exact Nat.ne_of_lt (lI2 p (.tail _ hp))
      refine ItemsRest.zero (fun h9 tk9 F9 N9 => ?_)
      k_steps
      rename News h₀ _ _ _ => kN9
      rw [(EE _).1] at hd7
      exact ret _ _ _ _ (by k_asm) kN9 hd7 (EE _).2 (by k_asm) rfl rfl (lt_all (by simp only [*])) (by omega) (by omega)
end Mine

theorem Mine.rstK3 : True := by w_top off; trivial
namespace Mine
open PySem.W PyProof.V
abbrev statO (a b c d : Int) (t1 t2 t3 t4 : Tok) (dl : Addr) : Obj := { cls := .type "tuple", data := .seq #[.int a t1, .int b t2, .int c t3, .int d t4, .ref dl] }
theorem rot4 {h₀ h : Heap} {L : Addr} {a b c d : Addr × Obj} {l : List (Addr × Obj)} (N : News h₀ L h (a :: b :: c :: d :: l)) : News h₀ L h (c :: d :: a :: b :: l) := fun p hp => N p (by
  revert p
  repeat' (first | exact List.forall_mem_nil _ | refine List.forall_mem_cons.mpr ⟨?_, ?_⟩ | exact .head _ | (intro p hp; first | exact hp | (repeat (first | exact hp | apply List.Mem.tail))) | apply List.Mem.tail))
theorem con_stats {ta sa dl el : Addr} {o oe : Obj} {ds : List (Int × Int × Tok)} {a1 a2 a3 a4 b1 b2 b3 b4 c : Int} {t1 t2 t3 t4 u1 u2 u3 u4 tc : Tok} {p : Program} {loose : List Str} {mean : ExcName → Option Value} {mg mb : Str → Option Value} {w : World} {dp un : Nat} {gd : Option (List Code)} {cn : Str} {cs : Scope} {ca : Addr} {ccd : Value} {cl : List (Str × Addr)} {outer : List Env} {A₀ : Around} {base h₀ : Heap} {L : Addr} {m : Str → Option Value} {s : Shared} {Q E : Value → Shared → Prop} {rest : List (Addr × Obj)}
  (B : Below A₀ base outer h₀) (F : Fr h₀ L s.heap m) (X : (hd.heap_1 w.params).In h₀) (N : News h₀ L s.heap ((ta, statO a1 a2 a3 a4 t1 t2 t3 t4 dl) :: (sa, statO b1 b2 b3 b4 u1 u2 u3 u4 el) :: (dl, o) :: (el, oe) :: rest)) (T : Top p loose mean mg mb h₀) (hk : cs.kind = .function) (hd' : dp + 8 < recursionLimit) (hu : un + 8 * 12 < cLine)
  (ho : o.IsDictOf (ik w) (kvOf ds)) (hoe : oe.IsDictOf (ik w) (kvOf [(c, 1, tc)])) (lo : (dl == sysModules) = false) (le : (el == sysModules) = false) (hb : ∀ d ∈ ds, 0 ≤ d.2.1 ∧ d.2.1 ≤ 100) (hl : ds.length ≤ 100)
  (ha : (0 ≤ a1 ∧ a1 ≤ 1000000) ∧ (0 ≤ a2 ∧ a2 ≤ 1000000) ∧ (0 ≤ a3 ∧ a3 ≤ 1000000) ∧ (0 ≤ a4 ∧ a4 ≤ 1000000)) (hb' : (0 ≤ b1 ∧ b1 ≤ 10000) ∧ (0 ≤ b2 ∧ b2 ≤ 10000) ∧ (0 ≤ b3 ∧ b3 ≤ 10000) ∧ (0 ≤ b4 ∧ b4 ≤ 10000))
  (ret : ∀ s' t dn o' ds' t1 t2 t3 t4, Fr h₀ L s'.heap m → News h₀ L s'.heap ((t, statO (b1 + a1) (b2 + a2) (b3 + a3) (b4 + a4) t1 t2 t3 t4 dn) :: (dn, o') :: rest) → o'.IsDictOf (ik w) (kvOf ds') → pl ds' = bump (pl ds) c → (dn == sysModules) = false → s'.gens = s.gens → s'.os = s.os → (∀ p ∈ rest, @LT.lt Nat _ p.1 dn) → @LT.lt Nat _ dn t → Q (.ref t) s') :
  wpAny (model Challenge.rw_wo0053_01.row.prog w) (ktrTop dp un gd cn cs L ca ccd cl outer) (call (.ref 210) [.ref ta, .ref sa]) Q E s := by
  revert X; k_fill; intro X
  refine wpAny_call ?_
  k_dflt (walk_at "mine enter")
  k_steps
  k_here
  rename News _ _ _ _ => kN8
  k_dflt (refine' Mine.con_callers (ds := ds) (c := c) (tc := tc) ?k1 ?k2 ?k3 (rot4 kN8) ?k5 ?k6 ?k7 ?k8 ho hoe lo le hb hl ?_; (case k1 => k_asm); (case k2 => k_asm); (case k3 => k_asm); (case k5 => k_asm); (case k6 => first | exact rfl | assumption); (case k7 => ktr_room); (case k8 => ktr_units); k_whole)
  intro s1 dn o1 ds1 F1 N1 ho1 hp1 lo1 g1 os1 lt1 l2 l3
  have lt0 := lt1
  k_lt lt1
  k_steps
  rename News h₀ _ _ _ => kN9
  exact ret _ _ _ _ _ _ _ _ _ (by k_asm) (fun p hp => kN9 p (by
    rcases List.mem_cons.mp hp with e | hp
    · rw [e]; exact .head _
    rcases List.mem_cons.mp hp with e | hp
    · rw [e]; exact .tail _ (.head _)
    exact .tail _ (.tail _ (.tail _ (.tail _ (.tail _ (.tail _ hp))))))) ho1 hp1 lo1 (by walk_at "mine os") (by walk_at "mine os") (fun p hp => lt0 p (.tail _ (.tail _ hp))) (by omega)
end Mine

theorem Mine.rstK4 : True := by w_top off; trivial
namespace Mine
open PySem.W PyProof.V
def bumps (l : List Int) : List (Int × Int) := l.foldl bump []
theorem bumps_snoc (l : List Int) (c : Int) : bumps (l ++ [c]) = bump (bumps l) c := by unfold bumps; rw [List.foldl_append]; rfl
theorem bumps_bound (l : List Int) : (bumps l).length ≤ l.length ∧ ∀ p ∈ bumps l, 0 ≤ p.2 ∧ p.2 ≤ l.length := by
  have key : ∀ (k : Nat) (l : List Int), l.length = k → (bumps l).length ≤ l.length ∧ ∀ p ∈ bumps l, 0 ≤ p.2 ∧ p.2 ≤ l.length := by
    intro k
    induction k with
    | zero => intro l h; rw [List.length_eq_zero_iff.mp h]; exact ⟨Nat.le_refl _, fun p hp => by cases hp⟩
    | succ k ih =>
      intro l h
      rcases List.eq_nil_or_concat l with rfl | ⟨i, a, rfl⟩
      · cases h
      · rw [List.concat_eq_append] at *
        obtain ⟨h1, h2⟩ := ih i (by simpa using h)
        rw [bumps_snoc]
        simp only [List.length_append, List.length_cons, List.length_nil] at h ⊢
        unfold bump
        split
        · refine ⟨by rw [List.length_map]; omega, fun p hp => ?_⟩
          obtain ⟨q, hq, rfl⟩ := List.mem_map.mp hp
          have := h2 q hq
          split <;> ((try dsimp only); omega)
        · refine ⟨by rw [List.length_append]; simp only [List.length_cons, List.length_nil]; omega, fun p hp => ?_⟩
          rcases List.mem_append.mp hp with hq | hq
          · have := h2 p hq; omega
          · rw [List.mem_singleton.mp hq]; dsimp only; omega
  exact key _ l rfl
theorem pl_bound {ds : List (Int × Int × Tok)} {l : List Int} (h : pl ds = bumps l) (hl : l.length ≤ 50) : ds.length ≤ 100 ∧ ∀ d ∈ ds, 0 ≤ d.2.1 ∧ d.2.1 ≤ 100 := by
  obtain ⟨h1, h2⟩ := bumps_bound l
  rw [← h] at h1 h2
  refine ⟨by simp only [pl, List.length_map] at h1; omega, fun d hd => ?_⟩
  have := h2 (d.1, d.2.1) (List.mem_map_of_mem hd)
  dsimp only at this
  omega
theorem sum_le (l : List Int) (B : Int) (hB : 0 ≤ B) (h : ∀ x ∈ l, 0 ≤ x ∧ x ≤ B) : 0 ≤ l.sum ∧ l.sum ≤ B * l.length := by
  induction l with
  | nil => simp
  | cons a r ih =>
    have := ih fun x hx => h x (.tail _ hx)
    have ha := h a (.head _)
    rw [List.sum_cons, List.length_cons, Int.natCast_succ, Int.mul_add]
    omega
theorem take_snoc (xs : List Int) {i : Nat} (h : i < xs.length) : xs.take (i + 1) = xs.take i ++ [xs.getD i 0] := by
  rw [List.take_add_one, List.getElem?_eq_getElem h]
  simp [List.getD, h]
def bookJ (w : World) (base : List (Addr × Obj)) (xs : List Int) (m0 : Str → Option Value) (i : Nat) (mm : Str → Option Value) (l : List (Addr × Obj)) : Prop :=
  ∃ t dn o' ds t1 t2 t3 t4 u, l = (t, statO (i : Int) (xs.take i).sum ((xs.take i).map fun x => x * x).sum 0 t1 t2 t3 t4 dn) :: (dn, o') :: base ∧ o'.IsDictOf (ik w) (kvOf ds) ∧ pl ds = bumps (xs.take i) ∧ (dn == sysModules) = false ∧
    (∀ p ∈ base, @LT.lt Nat _ p.1 dn) ∧ @LT.lt Nat _ dn t ∧ mm = fun y => if y = Str.ofString "count" then u else if y = Str.ofString "book" then some (.ref t) else m0 y
theorem rot5 {h₀ h : Heap} {L : Addr} {a b i c d : Addr × Obj} {l : List (Addr × Obj)} (N : News h₀ L h (a :: b :: i :: c :: d :: l)) : News h₀ L h (c :: a :: d :: b :: i :: l) := fun p hp => N p (by
  revert p
  repeat' (first | exact List.forall_mem_nil _ | refine List.forall_mem_cons.mpr ⟨?_, ?_⟩ | exact .head _ | (intro p hp; first | exact hp | (repeat (first | exact hp | apply List.Mem.tail))) | apply List.Mem.tail))
theorem rotI {h₀ h : Heap} {L : Addr} {a b i : Addr × Obj} {l : List (Addr × Obj)} (N : News h₀ L h (a :: b :: i :: l)) : News h₀ L h (i :: a :: b :: l) := fun p hp => N p (by
  revert p
  repeat' (first | exact List.forall_mem_nil _ | refine List.forall_mem_cons.mpr ⟨?_, ?_⟩ | exact .head _ | (intro p hp; first | exact hp | (repeat (first | exact hp | apply List.Mem.tail))) | apply List.Mem.tail))
theorem con_book {cl' : Addr} {xs : List Int} {vs : List Value} {c : Nat} {p : Program} {loose : List Str} {mean : ExcName → Option Value} {mg mb : Str → Option Value} {w : World} {dp un : Nat} {gd : Option (List Code)} {cn : Str} {cs : Scope} {ca : Addr} {ccd : Value} {cl : List (Str × Addr)} {outer : List Env} {A₀ : Around} {base h₀ : Heap} {L : Addr} {m : Str → Option Value} {s : Shared} {Q E : Value → Shared → Prop} {rest : List (Addr × Obj)}
  (B : Below A₀ base outer h₀) (F : Fr h₀ L s.heap m) (X : (hd.heap_1 w.params).In h₀) (N : News h₀ L s.heap ((cl', W.listOf vs.toArray c) :: rest)) (T : Top p loose mean mg mb h₀) (hk : cs.kind = .function) (hd' : dp + 10 < recursionLimit) (hu : un + 8 * 14 < cLine)
  (hi : IntsAre vs xs) (hl : xs.length ≤ 50) (hb : ∀ x ∈ xs, 0 ≤ x ∧ x ≤ 100) (G : AllBare s.gens)
  (ret : ∀ s' t dn o' ds t1 t2 t3 t4, Fr h₀ L s'.heap m → News h₀ L s'.heap ((t, statO (xs.length : Int) xs.sum (xs.map fun x => x * x).sum 0 t1 t2 t3 t4 dn) :: (dn, o') :: (cl', W.listOf vs.toArray c) :: rest) → o'.IsDictOf (ik w) (kvOf ds) → pl ds = bumps xs → (dn == sysModules) = false → AllBare s'.gens → s'.os = s.os → (∀ p ∈ rest, @LT.lt Nat _ p.1 dn) → @LT.lt Nat _ cl' dn → @LT.lt Nat _ dn t → Q (.ref t) s') :
  wpAny (model Challenge.rw_wo0053_01.row.prog w) (ktrTop dp un gd cn cs L ca ccd cl outer) (call (.ref 257) [.ref cl']) Q E s := by
  have hvl : vs.length = xs.length := hi.length
  revert X; k_fill; intro X
  refine wpAny_call ?_
  k_dflt (walk_at "mine enter")
  iterate 19 (first | walk1 | (dsimp only; walk1))
  refine For_go ?_
  k_steps
  have hcb : Str.ofString "count" ≠ Str.ofString "book" := by decide +kernel
  rename Fr _ _ _ _ => kF8
  rw [canon0 hcb] at kF8
  refine forList (bookJ w ((cl', W.listOf vs.toArray c) :: rest) xs _) rfl rfl rfl kF8 (by k_asm) (.tail _ (.tail _ (.head _))) (by walk_at "mine bare") ⟨_, _, _, [], _, _, _, _, _, rfl, by assumption, rfl, by assumption, ?_, by omega, rfl⟩ ?_ ?_ ?_
  · intro p hp
    rcases List.mem_cons.mp hp with rfl | hp
    · omega
    · exact lt_all (by simp only [*]) p hp
  · rintro i m' l ⟨t, dn, o', ds, t1, t2, t3, t4, u, rfl, _⟩
    exact .tail _ (.tail _ (.head _))
  · rintro i v I oI m' l s2 hv lt ⟨t, dn, o', ds, t1, t2, t3, t4, u, rfl, hod, hpl, lod, hlt, hdt, rfl⟩ off F2 N2 G2 o2
    obtain ⟨tv, rfl, hil⟩ := ints_at hi hv
    dsimp only at F2
    have hbx := hb (xs.getD i 0) (by rw [List.getD, List.getElem?_eq_getElem hil]; exact List.getElem_mem hil)
    have hltk : (xs.take i).length ≤ 50 := by rw [List.length_take]; omega
    obtain ⟨hd1, hd2⟩ := pl_bound hpl hltk
    have hs1 := sum_le (xs.take i) 100 (by decide) fun x hx => hb x (List.mem_of_mem_take hx)
    have hs2 := sum_le ((xs.take i).map fun x => x * x) 10000 (by decide) (fun x hx => by
      obtain ⟨y, hy, rfl⟩ := List.mem_map.mp hx
      have := hb y (List.mem_of_mem_take hy)
      exact ⟨Int.mul_nonneg this.1 this.1, Int.le_trans (Int.mul_le_mul this.2 this.2 this.1 (by decide)) (by decide)⟩)
    rw [List.length_map] at hs2
    generalize hxv : xs.getD i 0 = x9 at *
    have lt' := lt
    k_lt lt'
    have hlt0 := hlt
    k_lt hlt
    k_steps
    k_here
    rename News _ _ _ _ => kN8
    rename Obj.IsDictOf (PySem.intKind _ _) _ _ => hsd
    have hxx : 0 ≤ x9 * x9 ∧ x9 * x9 ≤ 10000 := ⟨Int.mul_nonneg hbx.1 hbx.1, Int.le_trans (Int.mul_le_mul hbx.2 hbx.2 hbx.1 (by decide)) (by decide)⟩
    k_dflt (refine' Mine.con_stats (ds := ds) (c := x9) ?k1 ?k2 ?k3 (rot5 kN8) ?k5 ?k6 ?k7 ?k8 hod hsd lod ?k9 hd2 hd1 ⟨by omega, by omega, by omega, by omega⟩ ⟨by omega, by omega, by omega, by omega⟩ ?_; (case k1 => k_asm); (case k2 => k_asm); (case k3 => k_asm); (case k5 => k_asm); (case k6 => first | exact rfl | assumption); (case k7 => ktr_room); (case k8 => ktr_units); (case k9 => assumption); k_whole)
    intro s3 t3 dn3 o3 ds3 p1 p2 p3 p4 F3 N3 hod3 hpl3 lod3 g3 os3 lt3 hdt3
    k_steps
    dsimp only [FlowTo]
    rename Fr _ _ _ _ => kF9
    rename News _ _ _ _ => kN9
    rw [canonS hcb] at kF9
    have kN8' := rotI kN9
    have e1 : (1 : Int) + (i : Int) = ((i + 1 : Nat) : Int) := by omega
    have e2 : x9 + (xs.take i).sum = (xs.take (i + 1)).sum := by rw [take_snoc xs hil, List.sum_append, hxv]; simp; omega
    have e3 : x9 * x9 + ((xs.take i).map fun x => x * x).sum = ((xs.take (i + 1)).map fun x => x * x).sum := by rw [take_snoc xs hil, List.map_append, List.sum_append, hxv]; simp; omega
    rw [e1, e2, e3, Int.add_zero] at kN8'
    have hI3 : @LT.lt Nat _ I dn3 := lt3 (I, oI) (.head _)
    refine invP0 kF9 kN8' ⟨Nat.ne_of_gt (Nat.lt_trans hI3 hdt3), Nat.ne_of_gt hI3, off.2.2⟩ ⟨t3, dn3, o3, ds3, p1, p2, p3, p4, _, rfl, hod3, ?_, lod3, fun p hp => lt3 p (.tail _ hp), hdt3, rfl⟩ (by walk_at "mine bare") (by walk_at "mine os")
    rw [hpl3, hpl, take_snoc xs hil, bumps_snoc, hxv]
  · rintro m' l s2 ⟨t, dn, o', ds, t1, t2, t3, t4, u, rfl, hod, hpl, lod, hlt, hdt, rfl⟩ F2 N2 G2 o2
    have esz : vs.toArray.size = xs.length := by simpa using hvl
    rw [esz, List.take_length] at hpl N2
    k_steps
    exact ret _ _ _ _ _ _ _ _ _ (by k_asm) (by k_asm) hod hpl lod (by walk_at "mine bare") (by walk_at "mine os") (fun p hp => hlt p (.tail _ hp)) (hlt _ (.head _)) hdt
end Mine

namespace Mine
def lookD (D : List (Int × Int)) (k : Int) : Option Int := (D.find? fun p => decide (p.1 = k)).map (·.2)
def sameD (D D' : List (Int × Int)) : Bool := D.length == D'.length && D.all fun p => lookD D' p.1 == some p.2
theorem look_kv (ds : List (Int × Int × Tok)) (k v : Int) (h : lookD (pl ds) k = some v) : ∃ t, valueAt (kvOf ds) k = some (.int v t) := by
  induction ds with
  | nil => cases h
  | cons d ds ih =>
    unfold lookD pl at h
    rw [List.map_cons, List.find?_cons] at h
    unfold valueAt kvOf
    rw [List.map_cons, List.find?_cons]
    by_cases e : d.1 = k
    · simp only [e, decide_true, Option.map_some, Option.some.injEq] at h ⊢
      exact ⟨d.2.2, by rw [h]⟩
    · simp only [e, decide_false] at h ⊢
      exact ih h
theorem book_hits {A : Around} {s : Shared} (ds' : List (Int × Int × Tok)) : ∀ ds : List (Int × Int × Tok), (∀ p ∈ pl ds, lookD (pl ds') p.1 = some p.2) → KeqHits A s (kvOf ds') (kvOf ds) true
  | [], _ => .nil
  | d :: ds, h => by
    obtain ⟨t, e⟩ := look_kv ds' d.1 d.2.1 (h (d.1, d.2.1) (.head _))
    have r := book_hits (A := A) (s := s) ds' ds fun p hp => h p (.tail _ hp)
    have q := KeqHits.hit (A := A) (s := s) (k := d.1) (v := .int d.2.1 d.2.2) e (SeqAt.EqAt.int_int d.2.1 d.2.2 d.2.1 t) r
    simpa [kvOf] using q
theorem pairs_any {prog prog' : Program} {w w' : World} {es : List DictEntry} {kvs : List (Int × Value)} (h : Pairs (intKind prog w) es kvs) : Pairs (intKind prog' w') es kvs := by
  induction h with
  | nil => exact .nil
  | cons a b _ ih => exact .cons a b ih
theorem dict_any {prog prog' : Program} {w w' : World} {o : Obj} {kvs : List (Int × Value)} (h : o.IsDictOf (intKind prog w) kvs) : o.IsDictOf (intKind prog' w') kvs := by
  obtain ⟨es, ep, a, b, c, d, e⟩ := h
  exact ⟨es, ep, a, b, c, pairs_any d, e⟩
theorem dicts_rc {prog : Program} {w : World} {A : Around} {s : Shared} {h₀ : Heap} {L : Addr} {news : List (Addr × Obj)} {da db : Addr} {oa ob : Obj} {ds ds' : List (Int × Int × Tok)}
    (N : News h₀ L s.heap news) (qa : (da, oa) ∈ news) (qb : (db, ob) ∈ news)
    (ha : oa.IsDictOf (intKind prog w) (kvOf ds)) (hb : ob.IsDictOf (intKind prog w) (kvOf ds')) (la : (da == sysModules) = false) (lb : (db == sysModules) = false) (hs : sameD (pl ds) (pl ds') = true) (hu : A.units < cLine) :
    SeqAt.RcAt A s (.ref da) (.ref db) true := by
  intro prog' w' E Q hq
  have ha' : oa.IsDictOf (intKind prog' w') (kvOf ds) := dict_any ha
  have hb' : ob.IsDictOf (intKind prog' w') (kvOf ds') := dict_any hb
  unfold sameD at hs
  rw [Bool.and_eq_true, List.all_eq_true, beq_iff_eq] at hs
  refine cmp_ofEq ?_
  have hl : (kvOf ds).length = (kvOf ds').length := by have := hs.1; simpa [pl, kvOf] using this
  exact keq_pairs (knd := intKind prog' w') N qa qb ha' hb' la lb hl hu (book_hits ds' ds fun p hp => by simpa using hs.2 p hp) hq
theorem books_ne {prog : Program} {w : World} {A : Around} {E : Value → Shared → Prop} {s : Shared} {h₀ : Heap} {L : Addr} {news : List (Addr × Obj)} {ta tb da db : Addr} {oa ob : Obj} {ds ds' : List (Int × Int × Tok)} {a b c d : Int} {t1 t2 t3 t4 u1 u2 u3 u4 : Tok} {Q : Value → Shared → Prop}
    (N : News h₀ L s.heap news) (pa : (ta, statO a b c d t1 t2 t3 t4 da) ∈ news) (pb : (tb, statO a b c d u1 u2 u3 u4 db) ∈ news) (qa : (da, oa) ∈ news) (qb : (db, ob) ∈ news)
    (ha : oa.IsDictOf (intKind prog w) (kvOf ds)) (hb : ob.IsDictOf (intKind prog w) (kvOf ds')) (la : (da == sysModules) = false) (lb : (db == sysModules) = false) (hne : da ≠ db) (hs : sameD (pl ds) (pl ds') = true) (hu : A.units < cLine) (hu1 : A.in1.units < cLine)
    (h : Q (.bool false) s) : wpAny (model prog w) A (compareOp .NotEq (.ref ta) (.ref tb)) Q E s := by
  have ia : s.heap.IsTuple ta #[.int a t1, .int b t2, .int c t3, .int d t4, .ref da] := ⟨_, (N _ pa).1, rfl, _, rfl⟩
  have ib : s.heap.IsTuple tb #[.int a u1, .int b u2, .int c u3, .int d u4, .ref db] := ⟨_, (N _ pb).1, rfl, _, rfl⟩
  have z := SeqAt.RcNeAt.tuples (A := A) (e := fun _ => true) ia ib hu (fun j h1 h2 => by
    have h1' : j < 5 := h1
    match j with
    | 0 => simpa using SeqAt.EqAt.int_int (A := A.in1) (s := s) a t1 a u1
    | 1 => simpa using SeqAt.EqAt.int_int (A := A.in1) (s := s) b t2 b u2
    | 2 => simpa using SeqAt.EqAt.int_int (A := A.in1) (s := s) c t3 c u3
    | 3 => simpa using SeqAt.EqAt.int_int (A := A.in1) (s := s) d t4 d u4
    | 4 => exact SeqAt.EqAt.of_refs hne (dicts_rc N qa qb ha hb la lb hs hu1)
    | k + 5 => exact absurd h1' (by lia))
  refine cmp_ofNotEq (z prog w E Q ?_)
  exact h
end Mine

namespace Mine
theorem ite_iff {α : Type} {a b : Prop} [Decidable a] [Decidable b] (h : a ↔ b) (x y : α) : (if a then x else y) = if b then x else y := by
  by_cases ha : a
  · rw [if_pos ha, if_pos (h.mp ha)]
  · rw [if_neg ha, if_neg (mt h.mpr ha)]
theorem look_none {D : List (Int × Int)} {k : Int} (h : D.any (fun p => decide (p.1 = k)) = false) : lookD D k = none := by
  unfold lookD
  rw [Option.map_eq_none_iff, List.find?_eq_none]
  intro p hp hk
  rw [List.any_eq_false] at h
  exact h p hp hk
theorem look_bump (D : List (Int × Int)) (c k : Int) : lookD (bump D c) k = if k = c then some ((lookD D k).getD 0 + 1) else lookD D k := by
  unfold bump
  by_cases h : D.any (fun p => decide (p.1 = c)) = true
  · rw [if_pos h]
    induction D with
    | nil => simp at h
    | cons p D ih =>
      rw [List.map_cons]
      have l1 : ∀ (q : Int × Int) (l : List (Int × Int)), lookD (q :: l) k = if q.1 = k then some q.2 else lookD l k := fun q l => by
        unfold lookD; rw [List.find?_cons]
        by_cases e : q.1 = k <;> simp [e]
      rw [l1, l1]
      by_cases hp : p.1 = c
      · rw [if_pos hp]
        by_cases hk : k = c
        · subst hk; simp [hp]
        · have hpk : p.1 ≠ k := fun e => hk (e ▸ hp)
          rw [if_neg hk, if_neg hpk, if_neg hpk]
          by_cases hd : D.any (fun p => decide (p.1 = c)) = true
          · have := ih hd; rw [if_neg hk] at this; exact this
          · have e : D.map (fun p => if p.1 = c then (p.1, p.2 + 1) else p) = D := by
              conv => rhs; rw [← List.map_id D]
              refine List.map_congr_left fun q hq => ?_
              rw [if_neg]; rfl
              intro hqc
              exact hd (List.any_eq_true.mpr ⟨q, hq, decide_eq_true hqc⟩)
            rw [e]
      · rw [if_neg hp]
        rw [List.any_cons, decide_eq_false hp, Bool.false_or] at h
        rw [ih h]
        by_cases hpk : p.1 = k
        · have hk : k ≠ c := fun e => hp (hpk.trans e)
          rw [if_pos hpk, if_neg hk, if_pos hpk]
        · rw [if_neg hpk, if_neg hpk]
  · rw [if_neg h]
    have hn := look_none (Bool.eq_false_iff.mpr h)
    unfold lookD at hn ⊢
    rw [List.find?_append]
    by_cases hk : k = c
    · subst hk
      rw [if_pos rfl, hn]
      rw [Option.map_eq_none_iff] at hn
      rw [hn]
      simp
    · rw [if_neg hk]
      have : List.find? (fun p : Int × Int => decide (p.1 = k)) [(c, 1)] = none := by
        rw [List.find?_cons_of_neg]; rfl
        simpa using fun e => hk e.symm
      rw [this, Option.or_none]
theorem snoc_ind {p : List Int → Prop} (h0 : p []) (h1 : ∀ l c, p l → p (l ++ [c])) (l : List Int) : p l := by
  rw [← List.reverse_reverse l]
  induction l.reverse with
  | nil => exact h0
  | cons a r ih => rw [List.reverse_cons]; exact h1 _ _ ih
theorem look_bumps (l : List Int) (k : Int) : lookD (bumps l) k = if k ∈ l then some ((l.count k : Nat) : Int) else none := by
  induction l using snoc_ind with
  | h0 => rfl
  | h1 l c ih =>
    rw [bumps_snoc, look_bump, ih, List.count_append]
    by_cases hk : k = c
    · subst hk
      rw [if_pos rfl, if_pos (List.mem_append_right l (List.mem_singleton_self k))]
      by_cases hm : k ∈ l
      · rw [if_pos hm]; simp
      · rw [if_neg hm, List.count_eq_zero_of_not_mem hm]; simp
    · rw [if_neg hk]
      have e : (k ∈ l ++ [c]) = (k ∈ l) := by simp [hk]
      have e2 : List.count k [c] = 0 := List.count_eq_zero_of_not_mem (by simpa using hk)
      rw [ite_iff (Iff.of_eq e), e2, Nat.add_zero]
def keysD (D : List (Int × Int)) : List Int := D.map (·.1)
theorem keys_bump (D : List (Int × Int)) (c : Int) : keysD (bump D c) = if c ∈ keysD D then keysD D else keysD D ++ [c] := by
  have e : (D.any (fun p => decide (p.1 = c)) = true) ↔ c ∈ keysD D := by
    unfold keysD; rw [List.any_eq_true, List.mem_map]
    exact ⟨fun ⟨p, hp, h⟩ => ⟨p, hp, of_decide_eq_true h⟩, fun ⟨p, hp, h⟩ => ⟨p, hp, decide_eq_true h⟩⟩
  unfold bump
  by_cases h : c ∈ keysD D
  · rw [if_pos (e.mpr h), if_pos h]
    unfold keysD
    rw [List.map_map]
    refine List.map_congr_left fun p _ => ?_
    dsimp only [Function.comp]
    split <;> rfl
  · rw [if_neg (mt e.mp h), if_neg h]
    unfold keysD
    rw [List.map_append]; rfl
theorem keys_bumps (l : List Int) : (keysD (bumps l)).Nodup ∧ ∀ k, k ∈ keysD (bumps l) ↔ k ∈ l := by
  induction l using snoc_ind with
  | h0 => exact ⟨List.nodup_nil, fun k => Iff.rfl⟩
  | h1 l c ih =>
    obtain ⟨i1, i2⟩ := ih
    rw [bumps_snoc, keys_bump]
    split
    · next h => exact ⟨i1, fun k => by rw [i2, List.mem_append, List.mem_singleton]; exact ⟨.inl, fun o => o.elim id fun e => e ▸ (i2 c).mp h⟩⟩
    · next h =>
      refine ⟨List.nodup_append.mpr ⟨i1, by simp, fun a ha b hb e => ?_⟩, fun k => by rw [List.mem_append, List.mem_append, i2]⟩
      rw [List.mem_singleton] at hb
      exact h (hb ▸ e ▸ ha)
theorem sum_int_perm {l l' : List Int} (h : l.Perm l') : l.sum = l'.sum := by
  induction h with
  | nil => rfl
  | cons x _ ih => rw [List.sum_cons, List.sum_cons, ih]
  | swap x y l => simp only [List.sum_cons]; lia
  | trans _ _ i1 i2 => exact i1.trans i2
theorem same_perm {xs ys : List Int} (h : xs.Perm ys) : sameD (bumps xs) (bumps ys) = true := by
  obtain ⟨n1, m1⟩ := keys_bumps xs
  obtain ⟨n2, m2⟩ := keys_bumps ys
  have hp : (keysD (bumps xs)).Perm (keysD (bumps ys)) := (List.perm_ext_iff_of_nodup n1 n2).mpr fun a => by rw [m1, m2, h.mem_iff]
  have hl := hp.length_eq
  unfold keysD at hl
  rw [List.length_map, List.length_map] at hl
  unfold sameD
  rw [Bool.and_eq_true]
  refine ⟨by rw [hl]; exact beq_self_eq_true _, List.all_eq_true.mpr fun p hpm => ?_⟩
  have hx : lookD (bumps xs) p.1 = some p.2 := by
    have key : ∀ (D : List (Int × Int)), (keysD D).Nodup → p ∈ D → lookD D p.1 = some p.2 := by
      intro D
      induction D with
      | nil => intro _ h; cases h
      | cons q D ih =>
        intro hn hm
        unfold keysD at hn
        rw [List.map_cons, List.nodup_cons] at hn
        unfold lookD
        rw [List.find?_cons]
        rcases List.mem_cons.mp hm with rfl | hm
        · simp
        · have hq : q.1 ≠ p.1 := fun e => hn.1 (e ▸ List.mem_map_of_mem hm)
          rw [decide_eq_false hq]
          exact ih hn.2 hm
    exact key _ n1 hpm
  rw [look_bumps] at hx
  rw [look_bumps, ← hx]
  have hc := List.perm_iff_count.mp h p.1
  rw [hc, ite_iff h.mem_iff]
  exact beq_self_eq_true _
theorem bump_sum (D : List (Int × Int)) (c : Int) (hn : (keysD D).Nodup) : ((bump D c).map (·.2)).sum = (D.map (·.2)).sum + 1 := by
  unfold bump
  by_cases h : D.any (fun p => decide (p.1 = c)) = true
  · rw [if_pos h]
    induction D with
    | nil => simp at h
    | cons p D ih =>
      unfold keysD at hn
      rw [List.map_cons, List.nodup_cons] at hn
      rw [List.map_cons, List.map_cons, List.sum_cons, List.map_cons, List.sum_cons]
      by_cases hp : p.1 = c
      · rw [if_pos hp]
        have e : D.map (fun p => if p.1 = c then (p.1, p.2 + 1) else p) = D := by
          conv => rhs; rw [← List.map_id D]
          refine List.map_congr_left fun q hq => ?_
          rw [if_neg]; rfl
          intro hqc
          exact hn.1 (by rw [hp, ← hqc]; exact List.mem_map_of_mem hq)
        rw [e]
        dsimp only
        lia
      · rw [if_neg hp]
        rw [List.any_cons, decide_eq_false hp, Bool.false_or] at h
        rw [ih hn.2 h]
        lia
  · rw [if_neg h, List.map_append, List.sum_append]
    simp
theorem bumps_sum (l : List Int) : ((bumps l).map (·.2)).sum = (l.length : Int) := by
  induction l using snoc_ind with
  | h0 => rfl
  | h1 l c ih =>
    rw [bumps_snoc, bump_sum _ _ (keys_bumps l).1, ih, List.length_append]
    simp
end Mine

theorem Mine.rstR1 : True := by w_top off; trivial
namespace Mine
def nearP (xs : List Int) (spot way wide width : Int) (x : Int) : Bool := decide (0 < Int.fmod ((x - xs.getD spot.toNat 0) * way) wide) && decide (Int.fmod ((x - xs.getD spot.toNat 0) * way) wide ≤ width)
def nearN (xs : List Int) (spot way wide width : Int) : Int := if ((xs.filter (nearP xs spot way wide width)).length : Int) > 1 then ((xs.filter (nearP xs spot way wide width)).length : Int) else 1
theorem filt_succ (p : Int → Bool) (xs : List Int) (i : Nat) (h : i < xs.length) : ((xs.take (i + 1)).filter p).length = ((xs.take i).filter p).length + if p (xs.getD i 0) = true then 1 else 0 := by
  have e : xs.take (i + 1) = xs.take i ++ [xs.getD i 0] := by
    rw [List.take_add_one, List.getElem?_eq_getElem h]
    simp [List.getD, h]
  rw [e, List.filter_append, List.length_append, List.filter_cons]
  split <;> simp
theorem con_near {sl : Addr} {xs : List Int} {vs : List Value} {c : Nat} {spot way wide width : Int} {ts ty tw td : Tok} {p : Program} {loose : List Str} {mean : ExcName → Option Value} {mg mb : Str → Option Value} {w : World} {dp un : Nat} {gd : Option (List Code)} {cn : Str} {cs : Scope} {ca : Addr} {ccd : Value} {cl : List (Str × Addr)} {outer : List Env} {A₀ : Around} {base h₀ : Heap} {L : Addr} {m : Str → Option Value} {s : Shared} {Q E : Value → Shared → Prop} {rest : List (Addr × Obj)}
  (B : Below A₀ base outer h₀) (F : Fr h₀ L s.heap m) (X : (hd.heap_1 w.params).In h₀) (N : News h₀ L s.heap ((sl, W.listOf vs.toArray c) :: rest)) (T : Top p loose mean mg mb h₀) (hk : cs.kind = .function) (hd' : dp + 6 < recursionLimit) (hu : un + 8 * 10 < cLine)
  (hi : IntsAre vs xs) (hl : xs.length ≤ 50) (hs0 : 0 ≤ spot) (hs1 : spot < xs.length) (hway : way = 1 ∨ way = -1) (hw0 : 0 < wide) (hw1 : wide ≤ 100) (hb : ∀ x ∈ xs, 0 ≤ x ∧ x ≤ 100)
  (ret : ∀ s' t, Fr h₀ L s'.heap m → News h₀ L s'.heap ((sl, W.listOf vs.toArray c) :: rest) → s'.gens = s.gens → s'.os = s.os → Q (.int (nearN xs spot way wide width) t) s') :
  wpAny (model Challenge.rw_wo0053_01.row.prog w) (ktrTop dp un gd cn cs L ca ccd cl outer) (call (.ref 243) [.ref sl, .int spot ts, .int way ty, .int wide tw, .int width td]) Q E s := by
  have hvl : vs.length = xs.length := hi.length
  have hw1 : -1 ≤ way := by rcases hway with h | h <;> omega
  have hw2 : way ≤ 1 := by rcases hway with h | h <;> omega
  revert X; k_fill; intro X
  refine wpAny_call ?_
  k_dflt (walk_at "mine center")
  iterate 12 (first | walk1 | (dsimp only; walk1))
  k_dflt (refine LCt.ListComp_T (F₀ := by k_asm) (by with_unfolding_all rfl) (by decide) (by rfl) (by decide) (by rfl) ?_)
  iterate 1 (first | walk1 | (dsimp only; walk1))
  rename News _ _ _ _ => kN0
  refine LCt.CompSrcT.ledger (by rfl) (by k_asm) kN0 (by k_mem) (by simp only [List.size_toArray]; rw [sizeLine_eq]; omega) ?_
  intro g0
  refine restT_ind (fun i ys nw => nw = _ ∧ ys.length = ((xs.take i).filter (nearP xs spot way wide width)).length) vs.toArray.size ?_ ?_ vs.toArray.size 0 [] _ (by omega) ⟨rfl, rfl⟩
  · rintro i ys nw v I oI C oC D m₂ h5 tk5 E5 hin ⟨rfl, hys⟩ hv hC hx F5 N5 off ne
    obtain ⟨tv, rfl, hil⟩ := ints_at hi hv
    have off0 := off
    dsimp only [LCg.Off3] at off
    k_steps
    all_goals refine ⟨h5, _, _, rfl, F5, N5, off0, Or.inr ⟨W.listOf vs.toArray c, by k_mem, rfl, c, rfl⟩, rfl, ?_⟩
    · rw [List.length_append, hys, filt_succ _ _ _ hil, if_pos (by unfold nearP; simp only [Bool.and_eq_true, decide_eq_true_eq]; exact ⟨by assumption, by assumption⟩)]; rfl
    · rw [hys, filt_succ _ _ _ hil, if_neg (by unfold nearP; simp only [Bool.and_eq_true, decide_eq_true_eq]; rintro ⟨_, h⟩; contradiction)]; rfl
    · rw [hys, filt_succ _ _ _ hil, if_neg (by unfold nearP; simp only [Bool.and_eq_true, decide_eq_true_eq]; rintro ⟨h, _⟩; contradiction)]; rfl
  · rintro ys nw ⟨rfl, hys⟩
    have hx1 : vs.toArray.size = xs.length := by simpa using hvl
    rw [hx1, List.take_length] at hys
    intro D h5 tk5 F5 N5 o5
    k_steps
    have hfl : ((xs.filter (nearP xs spot way wide width)).length : Int) ≤ xs.length := by exact_mod_cast List.length_filter_le _ _
    have hys' : (ys.toArray.size : Int) = ((xs.filter (nearP xs spot way wide width)).length : Int) := by rw [List.size_toArray, hys]
    refine PyProof.Rows.len_list (items := ys.toArray) (N5.isList (.head _)) (by omega) ?_
    rw [hys']
    k_steps
    rename News h₀ _ _ _ => kN9
    exact ret _ _ (by k_asm) (fun p hp => kN9 p (.tail _ (.tail _ (.tail _ (.tail _ (.tail _ (.tail _ hp))))))) rfl rfl
end Mine

theorem Mine.rstR2 : True := by w_top off; trivial
namespace Mine
theorem near_bounds {xs : List Int} {spot way wide width : Int} (hl : xs.length ≤ 50) : 1 ≤ nearN xs spot way wide width ∧ nearN xs spot way wide width ≤ 50 := by
  have := List.length_filter_le (nearP xs spot way wide width) xs
  unfold nearN
  split <;> omega
def nextN (xs : List Int) (spot way wide width : Int) : Int := Int.fmod (spot + way * nearN xs spot way wide width) xs.length
theorem next_bounds {xs : List Int} {spot way wide width : Int} (h : 0 < xs.length) : 0 ≤ nextN xs spot way wide width ∧ nextN xs spot way wide width < xs.length := by
  unfold nextN
  exact ⟨Int.fmod_nonneg_of_pos _ (by omega), Int.fmod_lt_of_pos _ (by omega)⟩
theorem con_told {sl : Addr} {xs : List Int} {vs : List Value} {c : Nat} {spot way wide width : Int} {ts ty tw td : Tok} {p : Program} {loose : List Str} {mean : ExcName → Option Value} {mg mb : Str → Option Value} {w : World} {dp un : Nat} {gd : Option (List Code)} {cn : Str} {cs : Scope} {ca : Addr} {ccd : Value} {cl : List (Str × Addr)} {outer : List Env} {A₀ : Around} {base h₀ : Heap} {L : Addr} {m : Str → Option Value} {s : Shared} {Q E : Value → Shared → Prop} {rest : List (Addr × Obj)}
  (B : Below A₀ base outer h₀) (F : Fr h₀ L s.heap m) (X : (hd.heap_1 w.params).In h₀) (N : News h₀ L s.heap ((sl, W.listOf vs.toArray c) :: rest)) (T : Top p loose mean mg mb h₀) (hk : cs.kind = .function) (hd' : dp + 8 < recursionLimit) (hu : un + 8 * 14 < cLine)
  (hi : IntsAre vs xs) (hl : xs.length ≤ 50) (hs0 : 0 ≤ spot) (hs1 : spot < xs.length) (hway : way = 1 ∨ way = -1) (hw0 : 0 < wide) (hw1 : wide ≤ 100) (hb : ∀ x ∈ xs, 0 ≤ x ∧ x ≤ 100)
  (ret : ∀ s' t u1 u2, Fr h₀ L s'.heap m → News h₀ L s'.heap ((t, W.listOf #[.int (nearN xs spot way wide width) u1, .int (nearN xs spot way wide width + nearN xs (nextN xs spot way wide width) way wide width) u2] 0) :: (sl, W.listOf vs.toArray c) :: rest) → s'.gens = s.gens → s'.os = s.os → (∀ p ∈ rest, @LT.lt Nat _ p.1 t) → @LT.lt Nat _ sl t → Q (.ref t) s') :
  wpAny (model Challenge.rw_wo0053_01.row.prog w) (ktrTop dp un gd cn cs L ca ccd cl outer) (call (.ref 250) [.ref sl, .int spot ts, .int way ty, .int wide tw, .int width td]) Q E s := by
  revert X; k_fill; intro X
  refine wpAny_call ?_
  k_dflt (walk_at "mine enter")
  k_steps
  k_here
  k_dflt (refine' Mine.con_near (xs := xs) ?k1 ?k2 ?k3 ?k4 ?k5 ?k6 ?k7 ?k8 hi hl hs0 hs1 hway hw0 hw1 hb ?_; (case k1 => k_asm); (case k2 => k_asm); (case k3 => k_asm); (case k4 => k_asm); (case k5 => k_asm); (case k6 => first | exact rfl | assumption); (case k7 => ktr_room); (case k8 => ktr_units); k_whole)
  intro s1 t1 F1 N1 g1 o1
  obtain ⟨hf0, hf1⟩ := near_bounds (xs := xs) (spot := spot) (way := way) (wide := wide) (width := width) hl
  have hlen : vs.length = xs.length := hi.length
  have hpos : 0 < xs.length := by omega
  have hnext := next_bounds (xs := xs) (spot := spot) (way := way) (wide := wide) (width := width) hpos
  unfold nextN at hnext
  generalize hfe : nearN xs spot way wide width = fst at *
  k_steps
  have hsz : (vs.toArray.size : Int) = (xs.length : Int) := by rw [List.size_toArray, hlen]
  try rw [hsz]
  k_here
  k_dflt (refine' Mine.con_near (xs := xs) ?k1 ?k2 ?k3 ?k4 ?k5 ?k6 ?k7 ?k8 hi hl hnext.1 hnext.2 hway hw0 hw1 hb ?_; (case k1 => k_asm); (case k2 => k_asm); (case k3 => k_asm); (case k4 => k_asm); (case k5 => k_asm); (case k6 => first | exact rfl | assumption); (case k7 => ktr_room); (case k8 => ktr_units); k_whole)
  intro s2 t2 F2 N2 g2 o2
  have hb2 := near_bounds (xs := xs) (spot := (spot + way * fst).fmod xs.length) (way := way) (wide := wide) (width := width) hl
  k_steps
  rename News h₀ _ _ _ => kN9
  subst hfe
  exact ret _ _ _ _ (by k_asm) kN9 (by walk_at "mine os") (by walk_at "mine os") (lt_all (by simp only [*])) (by omega)
end Mine

section
theorem Mine.regF13 : True := by
  k_with_none
  k_with "own kne" => ((refine neN ?_; (try dsimp only); walk_at "mine apart"))
  k_with "own ktrroom" => (((try simp only [depth_under_make, depth_under_kw, depth_in1, depth_deeper, depth_caller]); (try dsimp only [ktrTop]); walk_at "mine near"))
  k_with "own ktrunits" => (((try simp only [units_in1, units_deeper, Around.mark_units, units_caller]); (try dsimp only [ktrTop]); walk_at "mine near"))
  k_with "mine near" => (((try simp only [Nat.add_assoc]); first | exact Mine.roomOf ‹_› (by decide) | exact Mine.roomOf0 ‹_› | decide))
  k_with "mine apart" => (first | assumption | exact Ne.symm ‹_› | exact Nat.ne_of_lt ‹_› | exact Nat.ne_of_gt ‹_› | exact Nat.ne_of_lt (Mine.A0 ‹_›) | exact Nat.ne_of_gt (Mine.A0 ‹_›) | exact Mine.A0 ‹_› | exact Ne.symm (Mine.A0 ‹_›) | exact Nat.ne_of_lt (Mine.A1 ‹_›) | exact Nat.ne_of_gt (Mine.A1 ‹_›) | exact Mine.A1 ‹_› | exact Ne.symm (Mine.A1 ‹_›) | exact Nat.ne_of_lt (Mine.A2 ‹_›) | exact Nat.ne_of_gt (Mine.A2 ‹_›) | exact Mine.A2 ‹_› | exact Ne.symm (Mine.A2 ‹_›) | exact Nat.ne_of_lt (Mine.A3 ‹_›) | exact Nat.ne_of_gt (Mine.A3 ‹_›) | exact Mine.A3 ‹_› | exact Ne.symm (Mine.A3 ‹_›) | exact Nat.ne_of_lt (Mine.A4 ‹_›) | exact Nat.ne_of_gt (Mine.A4 ‹_›) | exact Mine.A4 ‹_› | exact Ne.symm (Mine.A4 ‹_›) | exact Nat.ne_of_lt (Mine.A5 ‹_›) | exact Nat.ne_of_gt (Mine.A5 ‹_›) | exact Mine.A5 ‹_› | exact Ne.symm (Mine.A5 ‹_›) | exact Nat.ne_of_lt (Mine.A6 ‹_›) | exact Nat.ne_of_gt (Mine.A6 ‹_›) | exact Mine.A6 ‹_› | exact Ne.symm (Mine.A6 ‹_›) | exact Nat.ne_of_lt (Mine.A7 ‹_›) | exact Nat.ne_of_gt (Mine.A7 ‹_›) | exact Mine.A7 ‹_› | exact Ne.symm (Mine.A7 ‹_›) | exact Nat.ne_of_lt (Mine.A8 ‹_›) | exact Nat.ne_of_gt (Mine.A8 ‹_›) | exact Mine.A8 ‹_› | exact Ne.symm (Mine.A8 ‹_›) | exact Nat.ne_of_lt (Mine.A9 ‹_›) | exact Nat.ne_of_gt (Mine.A9 ‹_›) | exact Mine.A9 ‹_› | exact Ne.symm (Mine.A9 ‹_›) | exact Nat.ne_of_lt (Mine.A10 ‹_›) | exact Nat.ne_of_gt (Mine.A10 ‹_›) | exact Mine.A10 ‹_› | exact Ne.symm (Mine.A10 ‹_›) | decide | omega)
  k_with "getMethod ref" => ((k_here; k_dflt (refine' Mine.accK_method ?k1Zc ?k2Zc ?k3Zc ?k4Zc ?k5Zc ?k6Zc ?k7Zc ?k8Zc ?k9Zc ?k10Zc ?k11Zc ?_; (case k1Zc => k_asm); (case k2Zc => k_asm); (case k3Zc => k_asm); (case k4Zc => k_mem); (case k5Zc => k_mem); (case k6Zc => k_is); (case k7Zc => k_is); (case k8Zc => k_is); (case k9Zc => k_is); (case k10Zc => decide); (case k11Zc => k_get); k_whole)))
  k_with "call builtin:list.append" => ((k_here; (with_reducible show wpAny _ _ (call (Value.builtin _) [Value.ref _, _]) _ _ _); k_dflt (refine' Mine.accK_append ?k1Zc ?k2Zc ?k3Zc ?k4Zc ?k5Zc ?k6Zc ?_ ?zZc; (case k1Zc => k_asm); (case k2Zc => k_asm); (case k3Zc => k_asm); (case k6Zc => k_upd); (case k4Zc => k_mem); (case k5Zc => k_is); (case zZc => first | size_fits | (rw [sizeLine_eq]; omega)); k_whole); intro hqZn FqZn NqZn; (try k_sweep)))
  k_with "getAttr ref" => ((k_here; k_dflt (refine' Mine.accK_get ?k1Zc ?k2Zc ?k3Zc ?k4Zc ?k5Zc ?k6Zc ?k7Zc ?k8Zc ?k9Zc ?k10Zc ?k11Zc ?k12Zc ?k13Zc ?_; (case k1Zc => k_asm); (case k2Zc => k_asm); (case k3Zc => k_asm); (case k4Zc => k_mem); (case k5Zc => k_mem); (case k6Zc => k_is); (case k7Zc => k_is); (case k8Zc => k_is); (case k9Zc => k_is); (case k10Zc => k_is); (case k11Zc => k_is); (case k12Zc => k_get); (case k13Zc => k_handed); k_whole)))
  k_with "setAttr ref" => ((k_here; k_dflt (refine' Mine.accK_set ?k1Zc ?k2Zc ?k3Zc ?k4Zc ?k5Zc ?k6Zc ?k7Zc ?k8Zc ?k9Zc ?k10Zc ?k11Zc ?k12Zc ?k13Zc ?k14Zc ?_; (case k1Zc => k_asm); (case k2Zc => k_asm); (case k3Zc => k_asm); (case k4Zc => k_mem); (case k5Zc => k_mem); (case k6Zc => k_is); (case k7Zc => k_is); (case k8Zc => rfl); (case k9Zc => rfl); (case k10Zc => k_is); (case k11Zc => k_get); (case k12Zc => k_put); (case k13Zc => k_upd); (case k14Zc => exact Nat.le_of_ble_eq_true rfl); k_whole); intro hqZn FqZn NqZn; (try k_sweep)))
  k_with "call builtin:len" => ((k_here; (with_reducible show wpAny _ _ (call (Value.builtin "len") [Value.ref _]) _ _ _); k_dflt (refine' Mine.accK_len ?k1Zc ?k2Zc ?k3Zc ?k4Zc ?k5Zc ?k6Zc ?k7Zc ?_; (case k1Zc => k_asm); (case k2Zc => k_asm); (case k3Zc => k_asm); (case k4Zc => k_mem); (case k5Zc => k_mem); (case k6Zc => k_is); (case k7Zc => k_is); k_whole)))
  k_with "subscriptTail" => ((k_here; (with_reducible show wpAny _ _ (subscriptTail _ _ (Value.ref _) (Value.ref _)) _ _ _); k_dflt (refine' Mine.accK_slice ?k1Zc ?k2Zc ?k3Zc ?k4Zc ?k5Zc ?k6Zc ?k7Zc ?k8Zc ?k9Zc ?k10Zc ?k11Zc ?zZc ?_ ?k12Zc; (case k1Zc => k_asm); (case k2Zc => k_asm); (case k3Zc => k_asm); (case k4Zc => k_mem); (case k5Zc => k_mem); (case k6Zc => k_is); (case k7Zc => k_is); (case k8Zc => k_is); (case k9Zc => first | exact .none | exact .int _ _); (case k10Zc => first | exact .none | exact .int _ _); (case k11Zc => exact Mine.accPick _ _); (case zZc => first | size_fits | (rw [sizeLine_eq]; omega)); (case k12Zc => intro slZn; with_unfolding_all rfl); k_whole); intro lqZn hqZn FqZn NqZn l1Zn; (try k_lt l1Zn); (try k_sweep)))
  k_with "setItem ref" => ((k_here; (with_reducible show wpAny _ _ (setItem (Value.ref _) (Value.ref _) (Value.ref _)) _ _ _); k_dflt (refine' Mine.accK_setSlice ?k1Zc ?k2Zc ?k3Zc ?k4Zc ?k5Zc ?k6Zc ?k7Zc ?k8Zc ?k10Zc ?k11Zc ?k12Zc ?k13Zc ?k14Zc ?zZc ?_; (case k1Zc => k_asm); (case k2Zc => k_asm); (case k3Zc => k_asm); (case k4Zc => k_mem); (case k5Zc => k_mem); (case k6Zc => k_is); (case k7Zc => k_is); (case k8Zc => k_is); (case k10Zc => k_mem); (case k11Zc => first | exact .none | exact .int _ _); (case k12Zc => first | exact .none | exact .int _ _); (case k13Zc => first | exact Mine.accB_all _ _ | exact Mine.accB_del _ _ (by assumption)); (case k14Zc => k_upd); (case zZc => first | size_fits | (simp only [List.length_nil, List.length_cons]; rw [sizeLine_eq]; omega)); k_whole); intro hqZn FqZn NqZn; (try k_sweep)))
  k_with "subscriptTail" => ((k_here; (with_reducible show wpAny _ _ (subscriptTail _ _ (Value.ref _) (Value.int _ _)) _ _ _); k_dflt (refine' Mine.accK_item ?k1Zc ?k2Zc ?k3Zc ?k4Zc ?k5Zc ?k6Zc ?k7Zc ?k8Zc ?k9Zc ?k10Zc ?k11Zc ?_ ?k12Zc; (case k1Zc => k_asm); (case k2Zc => k_asm); (case k3Zc => k_asm); (case k4Zc => k_mem); (case k5Zc => k_mem); (case k6Zc => k_is); (case k7Zc => k_is); (case k8Zc => k_is); (case k9Zc => omega); (case k10Zc => omega); (case k11Zc => first | assumption | rfl); (case k12Zc => with_unfolding_all rfl); k_whole)))
  k_with "mine enter" => ((refine' code_def ?k1Zc ?k2Zc ?k3Zc ?k4Zc ?k5Zc ?kAZc ?kFZc ?kKZc ?k6Zc ?k7Zc ?k8Zc ?k9Zc ?kBZc ?_ ?c2Zc ?c3Zc ?c4Zc ?c5Zc; (case kAZc => exact rfl); (case kFZc => exact rfl); (case kKZc => assumption); (case k1Zc => k_asm); (case k2Zc => k_asm); (case k3Zc => k_asm); (case k4Zc => k_asm); (case k5Zc => k_asm); (case k6Zc => k_is); (case k7Zc => k_is); (case k8Zc => ktr_room); (case k9Zc => first | exact BindsTo.of_eq rfl | exact binds_K (by k_in) rfl (by k_is) rfl rfl rfl); (case c5Zc => decide); (case kBZc => exact locs rfl); (case c2Zc => exact rfl); (case c3Zc => exact rfl); (case c4Zc => exact rfl); k_whole; intro gqZn LqZn hqZn FGqZn FqZn NqZn BqZn XqZn TqZn; (try dsimp only); (try k_lift BqZn); (try k_fold)))
  k_with "mine sub" => (first | exact fun _ h => h | (refine' List.forall_mem_cons.mpr ⟨?maZc, ?mbZc⟩; (case maZc => k_mem); (case mbZc => walk_at "mine sub")) | (intro pZn hpZn; (repeat' first | exact hpZn | apply List.Mem.tail)))
  k_with "mine news" => (first | k_asm | (refine' cb_drop ?cbNZc ?cbSZc; (case cbNZc => assumption); (case cbSZc => walk_at "mine sub")))
  k_with "mine senter" => ((refine' ks_code_super ?k1Zc ?k2Zc ?k3Zc ?k4Zc ?k5Zc ?kAZc ?kFZc ?kKZc ?k6Zc ?k7Zc ?k8Zc ?k9Zc ?kBZc ?_ ?c1Zc ?c2Zc ?c3Zc ?c4Zc; (case kAZc => exact rfl); (case kFZc => exact rfl); (case kKZc => assumption); (case k1Zc => k_asm); (case k2Zc => k_asm); (case k3Zc => k_asm); (case k4Zc => k_asm); (case k5Zc => k_asm); (case k6Zc => k_is); (case k7Zc => k_is); (case k8Zc => ktr_room); (case k9Zc => first | exact BindsTo.of_eq rfl | exact binds_K (by k_in) rfl (by k_is) rfl rfl rfl); (case kBZc => exact locs rfl); (case c1Zc => decide); (case c2Zc => exact rfl); (case c3Zc => exact rfl); (case c4Zc => exact rfl); intro gqZn LqZn hqZn FGqZn FqZn NqZn BqZn XqZn TqZn l1Zn; (try k_lt l1Zn); (try dsimp only); (try k_lift BqZn)))
  k_with "wpAt" => ((ks_step "attributeBase Call"; k_here; k_dflt (refine ks_node (by k_asm) (by k_asm) (by k_asm) (by k_asm) (by k_is) (by rfl) (by rfl) (Mine.accI (by k_asm) (by k_mem) (by k_mem)) (by k_is) (by rfl) (by first | rfl | decide +kernel) (by k_is) (by k_is) (by k_is) (by k_is) (by decide) (by rfl) (by rfl) (by rfl) (by rfl) (by decide +kernel) (by first | boot_by_name | rfl | kernel_rfl) ?_; intro soqZn hqZn FqZn NqZn l1Zn; (try k_lt l1Zn))))
  k_with "getMethod ref" => ((k_here; k_dflt (first | ((with_reducible show wpAny _ _ (getMethod (Value.ref _) (PySem.Str.ofString "pop") _) _ _ _); refine' Mine.accK_supPop ?k1Zc ?k2Zc ?k3Zc ?k4Zc ?k5Zc ?k6Zc ?k7Zc ?k8Zc ?k9Zc ?k10Zc ?_; (case k1Zc => k_asm); (case k2Zc => k_asm); (case k3Zc => k_asm); (case k4Zc => k_mem); (case k5Zc => k_mem); (case k6Zc => k_mem); (case k7Zc => k_is); (case k8Zc => k_is); (case k9Zc => ks_is); (case k10Zc => k_is); intro qqZn hqZn FqZn NqZn l1Zn; (try k_lt l1Zn)) | ((with_reducible show wpAny _ _ (getMethod (Value.ref _) (PySem.Str.ofString "__len__") _) _ _ _); refine' Mine.accK_supLen ?k1Zc ?k2Zc ?k3Zc ?k4Zc ?k5Zc ?k6Zc ?k7Zc ?k8Zc ?k9Zc ?k10Zc ?_; (case k1Zc => k_asm); (case k2Zc => k_asm); (case k3Zc => k_asm); (case k4Zc => k_mem); (case k5Zc => k_mem); (case k6Zc => k_mem); (case k7Zc => k_is); (case k8Zc => k_is); (case k9Zc => ks_is); (case k10Zc => k_is); intro qqZn hqZn FqZn NqZn l1Zn; (try k_lt l1Zn)) | ((with_reducible show wpAny _ _ (getMethod (Value.ref _) (PySem.Str.ofString "__init__") _) _ _ _); refine' Mine.accK_supInit ?k1Zc ?k2Zc ?k3Zc ?k4Zc ?k5Zc ?k6Zc ?k7Zc ?k8Zc ?k9Zc ?k10Zc ?_; (case k1Zc => k_asm); (case k2Zc => k_asm); (case k3Zc => k_asm); (case k4Zc => k_mem); (case k5Zc => k_mem); (case k6Zc => k_mem); (case k7Zc => k_is); (case k8Zc => k_is); (case k9Zc => ks_is); (case k10Zc => k_is); intro qqZn hqZn FqZn NqZn l1Zn; (try k_lt l1Zn)))))
  k_with "callWith ref" => ((k_here; (with_reducible show wpAny _ _ (callWith _ (Value.ref _) [] (backTo _ (starEach [] _)) []) _ _ _); k_dflt (first | (refine' Mine.callLen ?k1Zc ?k2Zc ?k3Zc ?_; (case k1Zc => k_asm); (case k2Zc => k_mem); (case k3Zc => k_mem); k_whole) | (refine' Mine.callInit ?k0Zc ?k1Zc ?k2Zc ?k3Zc ?k4Zc ?_; (case k0Zc => k_asm); (case k1Zc => k_asm); (case k2Zc => k_mem); (case k3Zc => k_upd); (case k4Zc => first | size_fits | (rw [sizeLine_eq]; omega) | (rw [sizeLine_eq]; exact Nat.le_of_ble_eq_true rfl)); k_whole; intro hqZn FqZn NqZn; (try k_sweep)) | (refine' Mine.callPop ?k0Zc ?kXZc ?k1Zc ?k2Zc ?k3Zc ?k4Zc ?k5Zc ?k6Zc ?k7Zc ?k8Zc ?k9Zc ?k10Zc ?_; (case k0Zc => k_asm); (case kXZc => k_asm); (case k1Zc => k_asm); (case k2Zc => k_mem); (case k8Zc => first | assumption | rfl); (case k9Zc => k_upd); (case k3Zc => k_mem); (case k4Zc => k_is); (case k5Zc => k_is); (case k6Zc => rfl); (case k7Zc => k_is); (case k10Zc => rw [sizeLine_eq]; simp at *; omega); k_whole; intro hqZn FqZn NqZn; (try k_sweep)))))
  k_with "wpAt" => ((dsimp only; ks_step "execs cons"; refine ks_wpAt_execs_cons ?_))
  k_with "wpAt" => ((ks_step "eval Call"; k_dflt (refine ks_wpAt_MethodCall ?_)))
  k_with "mine os" => (first | rfl | assumption | (simp only [*]; done))
  k_with "wpAt" => ((ks_step "exec Expr"; k_dflt (refine ks_wpAt_Expr_any ?_)))
  k_with "mine upto" => (repeat' ((fail_if_success (with_reducible show wpAny _ _ (exec (Stmt.For _ _ _ _ _) _) _ _ _)); first | (k_unfold; (try dsimp only)) | (k_end; wrow_close) | walk1 | (dsimp only; walk1) | (leave1; try dsimp only)))
  k_with "mine center" => ((refine' code_defC ?k1Zc ?k2Zc ?k3Zc ?k4Zc ?k5Zc ?kAZc ?kFZc ?kKZc ?k6Zc ?k7Zc ?k8Zc ?k9Zc ?kBZc ?kDZc ?_ ?c2Zc ?c3Zc ?c4Zc; (case kAZc => exact rfl); (case kFZc => exact rfl); (case kKZc => assumption); (case k1Zc => k_asm); (case k2Zc => k_asm); (case k3Zc => k_asm); (case k4Zc => k_asm); (case k5Zc => k_asm); (case k6Zc => k_is); (case k7Zc => k_is); (case k8Zc => ktr_room); (case k9Zc => first | exact BindsTo.of_eq rfl | exact binds_K (by k_in) rfl (by k_is) rfl rfl rfl); (case kBZc => exact rfl); (case kDZc => decide +kernel); (case c2Zc => exact rfl); (case c3Zc => exact rfl); (case c4Zc => exact rfl); k_whole; intro gqZn LqZn hqZn tkqZn cellsqZn FGqZn FqZn NqZn YqZn BqZn XqZn TqZn l1Zn; (try k_lt l1Zn); k_cells YqZn; (try simp only [List.cons_append, List.nil_append] at NqZn); (try dsimp only); (try k_lift BqZn); (try k_fold)))
  k_with "mine bare" => (first | assumption | (simp only [*]; done))
  k_with "eval Dict" => ((k_here; (with_reducible show wpAny _ _ (eval (Expr.Dict [some (Expr.Name _ _)] _ _) _) _ _ _); k_dflt (refine' kdn_eval (knd := PySem.intKind _ _) ?FZc ?NZc ?bZc ?aZc ?lZc ?eZc ?nZc ?_; (case FZc => k_asm); (case NZc => k_asm); (case bZc => exact Top.nolimit (by k_asm)); (case aZc => rfl); (case lZc => rfl); (case eZc => exact List.cons_ne_nil _ _); (case nZc => exact Nat.le_of_ble_eq_true rfl)); intro dqZn hqZn oqZn FqZn NqZn l1Zn loqZn hdqZn; (try k_lt l1Zn)))
  k_with "call ref" => ((k_here; (with_reducible show wpAny _ _ (call (Value.ref 196) [Value.float _ _, Value.float _ _, Value.float _ _]) _ _ _); k_dflt (refine' Mine.con_v ?k1Zc ?k2Zc ?k3Zc ?k4Zc ?k5Zc ?k6Zc ?k7Zc ?k8Zc ?_; (case k1Zc => k_asm); (case k2Zc => k_asm); (case k3Zc => k_asm); (case k4Zc => k_asm); (case k5Zc => k_asm); (case k6Zc => first | exact rfl | assumption); (case k7Zc => ktr_room); (case k8Zc => ktr_units); k_whole); intro hqZn tkqZn tqZn FqZn NqZn))
  k_with "call builtin:max" => ((k_here; (with_reducible show wpAny _ _ (call (Value.builtin _) [Value.float _ _, Value.float _ _, Value.float _ _]) _ _ _); k_dflt (refine' Mine.max3_ff ?hhZc ?FZc ?NZc ?_; (case hhZc => exact rfl); (case FZc => k_asm); (case NZc => k_asm); k_whole); intro hqZn tkqZn tqZn FqZn NqZn))
  k_with "call builtin:min" => ((k_here; (with_reducible show wpAny _ _ (call (Value.builtin _) [Value.float _ _, Value.float _ _, Value.float _ _]) _ _ _); k_dflt (refine' Mine.min3_ff ?hhZc ?FZc ?NZc ?_; (case hhZc => exact rfl); (case FZc => k_asm); (case NZc => k_asm); k_whole); intro hqZn tkqZn tqZn FqZn NqZn))
  trivial
theorem Mine.rstCH : True := by w_top off; trivial
namespace Mine
abbrev tupF (a b c : UInt64) (t1 t2 t3 : Tok) : Obj := { cls := .type "tuple", data := .seq #[.float a t1, .float b t2, .float c t3] }
theorem con_hls {b1 b2 b3 : UInt64} {t1 t2 t3 : Tok} {p : Program} {loose : List Str} {mean : ExcName → Option Value} {mg mb : Str → Option Value} {w : World} {dp un : Nat} {gd : Option (List Code)} {cn : Str} {cs : Scope} {ca : Addr} {ccd : Value} {cl : List (Str × Addr)} {outer : List Env} {A₀ : Around} {base h₀ : Heap} {L : Addr} {m : Str → Option Value} {s : Shared} {Q E : Value → Shared → Prop} {rest : List (Addr × Obj)}
  (B : Below A₀ base outer h₀) (F : Fr h₀ L s.heap m) (X : (hd.heap_1 w.params).In h₀) (N : News h₀ L s.heap (rest)) (T : Top p loose mean mg mb h₀) (hk : cs.kind = .function) (hd' : dp + 7 < recursionLimit) (hu : un + 8 * 11 < cLine)
  (hs : (Float64.cmp b3 0 == some Ordering.eq) = false)
  (ret : ∀ h' tk tu u1 u2 u3, Fr h₀ L h' m → News h₀ L h' ((tu, tupF (vF (m1F b2 b3) (m2F b2 b3) (Float64.add b1 4599676419421066581)) (vF (m1F b2 b3) (m2F b2 b3) b1) (vF (m1F b2 b3) (m2F b2 b3) (Float64.sub b1 4599676419421066581)) u1 u2 u3) :: rest) → (∀ p ∈ rest, @LT.lt Nat _ p.1 tu) → Q (.ref tu) { s with heap := h', toks := tk }) :
  wpAny (model Challenge.rw_wo0053_01.row.prog w) (ktrTop dp un gd cn cs L ca ccd cl outer) (call (.ref 189) [.float b1 t1, .float b2 t2, .float b3 t3]) Q E s := by
  revert X; k_fill; intro X
  unfold m1F m2F at ret
  refine wpAny_call ?_
  k_dflt (walk_at "mine enter")
  k_steps
  all_goals (rename (_ || _) = _ => hc; simp only [hc, if_true, Bool.false_eq_true, if_false] at ret; exact ret _ _ _ _ _ _ (by k_asm) (by k_asm) (by assumption))
end Mine

theorem Mine.rstCR : True := by w_top off; trivial
namespace Mine
theorem con_hsv {b1 b2 b3 : UInt64} {t1 t2 t3 : Tok} {p : Program} {loose : List Str} {mean : ExcName → Option Value} {mg mb : Str → Option Value} {w : World} {dp un : Nat} {gd : Option (List Code)} {cn : Str} {cs : Scope} {ca : Addr} {ccd : Value} {cl : List (Str × Addr)} {outer : List Env} {A₀ : Around} {base h₀ : Heap} {L : Addr} {m : Str → Option Value} {s : Shared} {Q E : Value → Shared → Prop} {rest : List (Addr × Obj)}
  (B : Below A₀ base outer h₀) (F : Fr h₀ L s.heap m) (X : (hd.heap_1 w.params).In h₀) (N : News h₀ L s.heap (rest)) (T : Top p loose mean mg mb h₀) (hk : cs.kind = .function) (hd' : dp + 7 < recursionLimit) (hu : un + 8 * 11 < cLine)
  (h1 : (Float64.cmp (mn3 b1 b2 b3) (mx3 b1 b2 b3) == some Ordering.eq) = false) (h2 : ¬Float64.isZero (mx3 b1 b2 b3) = true) (h3 : ¬Float64.isZero (Float64.sub (mx3 b1 b2 b3) (mn3 b1 b2 b3)) = true)
  (ret : ∀ h' tk tu x2 x3 u1 u2 u3, Fr h₀ L h' m → News h₀ L h' ((tu, tupF (hueF b1 b2 b3) x2 x3 u1 u2 u3) :: rest) → (∀ p ∈ rest, @LT.lt Nat _ p.1 tu) → Q (.ref tu) { s with heap := h', toks := tk }) :
  wpAny (model Challenge.rw_wo0053_01.row.prog w) (ktrTop dp un gd cn cs L ca ccd cl outer) (call (.ref 203) [.float b1 t1, .float b2 t2, .float b3 t3]) Q E s := by
  revert X; k_fill; intro X
  unfold hueF hueH offF rngF at ret
  refine wpAny_call ?_
  k_dflt (walk_at "mine enter")
  k_steps
  · rename (Float64.cmp b1 _ == some _) = _ => hc
    simp only [hc, if_true] at ret
    exact ret _ _ _ _ _ _ _ _ (by k_asm) (by k_asm) (by assumption)
  · rename (Float64.cmp b1 _ == some _) = _ => hc
    rename (Float64.cmp b2 _ == some _) = _ => hc2
    simp only [hc, hc2, Bool.false_eq_true, if_false, if_true] at ret
    exact ret _ _ _ _ _ _ _ _ (by k_asm) (by k_asm) (by assumption)
  · rename (Float64.cmp b1 _ == some _) = _ => hc
    rename (Float64.cmp b2 _ == some _) = _ => hc2
    simp only [hc, hc2, Bool.false_eq_true, if_false, if_true] at ret
    exact ret _ _ _ _ _ _ _ _ (by k_asm) (by k_asm) (by assumption)
end Mine

theorem Mine.rstCS : True := by w_top off; trivial
namespace Mine
theorem over_small {z : Int} (h0 : 0 ≤ z) (h1 : z ≤ 1000) : ¬ Flt.Over z := by
  unfold Flt.Over
  have e : (1000 : Nat) < 2 ^ 1024 - 2 ^ 970 := by decide +kernel
  omega
theorem fi_nan {x : UInt64} (h : Fi x) : ¬ Float64.isNaN x = true := by
  obtain ⟨a, m, e, h⟩ := h
  unfold Float64.isNaN
  rw [h]
  exact Bool.false_ne_true
theorem fi_inf {x : UInt64} (h : Fi x) : ¬ Float64.isInf x = true := by
  obtain ⟨a, m, e, h⟩ := h
  unfold Float64.isInf
  rw [h]
  exact Bool.false_ne_true
theorem con_stop {a n wd : Int} {ta tn tw : Tok} {p : Program} {loose : List Str} {mean : ExcName → Option Value} {mg mb : Str → Option Value} {w : World} {dp un : Nat} {gd : Option (List Code)} {cn : Str} {cs : Scope} {ca : Addr} {ccd : Value} {cl : List (Str × Addr)} {outer : List Env} {A₀ : Around} {base h₀ : Heap} {L : Addr} {m : Str → Option Value} {s : Shared} {Q E : Value → Shared → Prop} {rest : List (Addr × Obj)}
  (B : Below A₀ base outer h₀) (F : Fr h₀ L s.heap m) (X : (hd.heap_1 w.params).In h₀) (N : News h₀ L s.heap (rest)) (T : Top p loose mean mg mb h₀) (hk : cs.kind = .function) (hd' : dp + 8 < recursionLimit) (hu : un + 8 * 12 < cLine)
  (h0 : 0 ≤ a) (h1 : a < 2 * wd) (h2 : 12 ≤ wd) (h3 : wd ≤ 30) (h4 : 0 ≤ n) (h5 : n < 1000000)
  (ret : ∀ h' tk t, Fr h₀ L h' m → News h₀ L h' rest → Q (.int (Int.fmod a wd) t) { s with heap := h', toks := tk }) :
  wpAny (model Challenge.rw_wo0053_01.row.prog w) (ktrTop dp un gd cn cs L ca ccd cl outer) (call (.ref 231) [.int a ta, .int n tn, .int wd tw]) Q E s := by
  have b1 := Int.fmod_nonneg_of_pos (n.fdiv 9) (show (0 : Int) < 15 by decide)
  have b2 := Int.fmod_lt_of_pos (n.fdiv 9) (show (0 : Int) < 15 by decide)
  have b3 := Int.fmod_nonneg_of_pos (n.fdiv 135) (show (0 : Int) < 4 by decide)
  have b4 := Int.fmod_lt_of_pos (n.fdiv 135) (show (0 : Int) < 4 by decide)
  have o1 : ¬ Flt.Over ((n.fdiv 9).fmod 15 + 1) := over_small (by omega) (by omega)
  have o2 : ¬ Flt.Over ((n.fdiv 135).fmod 4 + 1) := over_small (by omega) (by omega)
  have o3 : ¬ Flt.Over wd := over_small (by omega) (by omega)
  have hq := (shade_of (i := (n.fdiv 9).fmod 15 + 1) (j := (n.fdiv 135).fmod 4 + 1) (by omega) (by omega) (by omega) (by omega)).2
  obtain ⟨p1, p2, p3⟩ := stop_pre (a := a) (w := wd) (i := (n.fdiv 9).fmod 15 + 1) (j := (n.fdiv 135).fmod 4 + 1) h0 h1 h2 h3 (by omega) (by omega) (by omega) (by omega) rfl rfl rfl rfl
  obtain ⟨s1, s2, s3, s4⟩ := stop_spec (a := a) (w := wd) (i := (n.fdiv 9).fmod 15 + 1) (j := (n.fdiv 135).fmod 4 + 1) h0 h1 h2 h3 (by omega) (by omega) (by omega) (by omega)
  have sN := fi_nan s1
  have sI := fi_inf s1
  revert X; k_fill; intro X
  refine wpAny_call ?_
  k_dflt (walk_at "mine enter")
  k_steps
  k_here
  k_dflt (refine' Mine.con_hls ?k1 ?k2 ?k3 ?k4 ?k5 ?k6 ?k7 ?k8 ?kq ?_; (case k1 => k_asm); (case k2 => k_asm); (case k3 => k_asm); (case k4 => k_asm); (case k5 => k_asm); (case k6 => first | exact rfl | assumption); (case k7 => ktr_room); (case k8 => ktr_units); (case kq => exact hq); k_whole)
  intro h6 tk6 tu u1 u2 u3 F6 N6 l6
  (try k_lt l6)
  k_steps
  k_here
  k_dflt (refine' Mine.con_hsv ?k1 ?k2 ?k3 ?k4 ?k5 ?k6 ?k7 ?k8 p1 p2 p3 ?_; (case k1 => k_asm); (case k2 => k_asm); (case k3 => k_asm); (case k4 => k_asm); (case k5 => k_asm); (case k6 => first | exact rfl | assumption); (case k7 => ktr_room); (case k8 => ktr_units); k_whole)
  intro h7 tk7 tv x2 x3 v1 v2 v3 F7 N7 l7
  have hlt : @LT.lt Nat _ tu tv := l7 _ (.head _)
  k_steps
  · rename Float64.isNaN _ = true => hc
    exact absurd hc sN
  · rename Float64.isInf _ = true => hc
    exact absurd hc sI
  · have r := fun tk t => ret h7 tk t (by k_asm) (by walk_at "mine news")
    simp only [← s2] at r
    exact r _ _
end Mine

end
section
theorem Mine.regF14 : True := by
  k_with_none
  k_with "own kne" => ((refine neN ?_; (try dsimp only); walk_at "mine apart"))
  k_with "own ktrroom" => (((try simp only [depth_under_make, depth_under_kw, depth_in1, depth_deeper, depth_caller]); (try dsimp only [ktrTop]); walk_at "mine near"))
  k_with "own ktrunits" => (((try simp only [units_in1, units_deeper, Around.mark_units, units_caller]); (try dsimp only [ktrTop]); walk_at "mine near"))
  k_with "mine near" => (((try simp only [Nat.add_assoc]); first | exact Mine.roomOf ‹_› (by decide) | exact Mine.roomOf0 ‹_› | decide))
  k_with "mine apart" => (first | assumption | exact Ne.symm ‹_› | exact Nat.ne_of_lt ‹_› | exact Nat.ne_of_gt ‹_› | exact Nat.ne_of_lt (Mine.A0 ‹_›) | exact Nat.ne_of_gt (Mine.A0 ‹_›) | exact Mine.A0 ‹_› | exact Ne.symm (Mine.A0 ‹_›) | exact Nat.ne_of_lt (Mine.A1 ‹_›) | exact Nat.ne_of_gt (Mine.A1 ‹_›) | exact Mine.A1 ‹_› | exact Ne.symm (Mine.A1 ‹_›) | exact Nat.ne_of_lt (Mine.A2 ‹_›) | exact Nat.ne_of_gt (Mine.A2 ‹_›) | exact Mine.A2 ‹_› | exact Ne.symm (Mine.A2 ‹_›) | exact Nat.ne_of_lt (Mine.A3 ‹_›) | exact Nat.ne_of_gt (Mine.A3 ‹_›) | exact Mine.A3 ‹_› | exact Ne.symm (Mine.A3 ‹_›) | exact Nat.ne_of_lt (Mine.A4 ‹_›) | exact Nat.ne_of_gt (Mine.A4 ‹_›) | exact Mine.A4 ‹_› | exact Ne.symm (Mine.A4 ‹_›) | exact Nat.ne_of_lt (Mine.A5 ‹_›) | exact Nat.ne_of_gt (Mine.A5 ‹_›) | exact Mine.A5 ‹_› | exact Ne.symm (Mine.A5 ‹_›) | exact Nat.ne_of_lt (Mine.A6 ‹_›) | exact Nat.ne_of_gt (Mine.A6 ‹_›) | exact Mine.A6 ‹_› | exact Ne.symm (Mine.A6 ‹_›) | exact Nat.ne_of_lt (Mine.A7 ‹_›) | exact Nat.ne_of_gt (Mine.A7 ‹_›) | exact Mine.A7 ‹_› | exact Ne.symm (Mine.A7 ‹_›) | exact Nat.ne_of_lt (Mine.A8 ‹_›) | exact Nat.ne_of_gt (Mine.A8 ‹_›) | exact Mine.A8 ‹_› | exact Ne.symm (Mine.A8 ‹_›) | exact Nat.ne_of_lt (Mine.A9 ‹_›) | exact Nat.ne_of_gt (Mine.A9 ‹_›) | exact Mine.A9 ‹_› | exact Ne.symm (Mine.A9 ‹_›) | exact Nat.ne_of_lt (Mine.A10 ‹_›) | exact Nat.ne_of_gt (Mine.A10 ‹_›) | exact Mine.A10 ‹_› | exact Ne.symm (Mine.A10 ‹_›) | decide | omega)
  k_with "getMethod ref" => ((k_here; k_dflt (refine' Mine.accK_method ?k1Zc ?k2Zc ?k3Zc ?k4Zc ?k5Zc ?k6Zc ?k7Zc ?k8Zc ?k9Zc ?k10Zc ?k11Zc ?_; (case k1Zc => k_asm); (case k2Zc => k_asm); (case k3Zc => k_asm); (case k4Zc => k_mem); (case k5Zc => k_mem); (case k6Zc => k_is); (case k7Zc => k_is); (case k8Zc => k_is); (case k9Zc => k_is); (case k10Zc => decide); (case k11Zc => k_get); k_whole)))
  k_with "call builtin:list.append" => ((k_here; (with_reducible show wpAny _ _ (call (Value.builtin _) [Value.ref _, _]) _ _ _); k_dflt (refine' Mine.accK_append ?k1Zc ?k2Zc ?k3Zc ?k4Zc ?k5Zc ?k6Zc ?_ ?zZc; (case k1Zc => k_asm); (case k2Zc => k_asm); (case k3Zc => k_asm); (case k6Zc => k_upd); (case k4Zc => k_mem); (case k5Zc => k_is); (case zZc => first | size_fits | (rw [sizeLine_eq]; omega)); k_whole); intro hqZn FqZn NqZn; (try k_sweep)))
  k_with "getAttr ref" => ((k_here; k_dflt (refine' Mine.accK_get ?k1Zc ?k2Zc ?k3Zc ?k4Zc ?k5Zc ?k6Zc ?k7Zc ?k8Zc ?k9Zc ?k10Zc ?k11Zc ?k12Zc ?k13Zc ?_; (case k1Zc => k_asm); (case k2Zc => k_asm); (case k3Zc => k_asm); (case k4Zc => k_mem); (case k5Zc => k_mem); (case k6Zc => k_is); (case k7Zc => k_is); (case k8Zc => k_is); (case k9Zc => k_is); (case k10Zc => k_is); (case k11Zc => k_is); (case k12Zc => k_get); (case k13Zc => k_handed); k_whole)))
  k_with "setAttr ref" => ((k_here; k_dflt (refine' Mine.accK_set ?k1Zc ?k2Zc ?k3Zc ?k4Zc ?k5Zc ?k6Zc ?k7Zc ?k8Zc ?k9Zc ?k10Zc ?k11Zc ?k12Zc ?k13Zc ?k14Zc ?_; (case k1Zc => k_asm); (case k2Zc => k_asm); (case k3Zc => k_asm); (case k4Zc => k_mem); (case k5Zc => k_mem); (case k6Zc => k_is); (case k7Zc => k_is); (case k8Zc => rfl); (case k9Zc => rfl); (case k10Zc => k_is); (case k11Zc => k_get); (case k12Zc => k_put); (case k13Zc => k_upd); (case k14Zc => exact Nat.le_of_ble_eq_true rfl); k_whole); intro hqZn FqZn NqZn; (try k_sweep)))
  k_with "call builtin:len" => ((k_here; (with_reducible show wpAny _ _ (call (Value.builtin "len") [Value.ref _]) _ _ _); k_dflt (refine' Mine.accK_len ?k1Zc ?k2Zc ?k3Zc ?k4Zc ?k5Zc ?k6Zc ?k7Zc ?_; (case k1Zc => k_asm); (case k2Zc => k_asm); (case k3Zc => k_asm); (case k4Zc => k_mem); (case k5Zc => k_mem); (case k6Zc => k_is); (case k7Zc => k_is); k_whole)))
  k_with "subscriptTail" => ((k_here; (with_reducible show wpAny _ _ (subscriptTail _ _ (Value.ref _) (Value.ref _)) _ _ _); k_dflt (refine' Mine.accK_slice ?k1Zc ?k2Zc ?k3Zc ?k4Zc ?k5Zc ?k6Zc ?k7Zc ?k8Zc ?k9Zc ?k10Zc ?k11Zc ?zZc ?_ ?k12Zc; (case k1Zc => k_asm); (case k2Zc => k_asm); (case k3Zc => k_asm); (case k4Zc => k_mem); (case k5Zc => k_mem); (case k6Zc => k_is); (case k7Zc => k_is); (case k8Zc => k_is); (case k9Zc => first | exact .none | exact .int _ _); (case k10Zc => first | exact .none | exact .int _ _); (case k11Zc => exact Mine.accPick _ _); (case zZc => first | size_fits | (rw [sizeLine_eq]; omega)); (case k12Zc => intro slZn; with_unfolding_all rfl); k_whole); intro lqZn hqZn FqZn NqZn l1Zn; (try k_lt l1Zn); (try k_sweep)))
  k_with "setItem ref" => ((k_here; (with_reducible show wpAny _ _ (setItem (Value.ref _) (Value.ref _) (Value.ref _)) _ _ _); k_dflt (refine' Mine.accK_setSlice ?k1Zc ?k2Zc ?k3Zc ?k4Zc ?k5Zc ?k6Zc ?k7Zc ?k8Zc ?k10Zc ?k11Zc ?k12Zc ?k13Zc ?k14Zc ?zZc ?_; (case k1Zc => k_asm); (case k2Zc => k_asm); (case k3Zc => k_asm); (case k4Zc => k_mem); (case k5Zc => k_mem); (case k6Zc => k_is); (case k7Zc => k_is); (case k8Zc => k_is); (case k10Zc => k_mem); (case k11Zc => first | exact .none | exact .int _ _); (case k12Zc => first | exact .none | exact .int _ _); (case k13Zc => first | exact Mine.accB_all _ _ | exact Mine.accB_del _ _ (by assumption)); (case k14Zc => k_upd); (case zZc => first | size_fits | (simp only [List.length_nil, List.length_cons]; rw [sizeLine_eq]; omega)); k_whole); intro hqZn FqZn NqZn; (try k_sweep)))
  k_with "subscriptTail" => ((k_here; (with_reducible show wpAny _ _ (subscriptTail _ _ (Value.ref _) (Value.int _ _)) _ _ _); k_dflt (refine' Mine.accK_item ?k1Zc ?k2Zc ?k3Zc ?k4Zc ?k5Zc ?k6Zc ?k7Zc ?k8Zc ?k9Zc ?k10Zc ?k11Zc ?_ ?k12Zc; (case k1Zc => k_asm); (case k2Zc => k_asm); (case k3Zc => k_asm); (case k4Zc => k_mem); (case k5Zc => k_mem); (case k6Zc => k_is); (case k7Zc => k_is); (case k8Zc => k_is); (case k9Zc => omega); (case k10Zc => omega); (case k11Zc => first | assumption | rfl); (case k12Zc => with_unfolding_all rfl); k_whole)))
  k_with "mine enter" => ((refine' code_def ?k1Zc ?k2Zc ?k3Zc ?k4Zc ?k5Zc ?kAZc ?kFZc ?kKZc ?k6Zc ?k7Zc ?k8Zc ?k9Zc ?kBZc ?_ ?c2Zc ?c3Zc ?c4Zc ?c5Zc; (case kAZc => exact rfl); (case kFZc => exact rfl); (case kKZc => assumption); (case k1Zc => k_asm); (case k2Zc => k_asm); (case k3Zc => k_asm); (case k4Zc => k_asm); (case k5Zc => k_asm); (case k6Zc => k_is); (case k7Zc => k_is); (case k8Zc => ktr_room); (case k9Zc => first | exact BindsTo.of_eq rfl | exact binds_K (by k_in) rfl (by k_is) rfl rfl rfl); (case c5Zc => decide); (case kBZc => exact locs rfl); (case c2Zc => exact rfl); (case c3Zc => exact rfl); (case c4Zc => exact rfl); k_whole; intro gqZn LqZn hqZn FGqZn FqZn NqZn BqZn XqZn TqZn; (try dsimp only); (try k_lift BqZn); (try k_fold)))
  k_with "mine sub" => (first | exact fun _ h => h | (refine' List.forall_mem_cons.mpr ⟨?maZc, ?mbZc⟩; (case maZc => k_mem); (case mbZc => walk_at "mine sub")) | (intro pZn hpZn; (repeat' first | exact hpZn | apply List.Mem.tail)))
  k_with "mine news" => (first | k_asm | (refine' cb_drop ?cbNZc ?cbSZc; (case cbNZc => assumption); (case cbSZc => walk_at "mine sub")))
  k_with "mine senter" => ((refine' ks_code_super ?k1Zc ?k2Zc ?k3Zc ?k4Zc ?k5Zc ?kAZc ?kFZc ?kKZc ?k6Zc ?k7Zc ?k8Zc ?k9Zc ?kBZc ?_ ?c1Zc ?c2Zc ?c3Zc ?c4Zc; (case kAZc => exact rfl); (case kFZc => exact rfl); (case kKZc => assumption); (case k1Zc => k_asm); (case k2Zc => k_asm); (case k3Zc => k_asm); (case k4Zc => k_asm); (case k5Zc => k_asm); (case k6Zc => k_is); (case k7Zc => k_is); (case k8Zc => ktr_room); (case k9Zc => first | exact BindsTo.of_eq rfl | exact binds_K (by k_in) rfl (by k_is) rfl rfl rfl); (case kBZc => exact locs rfl); (case c1Zc => decide); (case c2Zc => exact rfl); (case c3Zc => exact rfl); (case c4Zc => exact rfl); intro gqZn LqZn hqZn FGqZn FqZn NqZn BqZn XqZn TqZn l1Zn; (try k_lt l1Zn); (try dsimp only); (try k_lift BqZn)))
  k_with "wpAt" => ((ks_step "attributeBase Call"; k_here; k_dflt (refine ks_node (by k_asm) (by k_asm) (by k_asm) (by k_asm) (by k_is) (by rfl) (by rfl) (Mine.accI (by k_asm) (by k_mem) (by k_mem)) (by k_is) (by rfl) (by first | rfl | decide +kernel) (by k_is) (by k_is) (by k_is) (by k_is) (by decide) (by rfl) (by rfl) (by rfl) (by rfl) (by decide +kernel) (by first | boot_by_name | rfl | kernel_rfl) ?_; intro soqZn hqZn FqZn NqZn l1Zn; (try k_lt l1Zn))))
  k_with "getMethod ref" => ((k_here; k_dflt (first | ((with_reducible show wpAny _ _ (getMethod (Value.ref _) (PySem.Str.ofString "pop") _) _ _ _); refine' Mine.accK_supPop ?k1Zc ?k2Zc ?k3Zc ?k4Zc ?k5Zc ?k6Zc ?k7Zc ?k8Zc ?k9Zc ?k10Zc ?_; (case k1Zc => k_asm); (case k2Zc => k_asm); (case k3Zc => k_asm); (case k4Zc => k_mem); (case k5Zc => k_mem); (case k6Zc => k_mem); (case k7Zc => k_is); (case k8Zc => k_is); (case k9Zc => ks_is); (case k10Zc => k_is); intro qqZn hqZn FqZn NqZn l1Zn; (try k_lt l1Zn)) | ((with_reducible show wpAny _ _ (getMethod (Value.ref _) (PySem.Str.ofString "__len__") _) _ _ _); refine' Mine.accK_supLen ?k1Zc ?k2Zc ?k3Zc ?k4Zc ?k5Zc ?k6Zc ?k7Zc ?k8Zc ?k9Zc ?k10Zc ?_; (case k1Zc => k_asm); (case k2Zc => k_asm); (case k3Zc => k_asm); (case k4Zc => k_mem); (case k5Zc => k_mem); (case k6Zc => k_mem); (case k7Zc => k_is); (case k8Zc => k_is); (case k9Zc => ks_is); (case k10Zc => k_is); intro qqZn hqZn FqZn NqZn l1Zn; (try k_lt l1Zn)) | ((with_reducible show wpAny _ _ (getMethod (Value.ref _) (PySem.Str.ofString "__init__") _) _ _ _); refine' Mine.accK_supInit ?k1Zc ?k2Zc ?k3Zc ?k4Zc ?k5Zc ?k6Zc ?k7Zc ?k8Zc ?k9Zc ?k10Zc ?_; (case k1Zc => k_asm); (case k2Zc => k_asm); (case k3Zc => k_asm); (case k4Zc => k_mem); (case k5Zc => k_mem); (case k6Zc => k_mem); (case k7Zc => k_is); (case k8Zc => k_is); (case k9Zc => ks_is); (case k10Zc => k_is); intro qqZn hqZn FqZn NqZn l1Zn; (try k_lt l1Zn)))))
  k_with "callWith ref" => ((k_here; (with_reducible show wpAny _ _ (callWith _ (Value.ref _) [] (backTo _ (starEach [] _)) []) _ _ _); k_dflt (first | (refine' Mine.callLen ?k1Zc ?k2Zc ?k3Zc ?_; (case k1Zc => k_asm); (case k2Zc => k_mem); (case k3Zc => k_mem); k_whole) | (refine' Mine.callInit ?k0Zc ?k1Zc ?k2Zc ?k3Zc ?k4Zc ?_; (case k0Zc => k_asm); (case k1Zc => k_asm); (case k2Zc => k_mem); (case k3Zc => k_upd); (case k4Zc => first | size_fits | (rw [sizeLine_eq]; omega) | (rw [sizeLine_eq]; exact Nat.le_of_ble_eq_true rfl)); k_whole; intro hqZn FqZn NqZn; (try k_sweep)) | (refine' Mine.callPop ?k0Zc ?kXZc ?k1Zc ?k2Zc ?k3Zc ?k4Zc ?k5Zc ?k6Zc ?k7Zc ?k8Zc ?k9Zc ?k10Zc ?_; (case k0Zc => k_asm); (case kXZc => k_asm); (case k1Zc => k_asm); (case k2Zc => k_mem); (case k8Zc => first | assumption | rfl); (case k9Zc => k_upd); (case k3Zc => k_mem); (case k4Zc => k_is); (case k5Zc => k_is); (case k6Zc => rfl); (case k7Zc => k_is); (case k10Zc => rw [sizeLine_eq]; simp at *; omega); k_whole; intro hqZn FqZn NqZn; (try k_sweep)))))
  k_with "wpAt" => ((dsimp only; ks_step "execs cons"; refine ks_wpAt_execs_cons ?_))
  k_with "wpAt" => ((ks_step "eval Call"; k_dflt (refine ks_wpAt_MethodCall ?_)))
  k_with "mine os" => (first | rfl | assumption | (simp only [*]; done))
  k_with "wpAt" => ((ks_step "exec Expr"; k_dflt (refine ks_wpAt_Expr_any ?_)))
  k_with "mine upto" => (repeat' ((fail_if_success (with_reducible show wpAny _ _ (exec (Stmt.For _ _ _ _ _) _) _ _ _)); first | (k_unfold; (try dsimp only)) | (k_end; wrow_close) | walk1 | (dsimp only; walk1) | (leave1; try dsimp only)))
  k_with "mine center" => ((refine' code_defC ?k1Zc ?k2Zc ?k3Zc ?k4Zc ?k5Zc ?kAZc ?kFZc ?kKZc ?k6Zc ?k7Zc ?k8Zc ?k9Zc ?kBZc ?kDZc ?_ ?c2Zc ?c3Zc ?c4Zc; (case kAZc => exact rfl); (case kFZc => exact rfl); (case kKZc => assumption); (case k1Zc => k_asm); (case k2Zc => k_asm); (case k3Zc => k_asm); (case k4Zc => k_asm); (case k5Zc => k_asm); (case k6Zc => k_is); (case k7Zc => k_is); (case k8Zc => ktr_room); (case k9Zc => first | exact BindsTo.of_eq rfl | exact binds_K (by k_in) rfl (by k_is) rfl rfl rfl); (case kBZc => exact rfl); (case kDZc => decide +kernel); (case c2Zc => exact rfl); (case c3Zc => exact rfl); (case c4Zc => exact rfl); k_whole; intro gqZn LqZn hqZn tkqZn cellsqZn FGqZn FqZn NqZn YqZn BqZn XqZn TqZn l1Zn; (try k_lt l1Zn); k_cells YqZn; (try simp only [List.cons_append, List.nil_append] at NqZn); (try dsimp only); (try k_lift BqZn); (try k_fold)))
  k_with "mine bare" => (first | assumption | (simp only [*]; done))
  k_with "eval Dict" => ((k_here; (with_reducible show wpAny _ _ (eval (Expr.Dict [some (Expr.Name _ _)] _ _) _) _ _ _); k_dflt (refine' kdn_eval (knd := PySem.intKind _ _) ?FZc ?NZc ?bZc ?aZc ?lZc ?eZc ?nZc ?_; (case FZc => k_asm); (case NZc => k_asm); (case bZc => exact Top.nolimit (by k_asm)); (case aZc => rfl); (case lZc => rfl); (case eZc => exact List.cons_ne_nil _ _); (case nZc => exact Nat.le_of_ble_eq_true rfl)); intro dqZn hqZn oqZn FqZn NqZn l1Zn loqZn hdqZn; (try k_lt l1Zn)))
  k_with "subscriptTail Name Slice ref ref" => ((k_here; (with_reducible show wpAny _ _ (subscriptTail _ (PySem.Expr.Slice _ _ none _) (Value.ref _) (Value.ref _)) _ _ _); k_dflt (refine' kmk_slice_lit ?FZc ?NZc ?lZc ?pZc ?qZc ?eZc ?_ ?sZc ?tZc ?zZc; (case FZc => k_asm); (case NZc => k_asm); (case lZc => kmk_list); (case pZc => kmk_part); (case qZc => kmk_part); (case eZc => first | exact Mine.strs_from (by omega) | exact Mine.strs_upto (by omega)); (case sZc => with_unfolding_all rfl); (case tZc => kmk_pure); (case zZc => exact Mine.strs_size (by omega))); intro DqZn hqZn FqZn NqZn l1Zn; (try k_lt l1Zn); (try k_sweep)))
  k_with "subscriptTail Name Slice ref ref" => ((k_here; (with_reducible show wpAny _ _ (subscriptTail _ (PySem.Expr.Slice none none (some _) _) (Value.ref _) (Value.ref _)) _ _ _); k_dflt (refine' krv_lit ?FZc ?NZc ?lZc ?kZc ?eZc ?_ ?sZc ?tZc ?zZc; (case FZc => k_asm); (case NZc => k_asm); (case lZc => kmk_list); (case kZc => exact IsPart.int _ _); (case eZc => exact Mine.strs_rev); (case sZc => with_unfolding_all rfl); (case tZc => kmk_pure); (case zZc => exact Mine.strs_size (by (try simp only [List.length_append, List.length_drop, List.length_take]); omega))); intro DqZn hqZn FqZn NqZn l1Zn; (try k_lt l1Zn); (try k_sweep)))
  k_with "binaryOp Add ref ref" => ((k_here; (with_reducible show wpAny _ _ (binaryOp _ (Value.ref _) (Value.ref _)) _ _ _); k_dflt (refine' kmk_add_lit ?FZc ?NZc ?aZc ?bZc ?eZc ?_ ?zZc; (case FZc => k_asm); (case NZc => k_asm); (case aZc => kmk_list); (case bZc => kmk_list); (case eZc => exact Mine.strs_add); (case zZc => exact Mine.strs_room (by (try simp only [List.length_append, List.length_drop, List.length_take]); omega))); intro DqZn hqZn FqZn NqZn l1Zn; (try k_lt l1Zn); (try k_sweep)))
  k_with "call builtin:list.append" => ((k_here; (with_reducible show wpAny _ _ (call (Value.builtin _) [Value.ref _, _]) _ _ _); k_dflt (refine' append_K ?k1Zc ?k2Zc ?k3Zc ?_ ?zZc; (case k1Zc => k_asm); (case k2Zc => k_asm); (case k3Zc => k_upd); (case zZc => (simp only [List.size_toArray]; rw [sizeLine_eq]; omega)); k_whole); intro hqZn FqZn NqZn; (try k_sweep)))
  k_with "subscriptTail Name UnaryOp ref int" => ((k_here; (with_reducible show wpAny _ _ (subscriptTail _ _ (Value.ref _) (Value.int _ _)) _ _ _); k_dflt (refine Mine.last_sub (News.isList (by k_asm) (by k_mem)) (by omega) ?_ (by with_unfolding_all rfl))))
  trivial
theorem Mine.rstLS : True := by w_top off; trivial
namespace Mine
theorem law_spot {p : Program} {loose : List Str} {mean : ExcName → Option Value} {mg mb m0 : Str → Option Value} {w : World} {h₀ : Heap} {L fa : Addr} {cdv : Value} {s : Shared} {Q : Flow → Shared → Prop} {E : Value → Shared → Prop} {rest : List (Addr × Obj)}
  {wd sd fd bd : Addr} {us : List (Str × Tok)} {zs fv bv : List Value} {S : List Int} {ks q0 q1 p0 p1 : List Nat} {qr pr : List (List Nat)} {i : Nat} {width wide : Int} {ti tw tW : Tok} {ps qs : Array Value} {oW : Obj}
  (B : Below callerA h₀ [] h₀) (X : (hd.heap_1 w.params).In h₀) (T : Top p loose mean mg mb h₀)
  (F : Fr h₀ L s.heap (fun y => if y = "spot" then some (.int (i : Int) ti) else if y = "words" then some (.ref wd) else if y = "stops" then some (.ref sd) else if y = "forth" then some (.ref fd) else if y = "back" then some (.ref bd) else if y = "width" then some (.int width tw) else m0 y))
  (N : News h₀ L s.heap ((140, tabO ps) :: (147, tabO qs) :: (wd, LCg.lst (strValues us)) :: (sd, LCg.lst zs) :: (fd, LCg.lst fv) :: (bd, LCg.lst bv) :: (L + 1 + 1, oW) :: rest))
  (dW : oW.data = Data.cell (some (.int wide tW)))
  (g1 : @Ne Nat wd 140 ∧ @Ne Nat wd 147) (g2 : @Ne Nat sd 140 ∧ @Ne Nat sd 147) (g3 : @LT.lt Nat _ 147 fd) (g4 : @LT.lt Nat _ 147 bd) (g5 : @LT.lt Nat _ 147 L) (gr : ∀ p ∈ rest, @LT.lt Nat _ 147 p.1)
  (n1 : @Ne Nat fd wd) (n2 : @Ne Nat fd sd) (n3 : @Ne Nat fd bd) (n4 : @Ne Nat bd wd) (n5 : @Ne Nat bd sd) (n6 : @Ne Nat fd (L + 1 + 1)) (n7 : @Ne Nat bd (L + 1 + 1)) (nr1 : ∀ p ∈ rest, p.1 ≠ fd) (nr2 : ∀ p ∈ rest, p.1 ≠ bd)
  (htr : TriplesOk ps.toList) (htr2 : TriplesOk qs.toList) (G : AllBare s.gens)
  (hfv : fv.length ≤ 6) (hbv : bv.length ≤ 6) (hus : us.map (·.1) = ks.map word) (hi : i < us.length) (hul : us.length ≤ 6) (hks : ∀ k ∈ ks, k ≤ 50) (hzs : IntsAre zs S) (hSl : S.length = us.length) (hSb : ∀ x ∈ S, 0 ≤ x ∧ x ≤ 100) (hw0 : 0 < wide) (hw1 : wide ≤ 100)
  (e0 : (q0.length : Int) = nearN S i 1 wide width) (e1 : (q0.length : Int) + (q1.length : Int) = nearN S i 1 wide width + nearN S (nextN S i 1 wide width) 1 wide width)
  (f0 : (p0.length : Int) = nearN S i (-1) wide width) (f1 : (p0.length : Int) + (p1.length : Int) = nearN S i (-1) wide width + nearN S (nextN S i (-1) wide width) (-1) wide width)
  (hr0 : rowsK width (ks.drop i ++ ks.take i) = q0 :: q1 :: qr) (hr1 : rowsK width (ks.drop i ++ ks.take i).reverse = p0 :: p1 :: pr)
  (ret : ∀ s' ps' qs' dA t t' u1 u2 u3 u4, Fr h₀ L s'.heap (fun y => if y = "around" then some (.ref dA) else if y = "spot" then some (.int (i : Int) ti) else if y = "words" then some (.ref wd) else if y = "stops" then some (.ref sd) else if y = "forth" then some (.ref fd) else if y = "back" then some (.ref bd) else if y = "width" then some (.int width tw) else m0 y) →
    News h₀ L s'.heap ((t, W.listOf #[Value.int (q0.length : Int) u1, Value.int ((q0.length : Int) + (q1.length : Int)) u2] 0) :: (t', W.listOf #[Value.int (p0.length : Int) u3, Value.int ((p0.length : Int) + (p1.length : Int)) u4] 0) :: (140, tabO ps') :: (147, tabO qs') :: (wd, LCg.lst (strValues us)) :: (sd, LCg.lst zs) :: (fd, LCg.lst (fv ++ [.ref t])) :: (bd, LCg.lst (bv ++ [.ref t'])) :: (L + 1 + 1, oW) :: rest) →
    TriplesOk ps'.toList → TriplesOk qs'.toList → AllBare s'.gens → s'.os = s.os → @LT.lt Nat _ 147 t → @LT.lt Nat _ 147 t' → (@LT.lt Nat _ wd t ∧ @LT.lt Nat _ sd t ∧ @LT.lt Nat _ fd t ∧ @LT.lt Nat _ bd t ∧ @LT.lt Nat _ (L + 1 + 1) t) → @LT.lt Nat _ t t' → (∀ p ∈ rest, @LT.lt Nat _ p.1 t) → Q .next s') :
  wpAny (model Challenge.rw_wo0053_01.row.prog w) (callerA.deeper (envOfC "law" lawScope L fa cdv)) (execs spotBody (envOfC "law" lawScope L fa cdv)) Q E s := by
  revert X; k_fill; intro X
  conv in spotBody => whnf
  conv in lawScope => whnf
  conv in lawScope => whnf
  iterate 37 (first | walk1 | (dsimp only; walk1))
  have hkl : us.length = ks.length := by have := congrArg List.length hus; simpa using this
  have gR : ∀ p ∈ (wd, LCg.lst (strValues us)) :: (sd, LCg.lst zs) :: (fd, LCg.lst fv) :: (bd, LCg.lst bv) :: (L + 1 + 1, oW) :: rest, @Ne Nat p.1 140 ∧ @Ne Nat p.1 147 := by
    simp only [List.forall_mem_cons]
    exact ⟨g1, g2, by lia, by lia, by lia, fun p hp => by have := gr p hp; lia⟩
  rename News _ _ _ _ => kN
  k_dflt (refine' Mine.con_counts (rest := (wd, LCg.lst (strValues us)) :: (sd, LCg.lst zs) :: (fd, LCg.lst fv) :: (bd, LCg.lst bv) :: (L + 1 + 1, oW) :: rest) ?k1 ?k2 ?k3 (Mine.spot_rot kN) ?k5 ?k6 ?k7 ?k8 ?r1 ?r2 ?r3 ?r4 htr htr2 ?G (Mine.rot_words hus) (Mine.rot_mem hks) ?l1 ?l2 hr0 ?_; (case k1 => exact B); (case k2 => k_asm); (case k3 => exact X); (case k5 => exact T); (case k6 => exact rfl); (case k7 => ktr_room); (case k8 => ktr_units); (case r1 => exact Mine.off140 gR); (case r2 => exact Mine.off147 gR); (case r3 => exact (show @Ne Nat _ _ by lia)); (case r4 => exact (show @Ne Nat _ _ by lia)); (case G => exact G); (case l1 => (simp only [List.length_append, List.length_drop, List.length_take]; lia)); (case l2 => (simp only [List.length_append, List.length_drop, List.length_take]; lia)))
  intro s2 t ps2 qs2 u1 u2 F2 N2 tr1 tr2 G2 os2 l1 l2 l3
  have l0 := l1
  k_lt l1
  iterate 27 (first | walk1 | (dsimp only; walk1))
  rename News _ _ _ _ => kM
  have gR2 : ∀ p ∈ (t, W.listOf #[Value.int (q0.length : Int) u1, Value.int ((q0.length : Int) + (q1.length : Int)) u2] 0) :: (wd, LCg.lst (strValues us)) :: (sd, LCg.lst zs) :: (fd, W.listOf (fv.toArray.push (Value.ref t)) (fv.length + 1)) :: (bd, LCg.lst bv) :: (L + 1 + 1, oW) :: rest, @Ne Nat p.1 140 ∧ @Ne Nat p.1 147 := by
    simp only [List.forall_mem_cons]
    exact ⟨by lia, g1, g2, by lia, by lia, by lia, fun p hp => by have := gr p hp; lia⟩
  k_dflt (refine' Mine.con_counts (rest := (t, W.listOf #[Value.int (q0.length : Int) u1, Value.int ((q0.length : Int) + (q1.length : Int)) u2] 0) :: (wd, LCg.lst (strValues us)) :: (sd, LCg.lst zs) :: (fd, W.listOf (fv.toArray.push (Value.ref t)) (fv.length + 1)) :: (bd, LCg.lst bv) :: (L + 1 + 1, oW) :: rest) ?k1 ?k2 ?k3 (Mine.spot_rot2 kM) ?k5 ?k6 ?k7 ?k8 ?r1 ?r2 ?r3 ?r4 tr1 tr2 ?G (Mine.rev_words hus) (Mine.rev_mem hks) ?l1 ?l2 hr1 ?_; (case k1 => exact B); (case k2 => k_asm); (case k3 => exact X); (case k5 => exact T); (case k6 => exact rfl); (case k7 => ktr_room); (case k8 => ktr_units); (case r1 => exact Mine.off140 gR2); (case r2 => exact Mine.off147 gR2); (case r3 => exact (show @Ne Nat _ _ by lia)); (case r4 => exact (show @Ne Nat _ _ by lia)); (case G => exact G2); (case l1 => (simp only [List.length_reverse, List.length_append, List.length_drop, List.length_take]; lia)); (case l2 => (simp only [List.length_reverse, List.length_append, List.length_drop, List.length_take]; lia)))
  intro s3 t' ps3 qs3 u3 u4 F3 N3 tr3 tr4 G3 os3 m1 m2 m3
  have m0' := m1
  k_lt m1
  iterate 27 (first | walk1 | (dsimp only; walk1))
  refine ⟨fun a o e => (Fr.keep (by assumption)) a o (X a o e), ?_⟩
  rename News _ _ _ _ => kP
  k_dflt (refine' Mine.con_told ?k1 ?k2 ?k3 (Mine.bring6 kP) ?k5 ?k6 ?k7 ?k8 hzs ?h1 ?h2 ?h3 (.inl rfl) hw0 hw1 hSb ?_; (case k1 => exact B); (case k2 => k_asm); (case k3 => exact X); (case k5 => exact T); (case k6 => exact rfl); (case k7 => ktr_room); (case k8 => ktr_units); (case h1 => lia); (case h2 => lia); (case h3 => lia))
  intro s4 t2 v1 v2 F4 N4 g4' os4 a1 a2
  rw [← e1, ← e0] at N4
  k_lt a1
  iterate 27 (first | walk1 | (dsimp only; walk1))
  refine ⟨fun a o e => (Fr.keep (by assumption)) a o (X a o e), ?_⟩
  rename News _ _ _ _ => kR
  k_dflt (refine' Mine.con_told ?k1 ?k2 ?k3 (Mine.bring1 kR) ?k5 ?k6 ?k7 ?k8 hzs ?h1 ?h2 ?h3 (.inr rfl) hw0 hw1 hSb ?_; (case k1 => exact B); (case k2 => k_asm); (case k3 => exact X); (case k5 => exact T); (case k6 => exact rfl); (case k7 => ktr_room); (case k8 => ktr_units); (case h1 => lia); (case h2 => lia); (case h3 => lia))
  intro s5 t3 w1 w2 F5 N5 g5' os5 b1 b2
  rw [← f1, ← f0] at N5
  k_lt b1
  k_steps
  rename Fr _ _ _ _ => F9
  refine ret _ ps3 qs3 _ t t' u1 u2 u3 u4 F9 ?_ tr3 tr4 ?_ ?_ l3 m3 ⟨l1.1, l1.2.1, l1.2.2.1, l1.2.2.2.1, l1.2.2.2.2.1⟩ m1.1 (fun p hp => l0 p (.tail _ (.tail _ (.tail _ (.tail _ (.tail _ hp))))))
  · rw [Mine.lst_push, Mine.lst_push]
    exact Mine.spot_end N5
  · rw [g5']; show AllBare s4.gens; rw [g4']; exact G3
  · rw [os5]; show s4.os = s.os; rw [os4]; show s3.os = s.os; rw [os3]; show s2.os = s.os; rw [os2]
end Mine

theorem Mine.rstLT : True := by w_top off; trivial
namespace Mine
theorem bring4 {h₀ h : Heap} {L : Addr} {a b c d x : Addr × Obj} {l : List (Addr × Obj)} (N : News h₀ L h (a :: b :: c :: d :: x :: l)) : News h₀ L h (x :: a :: b :: c :: d :: l) := fun p hp => N p (by
  revert p
  repeat' (first | exact List.forall_mem_nil _ | refine List.forall_mem_cons.mpr ⟨?_, ?_⟩ | exact .head _ | (intro p hp; first | exact hp | (repeat (first | exact hp | apply List.Mem.tail))) | apply List.Mem.tail))
theorem law_turn {p : Program} {loose : List Str} {mean : ExcName → Option Value} {mg mb m0 : Str → Option Value} {w : World} {h₀ : Heap} {L fa : Addr} {cdv : Value} {s : Shared} {Q : Flow → Shared → Prop} {E : Value → Shared → Prop} {rest : List (Addr × Obj)}
  {wd fd bd : Addr} {us : List (Str × Tok)} {fv bv : List Value} {xs ys : List Int} {turn : Int} {tt : Tok} {oT : Obj}
  (B : Below callerA h₀ [] h₀) (X : (hd.heap_1 w.params).In h₀) (T : Top p loose mean mg mb h₀)
  (F : Fr h₀ L s.heap (fun y => if y = "words" then some (.ref wd) else if y = "forth" then some (.ref fd) else if y = "back" then some (.ref bd) else m0 y))
  (N : News h₀ L s.heap ((wd, LCg.lst (strValues us)) :: (fd, LCg.lst fv) :: (bd, LCg.lst bv) :: (L + 1 + 1 + 1 + 1, oT) :: rest))
  (dT : oT.data = Data.cell (some (.int turn tt))) (hturn : turn = 0 ∨ turn = 1) (G : AllBare s.gens)
  (hfv : fv.length = us.length) (hbv : bv.length = us.length) (hul : us.length ≤ 6) (hxl : xs.length = us.length) (hxb : ∀ x ∈ xs, 0 ≤ x ∧ x ≤ 100)
  (hf : ∀ (j : Nat) v, fv[j]? = some v → ∃ a x y t u, v = .ref a ∧ (a, W.listOf #[Value.int x t, Value.int y u] 0) ∈ rest ∧ (if turn = 0 then x else y) = xs.getD j 0)
  (hyl : ys.length = us.length) (hyb : ∀ x ∈ ys, 0 ≤ x ∧ x ≤ 100)
  (hb : ∀ (j : Nat) v, bv[j]? = some v → ∃ a x y t u, v = .ref a ∧ (a, W.listOf #[Value.int x t, Value.int y u] 0) ∈ rest ∧ (if turn = 0 then x else y) = ys.getD j 0)
  (hsum : ys.sum = xs.sum) (hsq : (ys.map fun x => x * x).sum = (xs.map fun x => x * x).sum) (hsame : sameD (bumps xs) (bumps ys) = true) (hcnt : ((bumps xs).map (·.2)).sum = (us.length : Int))
  (ret : ∀ s' t D, Fr h₀ L s'.heap (fun y => if y = "book" then some (.ref t) else if y = "tallies" then some (.ref D) else if y = "words" then some (.ref wd) else if y = "forth" then some (.ref fd) else if y = "back" then some (.ref bd) else m0 y) →
    News h₀ L s'.heap ((wd, LCg.lst (strValues us)) :: (fd, LCg.lst fv) :: (bd, LCg.lst bv) :: (L + 1 + 1 + 1 + 1, oT) :: rest) → AllBare s'.gens → s'.os = s.os → Q .next s') :
  wpAny (model Challenge.rw_wo0053_01.row.prog w) (callerA.deeper (envOfC "law" lawScope L fa cdv)) (execs turnBody (envOfC "law" lawScope L fa cdv)) Q E s := by
  revert X; k_fill; intro X
  conv in turnBody => whnf
  conv in lawScope => whnf
  conv in lawScope => whnf
  iterate 3 (first | walk1 | (dsimp only; walk1))
  rename News _ _ _ _ => kN0
  refine LCg.CompSrc.ledger (by rfl) (by k_asm) kN0 (by k_mem) (by simp only [List.size_toArray]; rw [sizeLine_eq]; lia) ?_
  intro g0
  refine rest_ind (fun i ys nw => nw = _ ∧ IntsAre ys (xs.take i)) fv.toArray.size ?_ ?_ fv.toArray.size 0 [] _ (by lia) ⟨rfl, .nil⟩
  · rintro i ys nw v I oI C oC D m₂ h5 tk5 E5 hin ⟨rfl, hys⟩ hv hC hx F5 N5 off ne
    obtain ⟨a, x, y, t, u, rfl, hm, hxy⟩ := hf i v (by simpa using hv)
    have off0 := off
    simp only [LCg.Off3] at off
    iterate 3 (first | walk1 | (dsimp only; walk1))
    have hil : i < xs.length := by have := hin; simp only [List.size_toArray] at this; lia
    rcases hturn with rfl | rfl
    · k_dflt (refine Mine.idx_sub (x := .int x t) (PyProof.Rows.News.isList N5 (.tail _ (.tail _ (.tail _ (.tail _ (.tail _ (.tail _ (.tail _ hm)))))))) (by lia) (by lia) (by rfl) ?_ (by with_unfolding_all rfl))
      exact ⟨h5, _, _, rfl, F5, N5, off0, Or.inr ⟨LCg.lst fv, by k_mem, rfl, _, rfl⟩, rfl, Mine.xs_snoc hil (by simpa using hxy) hys⟩
    · k_dflt (refine Mine.idx_sub (x := .int y u) (PyProof.Rows.News.isList N5 (.tail _ (.tail _ (.tail _ (.tail _ (.tail _ (.tail _ (.tail _ hm)))))))) (by lia) (by lia) (by rfl) ?_ (by with_unfolding_all rfl))
      exact ⟨h5, _, _, rfl, F5, N5, off0, Or.inr ⟨LCg.lst fv, by k_mem, rfl, _, rfl⟩, rfl, Mine.xs_snoc hil (by simpa using hxy) hys⟩
  · rintro zs nw ⟨rfl, hzs⟩
    intro D h6 tk6 F6 N6 o6
    simp only [LCg.Off1, and_true] at o6
    rw [List.take_of_length_le (by simp only [List.size_toArray]; lia)] at hzs
    iterate 8 (first | walk1 | (dsimp only; walk1))
    refine ⟨fun a o e => (Fr.keep (by assumption)) a o (X a o e), ?_⟩
    rename News _ _ _ _ => kP
    k_dflt (refine' Mine.con_book (xs := xs) ?k1 ?k2 ?k3 kP ?k5 ?k6 ?k7 ?k8 hzs ?h1 hxb ?h2 ?_; (case k1 => exact B); (case k2 => k_asm); (case k3 => exact X); (case k5 => exact T); (case k6 => exact rfl); (case k7 => ktr_room); (case k8 => ktr_units); (case h1 => lia); (case h2 => exact G))
    intro s2 t dn o2 ds t1 t2 t3 t4 F2 N2 ho2 hp2 lo2 G2 os2 l1 l2 l3
    have l0 := l1
    k_lt l1
    iterate 11 (first | walk1 | (dsimp only; walk1))
    k_dflt (refine LCg.ListComp_U (F₀ := by k_asm) (by with_unfolding_all rfl) (by decide) (by rfl) (by decide) (by rfl) ?_)
    iterate 1 (first | walk1 | (dsimp only; walk1))
    rename News _ _ _ _ => kN1
    refine LCg.CompSrc.ledger (by rfl) (by k_asm) kN1 (by k_mem) (by simp only [List.size_toArray]; rw [sizeLine_eq]; lia) ?_
    intro g1
    refine rest_ind (fun i zs nw => nw = _ ∧ IntsAre zs (ys.take i)) bv.toArray.size ?_ ?_ bv.toArray.size 0 [] _ (by lia) ⟨rfl, .nil⟩
    · rintro i zs' nw v I oI C oC D' m₂ h5 tk5 E5 hin ⟨rfl, hys⟩ hv hC hx F5 N5 off ne
      obtain ⟨a, x, y, t, u, rfl, hm, hxy⟩ := hb i v (by simpa using hv)
      have off0 := off
      simp only [LCg.Off3] at off
      iterate 3 (first | walk1 | (dsimp only; walk1))
      have hil : i < ys.length := by have := hin; simp only [List.size_toArray] at this; lia
      rcases hturn with rfl | rfl
      · k_dflt (refine Mine.idx_sub (x := .int x t) (PyProof.Rows.News.isList N5 (by repeat (first | exact hm | apply List.Mem.tail))) (by lia) (by lia) (by rfl) ?_ (by with_unfolding_all rfl))
        exact ⟨h5, _, _, rfl, F5, N5, off0, Or.inr ⟨LCg.lst bv, by k_mem, rfl, _, rfl⟩, rfl, Mine.xs_snoc hil (by simpa using hxy) hys⟩
      · k_dflt (refine Mine.idx_sub (x := .int y u) (PyProof.Rows.News.isList N5 (by repeat (first | exact hm | apply List.Mem.tail))) (by lia) (by lia) (by rfl) ?_ (by with_unfolding_all rfl))
        exact ⟨h5, _, _, rfl, F5, N5, off0, Or.inr ⟨LCg.lst bv, by k_mem, rfl, _, rfl⟩, rfl, Mine.xs_snoc hil (by simpa using hxy) hys⟩
    · rintro zs2 nw ⟨rfl, hzs2⟩
      intro D2 h7 tk7 F7 N7 o7
      simp only [LCg.Off1, and_true] at o7
      rw [List.take_of_length_le (by simp only [List.size_toArray]; lia)] at hzs2
      iterate 1 (first | walk1 | (dsimp only; walk1))
      refine ⟨fun a o e => (Fr.keep (by assumption)) a o (X a o e), ?_⟩
      rename News _ _ _ _ => kP
      have hxx : xs.length = ys.length := by lia
      k_dflt (refine' Mine.con_book (xs := ys) ?k1 ?k2 ?k3 kP ?k5 ?k6 ?k7 ?k8 hzs2 ?h1 hyb ?h2 ?_; (case k1 => exact B); (case k2 => k_asm); (case k3 => exact X); (case k5 => exact T); (case k6 => exact rfl); (case k7 => ktr_room); (case k8 => ktr_units); (case h1 => lia); (case h2 => exact G2))
      intro s3 t' dn' o3 ds' u1 u2 u3 u4 F3 N3 ho3 hp3 lo3 G3 os3 m1 m2 m3
      have m0' := m1
      rw [hsum, hsq, hyl, ← hxl] at N3
      have hdd : dn ≠ dn' := by
        have := m0' (dn, o2) (.tail _ (.head _))
        exact Nat.ne_of_lt this
      k_dflt (refine Mine.books_ne (w := w) (prog := Challenge.rw_wo0053_01.row.prog) (ds := ds) (ds' := ds') N3 (.tail _ (.tail _ (.tail _ (.head _)))) (.head _) (.tail _ (.tail _ (.tail _ (.tail _ (.head _))))) (.tail _ (.head _)) ho2 ho3 lo2 lo3 hdd (by rw [hp2, hp3]; exact hsame) ?_ ?_ ?_)
      · ktr_units
      · ktr_units
      iterate 14 (first | walk1 | (dsimp only; walk1))
      rename News _ _ _ _ => kQ
      have hpb := Mine.pl_bound hp2 (by lia)
      k_dflt (refine' Mine.con_calls (ds := ds) ?k1 ?k2 ?k3 (Mine.bring4 kQ) ?k5 ?k6 ?k7 ?k8 ho2 lo2 ?h1 ?h2 ?_; (case k1 => exact B); (case k2 => k_asm); (case k3 => exact X); (case k5 => exact T); (case k6 => exact rfl); (case k7 => ktr_room); (case k8 => ktr_units); (case h1 => exact hpb.2); (case h2 => exact hpb.1))
      intro s4 t4' F4 N4 g4 os4
      have hvs : vsum ds = (us.length : Int) := by rw [← hcnt, ← hp2]; unfold vsum pl; rw [List.map_map]; rfl
      rw [hvs]
      iterate 6 (first | walk1 | (dsimp only; walk1))
      have hsl : (strValues us).toArray.size = us.length := by rw [List.size_toArray, strs_len]
      refine PyProof.Rows.len_list (items := (strValues us).toArray) (N4.isList (.tail _ (.tail _ (.tail _ (.tail _ (.tail _ (.tail _ (.head _)))))))) (by lia) ?_
      rw [hsl]
      iterate 1 (first | walk1 | (dsimp only; walk1))
      rw [bne_self_eq_false]
      k_steps
      rename Fr _ _ _ _ => kF5
      rename News _ _ _ _ => kN5
      have hT5 : PyProof.Rows.IsTup s4.heap t #[.int (xs.length : Int) t1, .int xs.sum t2, .int (xs.map fun x => x * x).sum t3, .int 0 t4, .ref dn] := PyProof.Rows.News.isTup kN5 (by repeat (first | exact .head _ | apply List.Mem.tail))
      k_dflt (refine Mine.tuple_upto (b := 4) (zs := [.int (xs.length : Int) t1, .int xs.sum t2, .int (xs.map fun x => x * x).sum t3, .int 0 t4]) kF5 kN5 hT5 (show 4 < 5 by decide) (by rfl) (show 4 ≤ 1000 by decide) ?_ (by with_unfolding_all rfl) (by intro _; with_unfolding_all rfl))
      intro D4 h8 F8 N8
      iterate 22 (first | walk1 | (dsimp only; walk1))
      k_dflt (refine LCg.ListComp_U (F₀ := by k_asm) (by with_unfolding_all rfl) (by decide) (by rfl) (by decide) (by rfl) ?_)
      iterate 1 (first | walk1 | (dsimp only; walk1))
      rename News _ _ _ _ => kN6
      have hzl := hzs.length
      refine LCg.CompSrc.ledger (by rfl) (by k_asm) kN6 (by repeat (first | exact .head _ | apply List.Mem.tail)) (by simp only [List.size_toArray]; rw [sizeLine_eq]; lia) ?_
      intro g2
      refine rest_ind (fun i zs nw => nw = _ ∧ IntsAre zs ((xs.map fun x => x * x).take i)) zs.toArray.size ?_ ?_ zs.toArray.size 0 [] _ (by lia) ⟨rfl, .nil⟩
      · rintro i zs' nw v I oI C oC D' m₂ h5 tk5 E5 hin ⟨rfl, hys⟩ hv hC hx F5 N5 off ne
        obtain ⟨tv, rfl, hil⟩ := ints_at hzs hv
        have hbx := hxb (xs.getD i 0) (by rw [List.getD, List.getElem?_eq_getElem hil]; exact List.getElem_mem hil)
        have off0 := off
        simp only [LCg.Off3] at off
        k_steps
        have eq9 : xs.getD i 0 * xs.getD i 0 = (xs.map fun x => x * x).getD i 0 := by simp [List.getD_eq_getElem?_getD, hil]
        exact ⟨h5, _, _, rfl, F5, N5, off0, Or.inr ⟨LCg.lst zs, by repeat (first | exact .head _ | apply List.Mem.tail), rfl, _, rfl⟩, rfl, Mine.xs_snoc (by simpa using hil) eq9 hys⟩
      · rintro zs3 nw ⟨rfl, hzs3⟩
        intro D3 h9 tk9 F9 N9 o9
        simp only [LCg.Off1, and_true] at o9
        have hml : (xs.map fun x => x * x).length = xs.length := List.length_map _
        rw [List.take_of_length_le (by simp only [List.size_toArray]; lia)] at hzs3
        k_steps
        · rename Fr _ _ _ _ => kF9
          rename News _ _ _ _ => kN9
          refine ret _ t D kF9 (fun p hp => kN9 p (.tail _ (.tail _ (.tail _ (.tail _ (.tail _ (.tail _ (.tail _ (.tail _ (.tail _ hp)))))))))) ?_ ?_
          · show AllBare s4.gens
            rw [g4]; exact G3
          · show s4.os = s.os
            rw [os4]; show s3.os = s.os; rw [os3]; show s2.os = s.os; rw [os2]
        · exfalso; lia
end Mine

theorem Mine.rstLW : True := by w_top off; trivial
namespace Mine
/-- A pair of counts that a spot's turn has laid. -/
abbrev pairO (x y : Int) (t u : Tok) : Obj := W.listOf #[Value.int x t, Value.int y u] 0
def toldN (xs : List Int) (i way wide width : Int) : Int × Int := (nearN xs i way wide width, nearN xs i way wide width + nearN xs (nextN xs i way wide width) way wide width)
def Laid (S : List Int) (way wide width : Int) (fv : List Value) (l : List (Addr × Obj)) : Prop :=
  ∀ (j : Nat) v, fv[j]? = some v → ∃ a t u, v = .ref a ∧ (a, pairO (toldN S (j : Int) way wide width).1 (toldN S (j : Int) way wide width).2 t u) ∈ l
theorem laid_snoc {S : List Int} {way wide width : Int} {fv : List Value} {l l' : List (Addr × Obj)} {i : Nat} {a : Addr} {x y : Int} {t u : Tok} (h : Laid S way wide width fv l) (hl : fv.length = i) (hs : ∀ p ∈ l, p ∈ l')
    (ha : (a, pairO x y t u) ∈ l') (hx : x = nearN S (i : Int) way wide width) (hy : y = nearN S (i : Int) way wide width + nearN S (nextN S (i : Int) way wide width) way wide width) : Laid S way wide width (fv ++ [.ref a]) l' := by
  intro j v hv
  rcases Nat.lt_or_ge j fv.length with c | c
  · rw [List.getElem?_append_left c] at hv
    obtain ⟨b, t, u, e, hm⟩ := h j v hv
    exact ⟨b, t, u, e, hs _ hm⟩
  · rw [List.getElem?_append_right c] at hv
    have hj : j - fv.length = 0 := by
      rcases Nat.eq_zero_or_pos (j - fv.length) with e | e
      · exact e
      · rw [List.getElem?_eq_none (by simp; lia)] at hv; cases hv
    rw [hj] at hv
    have e : v = .ref a := by simpa using hv.symm
    have ej : j = i := by lia
    subst ej
    refine ⟨a, t, u, e, ?_⟩
    unfold toldN
    dsimp only
    rw [← hy, ← hx]
    exact ha
theorem map_at {m : Str → Option Value} {x : Str} {v : Value} (e : m x = some v) : (fun y => if y = x then some v else m y) = m := by
  funext y
  by_cases hy : y = x
  · rw [if_pos hy, hy, e]
  · rw [if_neg hy]
def spotJ (m : Str → Option Value) (L wd sd fd bd : Addr) (us : List (Str × Tok)) (zs : List Value) (S : List Int) (wide width : Int) (oW oT : Obj) (rest : List (Addr × Obj)) (i : Nat) (m' : Str → Option Value) (l : List (Addr × Obj)) : Prop :=
  (∀ y : Str, y ≠ "around" → y ≠ "spot" → m' y = m y) ∧ ∃ ps qs fv bv rest', l = (140, tabO ps) :: (147, tabO qs) :: (wd, LCg.lst (strValues us)) :: (sd, LCg.lst zs) :: (fd, LCg.lst fv) :: (bd, LCg.lst bv) :: (L + 1 + 1, oW) :: (L + 1 + 1 + 1 + 1, oT) :: rest' ∧
    TriplesOk ps.toList ∧ TriplesOk qs.toList ∧ fv.length = i ∧ bv.length = i ∧ Laid S 1 wide width fv rest' ∧ Laid S (-1) wide width bv rest' ∧ (∀ p ∈ rest, p ∈ rest') ∧ (∀ p ∈ rest', @LT.lt Nat _ 147 p.1 ∧ @Ne Nat p.1 fd ∧ @Ne Nat p.1 bd ∧ @Ne Nat p.1 (L + 1 + 1 + 1 + 1))
theorem spotJ.elim {m m' : Str → Option Value} {L wd sd fd bd : Addr} {us : List (Str × Tok)} {zs : List Value} {S : List Int} {wide width : Int} {oW oT : Obj} {rest l : List (Addr × Obj)} {i : Nat} {C : Prop} (h : spotJ m L wd sd fd bd us zs S wide width oW oT rest i m' l)
    (k : (∀ y : Str, y ≠ "around" → y ≠ "spot" → m' y = m y) → ∀ ps qs fv bv rest', l = (140, tabO ps) :: (147, tabO qs) :: (wd, LCg.lst (strValues us)) :: (sd, LCg.lst zs) :: (fd, LCg.lst fv) :: (bd, LCg.lst bv) :: (L + 1 + 1, oW) :: (L + 1 + 1 + 1 + 1, oT) :: rest' →
      TriplesOk ps.toList → TriplesOk qs.toList → fv.length = i → bv.length = i → Laid S 1 wide width fv rest' → Laid S (-1) wide width bv rest' → (∀ p ∈ rest, p ∈ rest') → (∀ p ∈ rest', @LT.lt Nat _ 147 p.1 ∧ @Ne Nat p.1 fd ∧ @Ne Nat p.1 bd ∧ @Ne Nat p.1 (L + 1 + 1 + 1 + 1)) → C) : C := by
  obtain ⟨a0, ps, qs, fv, bv, rest', e, a1, a2, a3, a4, a5, a6, a7, a8⟩ := h
  exact k a0 ps qs fv bv rest' e a1 a2 a3 a4 a5 a6 a7 a8
theorem fr_ex {h₀ h : Heap} {L : Addr} {m : Str → Option Value} (F : Fr h₀ L h m) : ∃ mm, mm = m ∧ Fr h₀ L h mm := ⟨m, rfl, F⟩
theorem up_size (n : Nat) : Builtin.Range.rangeSize 0 (n : Int) 1 = (n : Int) := by
  rw [rangeSize_one]
  split <;> lia
theorem up_small {n : Nat} (h : n ≤ 1000) : Builtin.Range.small 0 (n : Int) 1 = true := by
  unfold Builtin.Range.small
  rw [up_size, if_pos (by decide)]
  unfold Builtin.Range.rangeFitsLong
  simp only [Bool.and_eq_true, Bool.or_eq_true, decide_eq_true_eq, beq_iff_eq]
  lia
theorem spot_map {m : Str → Option Value} {v1 v2 v3 v4 v5 v6 : Value} (e1 : m "spot" = some v1) (e2 : m "words" = some v2) (e3 : m "stops" = some v3) (e4 : m "forth" = some v4) (e5 : m "back" = some v5) (e6 : m "width" = some v6) (y : Str) :
    (if y = "spot" then some v1 else if y = "words" then some v2 else if y = "stops" then some v3 else if y = "forth" then some v4 else if y = "back" then some v5 else if y = "width" then some v6 else m y) = m y := by
  rw [congrFun (map_at e6) y, congrFun (map_at e5) y, congrFun (map_at e4) y, congrFun (map_at e3) y, congrFun (map_at e2) y, congrFun (map_at e1) y]
theorem turn_map {m : Str → Option Value} {v1 v2 v3 : Value} (e1 : m "words" = some v1) (e2 : m "forth" = some v2) (e3 : m "back" = some v3) (y : Str) :
    (if y = "words" then some v1 else if y = "forth" then some v2 else if y = "back" then some v3 else m y) = m y := by
  rw [congrFun (map_at e3) y, congrFun (map_at e2) y, congrFun (map_at e1) y]
def colT (S : List Int) (way : Int) (n : Nat) (wide width t : Int) : List Int := (List.range n).map fun (j : Nat) => if t = 0 then (toldN S (j : Int) way wide width).1 else (toldN S (j : Int) way wide width).2
theorem colT_len {S : List Int} {way wide width t : Int} {n : Nat} : (colT S way n wide width t).length = n := by simp [colT]
theorem colT_get {S : List Int} {way wide width t : Int} {n j : Nat} (h : j < n) : (colT S way n wide width t).getD j 0 = if t = 0 then (toldN S (j : Int) way wide width).1 else (toldN S (j : Int) way wide width).2 := by
  simp [colT, List.getD_eq_getElem?_getD, h]
theorem colT_bounds {S : List Int} {way wide width t : Int} {n : Nat} (hl : S.length ≤ 50) : ∀ x ∈ colT S way n wide width t, 0 ≤ x ∧ x ≤ 100 := by
  intro x hx
  unfold colT at hx
  obtain ⟨j, _, rfl⟩ := List.mem_map.mp hx
  have h1 := near_bounds (xs := S) (spot := (j : Int)) (way := way) (wide := wide) (width := width) hl
  have h2 := near_bounds (xs := S) (spot := nextN S (j : Int) way wide width) (way := way) (wide := wide) (width := width) hl
  dsimp only [toldN]
  split <;> lia
theorem laid_col {S : List Int} {way wide width t : Int} {n : Nat} {fv : List Value} {l l' : List (Addr × Obj)} (h : Laid S way wide width fv l) (hl : fv.length = n) (hs : ∀ p ∈ l, p ∈ l') :
    ∀ (j : Nat) v, fv[j]? = some v → ∃ a x y t' u, v = .ref a ∧ (a, W.listOf #[Value.int x t', Value.int y u] 0) ∈ l' ∧ (if t = 0 then x else y) = (colT S way n wide width t).getD j 0 := by
  intro j v hv
  obtain ⟨a, t', u, e, hm⟩ := h j v hv
  have hj : j < n := by
    rcases Nat.lt_or_ge j n with c | c
    · exact c
    · rw [List.getElem?_eq_none (by lia)] at hv; cases hv
  exact ⟨a, _, _, t', u, e, hs _ hm, by rw [colT_get hj]⟩
theorem rotI8 {h₀ h : Heap} {L : Addr} {i a b c d e f g : Addr × Obj} {l : List (Addr × Obj)} (N : News h₀ L h (i :: a :: b :: c :: d :: e :: f :: g :: l)) : News h₀ L h (a :: b :: c :: d :: e :: f :: g :: i :: l) := fun p hp => N p (by
  revert p
  repeat' (first | exact List.forall_mem_nil _ | refine List.forall_mem_cons.mpr ⟨?_, ?_⟩ | exact .head _ | (intro p hp; first | exact hp | (repeat (first | exact hp | apply List.Mem.tail))) | apply List.Mem.tail))
theorem rotI10 {h₀ h : Heap} {L : Addr} {x y i a b c d e f g z : Addr × Obj} {l : List (Addr × Obj)} (N : News h₀ L h (x :: y :: a :: b :: c :: d :: e :: f :: g :: i :: z :: l)) : News h₀ L h (i :: a :: b :: c :: d :: e :: f :: g :: z :: x :: y :: l) := fun p hp => N p (by
  revert p
  repeat' (first | exact List.forall_mem_nil _ | refine List.forall_mem_cons.mpr ⟨?_, ?_⟩ | exact .head _ | (intro p hp; first | exact hp | (repeat (first | exact hp | apply List.Mem.tail))) | apply List.Mem.tail))
theorem tup_ex {h₀ h : Heap} {L T : Addr} {o : Obj} {l : List (Addr × Obj)} (N : News h₀ L h ((T, o) :: l)) : ∃ oX, oX = o ∧ News h₀ L h ((T, oX) :: l) := ⟨o, rfl, N⟩
theorem allOff_keys {I : Addr} {l l' : List (Addr × Obj)} (h : AllOff I l) (e : l'.map (·.1) = l.map (·.1)) : AllOff I l' := by
  refine allOff_of fun p hp => ?_
  have : p.1 ∈ l.map (·.1) := e ▸ List.mem_map_of_mem hp
  obtain ⟨q, hq, eq⟩ := List.mem_map.mp this
  rw [← eq]
  exact off_at h q hq
def turnJ (m : Str → Option Value) (L wd sd fd bd TT : Addr) (us : List (Str × Tok)) (zs : List Value) (fv bv : List Value) (oW oX : Obj) (ps qs : Array Value) (rest : List (Addr × Obj)) (_i : Nat) (m' : Str → Option Value) (l : List (Addr × Obj)) : Prop :=
  (∀ y : Str, y ≠ "book" → y ≠ "tallies" → m' y = m y) ∧ ∃ oT v0, oT.data = Data.cell v0 ∧ l = (TT, oX) :: (140, tabO ps) :: (147, tabO qs) :: (wd, LCg.lst (strValues us)) :: (sd, LCg.lst zs) :: (fd, LCg.lst fv) :: (bd, LCg.lst bv) :: (L + 1 + 1, oW) :: (L + 1 + 1 + 1 + 1, oT) :: rest
theorem bring10 {h₀ h : Heap} {L : Addr} {a b c d e f g i j x : Addr × Obj} {l : List (Addr × Obj)} (N : News h₀ L h (a :: b :: c :: d :: e :: f :: g :: i :: j :: x :: l)) : News h₀ L h (x :: a :: b :: c :: d :: e :: f :: g :: i :: j :: l) := fun p hp => N p (by
  revert p
  repeat' (first | exact List.forall_mem_nil _ | refine List.forall_mem_cons.mpr ⟨?_, ?_⟩ | exact .head _ | (intro p hp; first | exact hp | (repeat (first | exact hp | apply List.Mem.tail))) | apply List.Mem.tail))
theorem rotT {h₀ h : Heap} {L : Addr} {x i t a b wd sd fd bd l2 : Addr × Obj} {l : List (Addr × Obj)} (N : News h₀ L h (x :: i :: t :: a :: b :: wd :: sd :: fd :: bd :: l2 :: l)) : News h₀ L h (wd :: fd :: bd :: x :: i :: t :: a :: b :: sd :: l2 :: l) := fun p hp => N p (by
  revert p
  repeat' (first | exact List.forall_mem_nil _ | refine List.forall_mem_cons.mpr ⟨?_, ?_⟩ | exact .head _ | (intro p hp; first | exact hp | (repeat (first | exact hp | apply List.Mem.tail))) | apply List.Mem.tail))
theorem rotT' {h₀ h : Heap} {L : Addr} {x i t a b wd sd fd bd l2 : Addr × Obj} {l : List (Addr × Obj)} (N : News h₀ L h (wd :: fd :: bd :: x :: i :: t :: a :: b :: sd :: l2 :: l)) : News h₀ L h (i :: t :: a :: b :: wd :: sd :: fd :: bd :: l2 :: x :: l) := fun p hp => N p (by
  revert p
  repeat' (first | exact List.forall_mem_nil _ | refine List.forall_mem_cons.mpr ⟨?_, ?_⟩ | exact .head _ | (intro p hp; first | exact hp | (repeat (first | exact hp | apply List.Mem.tail))) | apply List.Mem.tail))
theorem law_width {p : Program} {loose : List Str} {mean : ExcName → Option Value} {mg mb m0 : Str → Option Value} {w : World} {h₀ : Heap} {L fa : Addr} {cdv : Value} {s : Shared} {Q : Flow → Shared → Prop} {E : Value → Shared → Prop} {rest : List (Addr × Obj)}
  {wd sd : Addr} {us : List (Str × Tok)} {zs : List Value} {S : List Int} {ks : List Nat} {width wide : Int} {tw tW : Tok} {ps qs : Array Value} {oW oT : Obj} {vT : Option Value}
  (B : Below callerA h₀ [] h₀) (X : (hd.heap_1 w.params).In h₀) (T : Top p loose mean mg mb h₀)
  (F : Fr h₀ L s.heap (fun y => if y = "words" then some (.ref wd) else if y = "stops" then some (.ref sd) else if y = "width" then some (.int width tw) else m0 y))
  (N : News h₀ L s.heap ((140, tabO ps) :: (147, tabO qs) :: (wd, LCg.lst (strValues us)) :: (sd, LCg.lst zs) :: (L + 1 + 1, oW) :: (L + 1 + 1 + 1 + 1, oT) :: rest))
  (dW : oW.data = Data.cell (some (.int wide tW))) (dT : oT.data = Data.cell vT) (G : AllBare s.gens)
  (g1 : @Ne Nat wd 140 ∧ @Ne Nat wd 147) (g2 : @Ne Nat sd 140 ∧ @Ne Nat sd 147) (g5 : @LT.lt Nat _ 147 L) (g6 : @Ne Nat wd (L + 1 + 1 + 1 + 1)) (g7 : @Ne Nat sd (L + 1 + 1 + 1 + 1)) (gr : ∀ p ∈ rest, @LT.lt Nat _ 147 p.1) (gL : ∀ p ∈ rest, @Ne Nat p.1 (L + 1 + 1 + 1 + 1))
  (htr : TriplesOk ps.toList) (htr2 : TriplesOk qs.toList)
  (hus : us.map (·.1) = ks.map word) (hul : us.length ≤ 6) (hks : ∀ k ∈ ks, k ≤ 50) (hzs : IntsAre zs S) (hSl : S.length = us.length) (hSb : ∀ x ∈ S, 0 ≤ x ∧ x ≤ 100) (hw0 : 0 < wide) (hw1 : wide ≤ 100)
  (hrow : ∀ i, i < us.length → ∃ q0 q1 qr p0 p1 pr, rowsK width (ks.drop i ++ ks.take i) = q0 :: q1 :: qr ∧ rowsK width (ks.drop i ++ ks.take i).reverse = p0 :: p1 :: pr ∧
    (q0.length : Int) = (toldN S i 1 wide width).1 ∧ (q0.length : Int) + (q1.length : Int) = (toldN S i 1 wide width).2 ∧ (p0.length : Int) = (toldN S i (-1) wide width).1 ∧ (p0.length : Int) + (p1.length : Int) = (toldN S i (-1) wide width).2)
  (hcol : ∀ t : Int, t = 0 ∨ t = 1 → (colT S (-1) us.length wide width t).sum = (colT S 1 us.length wide width t).sum ∧ ((colT S (-1) us.length wide width t).map fun x => x * x).sum = ((colT S 1 us.length wide width t).map fun x => x * x).sum ∧
    sameD (bumps (colT S 1 us.length wide width t)) (bumps (colT S (-1) us.length wide width t)) = true ∧ ((bumps (colT S 1 us.length wide width t)).map (·.2)).sum = (us.length : Int))
  (hE : PassesOwn (model Challenge.rw_wo0053_01.row.prog w) (callerA.deeper (envOfC "law" lawScope L fa cdv)) (envOfC "law" lawScope L fa cdv) E)
  (ret : ∀ s' ps' qs' m' oT' v0, (∀ y : Str, y ≠ "forth" → y ≠ "back" → y ≠ "around" → y ≠ "spot" → y ≠ "book" → y ≠ "tallies" → m' y = (if y = "words" then some (.ref wd) else if y = "stops" then some (.ref sd) else if y = "width" then some (.int width tw) else m0 y)) →
    Fr h₀ L s'.heap m' → News h₀ L s'.heap ((140, tabO ps') :: (147, tabO qs') :: (wd, LCg.lst (strValues us)) :: (sd, LCg.lst zs) :: (L + 1 + 1, oW) :: (L + 1 + 1 + 1 + 1, oT') :: rest) → oT'.data = Data.cell v0 → TriplesOk ps'.toList → TriplesOk qs'.toList → AllBare s'.gens → s'.os = s.os → Q .next s') :
  wpAny (model Challenge.rw_wo0053_01.row.prog w) (callerA.deeper (envOfC "law" lawScope L fa cdv)) (execs widthBody (envOfC "law" lawScope L fa cdv)) Q E s := by
  revert X; k_fill; intro X
  conv in widthBody => whnf
  conv in lawScope => whnf
  conv in lawScope => whnf
  iterate 23 (first | walk1 | (dsimp only; walk1))
  refine For_go ?_
  iterate 6 (first | walk1 | (dsimp only; walk1))
  rename_i fd _ l1 bd _ l2 DD _ l3 _ _ _ _ kN
  have hsl : (strValues us).toArray.size = us.length := by rw [List.size_toArray, strs_len]
  iterate 4 (first | walk1 | (dsimp only; walk1))
  refine PyProof.Rows.len_list (items := (strValues us).toArray) ?hl (by lia) ?_
  case hl => exact kN.isList (.tail _ (.tail _ (.tail _ (.tail _ (.tail _ (.head _))))))
  rw [hsl]
  k_steps
  rename Fr _ _ _ _ => kF1
  rename News _ _ _ _ => kN1
  rename IsRange _ _ _ _ _ _ _ _ => kR1
  obtain ⟨mm, hmm, kF1⟩ := fr_ex kF1
  have mW : mm "words" = some (.ref wd) := by rw [hmm]; rfl
  have mS : mm "stops" = some (.ref sd) := by rw [hmm]; rfl
  have mF : mm "forth" = some (.ref fd) := by rw [hmm]; rfl
  have mB : mm "back" = some (.ref bd) := by rw [hmm]; rfl
  have mH : mm "width" = some (.int width tw) := by rw [hmm]; rfl
  have hbase : ∀ y : Str, y ≠ "forth" → y ≠ "back" → mm y = (if y = "words" then some (.ref wd) else if y = "stops" then some (.ref sd) else if y = "width" then some (.int width tw) else m0 y) := fun y h1 h2 => by
    rw [hmm]; dsimp only; simp only [if_neg h1, if_neg h2]
  clear hmm
  refine forRange (n := us.length) (spotJ mm L wd sd fd bd us zs S wide width oW oT rest) rfl rfl rfl kF1 (news := (140, tabO ps) :: (147, tabO qs) :: (wd, LCg.lst (strValues us)) :: (sd, LCg.lst zs) :: (fd, LCg.lst []) :: (bd, LCg.lst []) :: (L + 1 + 1, oW) :: (L + 1 + 1 + 1 + 1, oT) :: rest) ?nn kR1 ?sm ?sz ?gb ?j0 ?turn ?done hE
  case nn =>
    intro p hp
    refine kN1 p ?_
    revert p
    repeat' (first | exact List.forall_mem_nil _ | refine List.forall_mem_cons.mpr ⟨?_, ?_⟩ | exact .head _ | (intro p hp; first | exact hp | (repeat (first | exact hp | apply List.Mem.tail))) | apply List.Mem.tail)
  case sm => exact up_small (by lia)
  case sz => exact up_size _
  case gb => walk_at "mine bare"
  case j0 =>
    refine ⟨fun _ _ _ => rfl, ps, qs, [], [], _, rfl, htr, htr2, rfl, rfl, (fun j v h => by cases h), (fun j v h => by cases h), fun p hp => hp, ?_⟩
    intro p hp
    exact ⟨gr p hp, Nat.ne_of_lt (lt_all (by simp only [*]) p hp), Nat.ne_of_lt (lt_all (by simp only [*]) p hp), gL p hp⟩
  case turn =>
    intro i t I oI m' l s' hi lt hJ off F2 N2 G2 o2
    refine hJ.elim ?_
    clear hJ
    rintro hm ps' qs' fv bv rest' rfl tr1 tr2 hfl hbl lf lb sub hr
    obtain ⟨q0, q1, qr, p0, p1, pr, hr0, hr1, e0, e1, f0, f1⟩ := hrow i hi
    have z0 : (0 : Int) + (i : Int) * 1 = (i : Int) := by lia
    rw [z0] at F2
    have iF : @LT.lt Nat _ fd I := lt (fd, LCg.lst []) (by repeat (first | exact .head _ | apply List.Mem.tail))
    have iB : @LT.lt Nat _ bd I := lt (bd, LCg.lst []) (by repeat (first | exact .head _ | apply List.Mem.tail))
    have k1 : (fun y : Str => if y = "spot" then some (.int (i : Int) t) else m' y) "spot" = some (Value.int (i : Int) t) := rfl
    have k2 : (fun y : Str => if y = "spot" then some (.int (i : Int) t) else m' y) "words" = some (Value.ref wd) := by rw [← mW, ← hm "words" (by decide +kernel) (by decide +kernel)]; rfl
    have k3 : (fun y : Str => if y = "spot" then some (.int (i : Int) t) else m' y) "stops" = some (Value.ref sd) := by rw [← mS, ← hm "stops" (by decide +kernel) (by decide +kernel)]; rfl
    have k4 : (fun y : Str => if y = "spot" then some (.int (i : Int) t) else m' y) "forth" = some (Value.ref fd) := by rw [← mF, ← hm "forth" (by decide +kernel) (by decide +kernel)]; rfl
    have k5 : (fun y : Str => if y = "spot" then some (.int (i : Int) t) else m' y) "back" = some (Value.ref bd) := by rw [← mB, ← hm "back" (by decide +kernel) (by decide +kernel)]; rfl
    have k6 : (fun y : Str => if y = "spot" then some (.int (i : Int) t) else m' y) "width" = some (Value.int width tw) := by rw [← mH, ← hm "width" (by decide +kernel) (by decide +kernel)]; rfl
    have hm2 : ∀ y : Str, y ≠ "around" → y ≠ "spot" → (fun y : Str => if y = "spot" then some (.int (i : Int) t) else m' y) y = mm y := fun y h1 h2 => by
      dsimp only; rw [if_neg h2]; exact hm y h1 h2
    generalize (fun y : Str => if y = "spot" then some (.int (i : Int) t) else m' y) = m1 at *
    have F3 : Fr h₀ L s'.heap m1 := F2
    rw [← funext (spot_map k1 k2 k3 k4 k5 k6)] at F3
    refine law_spot B X T F3 (rotI8 N2) dW g1 g2 (by lia) (by lia) g5 ?gr2 (by lia) (by lia) (by lia) (by lia) (by lia) (by lia) (by lia) ?nr1 ?nr2 tr1 tr2 G2 (by lia) (by lia) hus hi hul hks hzs hSl hSb hw0 hw1 e0 e1 f0 f1 hr0 hr1 ?ret2
    case gr2 =>
      intro p hp
      rcases List.mem_cons.mp hp with rfl | hp
      · show @LT.lt Nat _ 147 I; lia
      rcases List.mem_cons.mp hp with rfl | hp
      · show @LT.lt Nat _ 147 (L + 1 + 1 + 1 + 1); lia
      · exact (hr p hp).1
    case nr1 =>
      intro p hp
      rcases List.mem_cons.mp hp with rfl | hp
      · exact Nat.ne_of_gt iF
      rcases List.mem_cons.mp hp with rfl | hp
      · show @Ne Nat (L + 1 + 1 + 1 + 1) fd; lia
      · exact (hr p hp).2.1
    case nr2 =>
      intro p hp
      rcases List.mem_cons.mp hp with rfl | hp
      · exact Nat.ne_of_gt iB
      rcases List.mem_cons.mp hp with rfl | hp
      · show @Ne Nat (L + 1 + 1 + 1 + 1) bd; lia
      · exact (hr p hp).2.2.1
    case ret2 =>
      intro s'' ps'' qs'' dA ta tb u1 u2 u3 u4 F4 N4 tr3 tr4 G4 o4 la lb' five lab lrest
      have F5 : Fr h₀ L s''.heap (fun y => if y = "around" then some (.ref dA) else m1 y) := by
        have e : (fun y : Str => if y = "around" then some (Value.ref dA) else if y = "spot" then some (Value.int (i : Int) t) else if y = "words" then some (Value.ref wd) else if y = "stops" then some (Value.ref sd) else if y = "forth" then some (Value.ref fd) else if y = "back" then some (Value.ref bd) else if y = "width" then some (Value.int width tw) else m1 y) = fun y : Str => if y = "around" then some (.ref dA) else m1 y := by
          funext y; rw [spot_map k1 k2 k3 k4 k5 k6]
        rw [← e]; exact F4
      have iA : @LT.lt Nat _ I ta := lrest (I, oI) (.head _)
      have iT : @LT.lt Nat _ (L + 1 + 1 + 1 + 1) ta := lrest (L + 1 + 1 + 1 + 1, oT) (.tail _ (.head _))
      refine ⟨_, _, F5, rotI10 N4, ?_, ⟨fun y h1 h2 => ?_, ps'', qs'', fv ++ [.ref ta], bv ++ [.ref tb], _, rfl, tr3, tr4, by simp [hfl], by simp [hbl], ?_, ?_, fun p hp => .tail _ (.tail _ (sub p hp)), ?_⟩, G4, o4.trans o2⟩
      · have ho := off_at off
        refine allOff_of (List.forall_mem_cons.mpr ⟨?_, List.forall_mem_cons.mpr ⟨?_, List.forall_mem_cons.mpr ⟨?_, List.forall_mem_cons.mpr ⟨?_, List.forall_mem_cons.mpr ⟨?_, List.forall_mem_cons.mpr ⟨?_, List.forall_mem_cons.mpr ⟨?_, List.forall_mem_cons.mpr ⟨?_, List.forall_mem_cons.mpr ⟨?_, List.forall_mem_cons.mpr ⟨?_, ?_⟩⟩⟩⟩⟩⟩⟩⟩⟩⟩)
        · exact ho (140, tabO ps') (by repeat (first | exact .head _ | apply List.Mem.tail))
        · exact ho (147, tabO qs') (by repeat (first | exact .head _ | apply List.Mem.tail))
        · exact ho (wd, LCg.lst (strValues us)) (by repeat (first | exact .head _ | apply List.Mem.tail))
        · exact ho (sd, LCg.lst zs) (by repeat (first | exact .head _ | apply List.Mem.tail))
        · exact ho (fd, LCg.lst fv) (by repeat (first | exact .head _ | apply List.Mem.tail))
        · exact ho (bd, LCg.lst bv) (by repeat (first | exact .head _ | apply List.Mem.tail))
        · exact ho (L + 1 + 1, oW) (by repeat (first | exact .head _ | apply List.Mem.tail))
        · exact ho (L + 1 + 1 + 1 + 1, oT) (by repeat (first | exact .head _ | apply List.Mem.tail))
        · exact Nat.ne_of_gt iA
        · exact Nat.ne_of_gt (Nat.lt_trans iA lab)
        · intro p hp; exact ho p (.tail _ (.tail _ (.tail _ (.tail _ (.tail _ (.tail _ (.tail _ (.tail _ hp))))))))
      · dsimp only; rw [if_neg h1]; exact hm2 y h1 h2
      · exact laid_snoc lf hfl (fun p hp => .tail _ (.tail _ hp)) (.head _) e0 e1
      · exact laid_snoc lb hbl (fun p hp => .tail _ (.tail _ hp)) (.tail _ (.head _)) f0 f1
      · intro p hp
        rcases List.mem_cons.mp hp with rfl | hp
        · exact ⟨la, by show @Ne Nat ta fd; lia, by show @Ne Nat ta bd; lia, Nat.ne_of_gt iT⟩
        rcases List.mem_cons.mp hp with rfl | hp
        · exact ⟨lb', by show @Ne Nat tb fd; lia, by show @Ne Nat tb bd; lia, Nat.ne_of_gt (Nat.lt_trans iT lab)⟩
        · exact hr p hp
  case done =>
    intro m' l s' hJ F2 N2 G2 o2
    refine hJ.elim ?_
    clear hJ
    rintro hm ps' qs' fv bv rest' rfl tr1 tr2 hfl hbl lf lb sub hr
    replace F2 : Fr h₀ L s'.heap m' := F2
    replace N2 : News h₀ L s'.heap _ := N2
    iterate 2 (first | walk1 | (dsimp only; walk1))
    refine For_go ?_
    iterate 7 (first | walk1 | (dsimp only; walk1))
    rename_i TT _ kF4 kN4 l4
    have n2 : m' "words" = some (Value.ref wd) := by rw [← mW, ← hm "words" (by decide +kernel) (by decide +kernel)]
    have n4 : m' "forth" = some (Value.ref fd) := by rw [← mF, ← hm "forth" (by decide +kernel) (by decide +kernel)]
    have n5 : m' "back" = some (Value.ref bd) := by rw [← mB, ← hm "back" (by decide +kernel) (by decide +kernel)]
    obtain ⟨oX, hoX, kN4⟩ := tup_ex kN4
    refine forTup (turnJ m' L wd sd fd bd TT us zs fv bv oW oX ps' qs' rest') rfl kF4 kN4 (.head _) (by rw [hoX]) (by rw [hoX]) G2 ⟨fun _ _ _ => rfl, oT, _, dT, rfl⟩ ?mem2 ?turn2 ?done2 hE
    case mem2 =>
      rintro i m2 l ⟨_, oT', v0, _, rfl⟩
      exact .head _
    case turn2 =>
      rintro i v I oI m2 l s2 hv lt ⟨hm2, oT', v0, hT', rfl⟩ off F5 N5 G5 o5
      replace F5 : Fr h₀ L s2.heap m2 := F5
      replace N5 : News h₀ L s2.heap _ := N5
      iterate 1 (first | walk1 | (dsimp only; walk1))
      have hvt : ∃ (turn : Int) (tt : Tok), v = .int turn tt ∧ (turn = 0 ∨ turn = 1) := by
        match i, hv with
        | 0, hv => exact ⟨0, _, (Option.some.inj hv).symm, .inl rfl⟩
        | 1, hv => exact ⟨1, _, (Option.some.inj hv).symm, .inr rfl⟩
        | k + 2, hv => cases hv
      obtain ⟨turn, tt, rfl, h01⟩ := hvt
      have hI := off_at off
      have hU : ∀ p ∈ (I, oI) :: (TT, oX) :: (140, tabO ps') :: (147, tabO qs') :: (wd, LCg.lst (strValues us)) :: (sd, LCg.lst zs) :: (fd, LCg.lst fv) :: (bd, LCg.lst bv) :: (L + 1 + 1, oW) :: rest', p.1 ≠ L + 1 + 1 + 1 + 1 := by
        refine List.forall_mem_cons.mpr ⟨?_, List.forall_mem_cons.mpr ⟨?_, List.forall_mem_cons.mpr ⟨?_, List.forall_mem_cons.mpr ⟨?_, List.forall_mem_cons.mpr ⟨?_, List.forall_mem_cons.mpr ⟨?_, List.forall_mem_cons.mpr ⟨?_, List.forall_mem_cons.mpr ⟨?_, List.forall_mem_cons.mpr ⟨?_, ?_⟩⟩⟩⟩⟩⟩⟩⟩⟩
        · exact Ne.symm (hI (L + 1 + 1 + 1 + 1, oT') (by repeat (first | exact .head _ | apply List.Mem.tail)))
        · show @Ne Nat TT _; lia
        · show @Ne Nat 140 _; lia
        · show @Ne Nat 147 _; lia
        · show @Ne Nat wd _; lia
        · show @Ne Nat sd _; lia
        · show @Ne Nat fd _; lia
        · show @Ne Nat bd _; lia
        · show @Ne Nat (L + 1 + 1) _; lia
        · exact fun p hp => (hr p hp).2.2.2
      refine storeX_C F5 (bring10 N5) (by rfl) (.head hU) hT' ?_ (by rfl) (by rfl)
      intro h6 oC F6 N6 hC
      have j2 : m2 "words" = some (Value.ref wd) := by rw [hm2 "words" (by decide +kernel) (by decide +kernel)]; exact n2
      have j4 : m2 "forth" = some (Value.ref fd) := by rw [hm2 "forth" (by decide +kernel) (by decide +kernel)]; exact n4
      have j5 : m2 "back" = some (Value.ref bd) := by rw [hm2 "back" (by decide +kernel) (by decide +kernel)]; exact n5
      rw [← funext (turn_map j2 j4 j5)] at F6
      obtain ⟨c1, c2, c3, c4⟩ := hcol turn h01
      refine law_turn (xs := colT S 1 us.length wide width turn) (ys := colT S (-1) us.length wide width turn) B X T F6 (rotT N6) hC h01 G5 hfl hbl hul colT_len (colT_bounds (by lia)) (laid_col lf hfl fun p hp => .tail _ (.tail _ (.tail _ (.tail _ (.tail _ (.tail _ hp)))))) colT_len (colT_bounds (by lia)) (laid_col lb hbl fun p hp => .tail _ (.tail _ (.tail _ (.tail _ (.tail _ (.tail _ hp)))))) c1 c2 c3 c4 ?_
      intro s3 t D F7 N7 G7 o7
      have F8 : Fr h₀ L s3.heap (fun y => if y = "book" then some (.ref t) else if y = "tallies" then some (.ref D) else m2 y) := by
        have e : (fun y : Str => if y = "book" then some (Value.ref t) else if y = "tallies" then some (Value.ref D) else if y = "words" then some (Value.ref wd) else if y = "forth" then some (Value.ref fd) else if y = "back" then some (Value.ref bd) else m2 y) = fun y : Str => if y = "book" then some (.ref t) else if y = "tallies" then some (.ref D) else m2 y := by
          funext y; rw [turn_map j2 j4 j5]
        rw [← e]; exact F7
      refine ⟨_, _, F8, rotT' N7, allOff_keys off rfl, ⟨fun y h1 h2 => ?_, oC, _, hC, rfl⟩, G7, o7.trans o5⟩
      dsimp only
      rw [if_neg h1, if_neg h2]
      exact hm2 y h1 h2
    case done2 =>
      rintro m2 l s2 ⟨hm2, oT', v0, hT', rfl⟩ F5 N5 G5 o5
      replace F5 : Fr h₀ L s2.heap m2 := F5
      replace N5 : News h₀ L s2.heap _ := N5
      k_steps
      refine ret s2 ps' qs' m2 oT' v0 (fun y h1 h2 h3 h4 h5 h6 => ?_) F5 ?_ hT' tr1 tr2 G5 ?_
      · rw [hm2 y h5 h6, hm y h3 h4]; exact hbase y h1 h2
      · intro p hp
        refine N5 p ?_
        revert p
        repeat' (first | refine List.forall_mem_cons.mpr ⟨?_, ?_⟩ | exact .head _ | (intro p hp; exact (by repeat (first | exact sub p hp | apply List.Mem.tail))) | apply List.Mem.tail)
      · rw [o5]; show s'.os = s.os; rw [o2]
end Mine

theorem Mine.rstLZ : True := by w_top off; trivial
namespace Mine
open PySem.SeqAt in
theorem words_ne {prog : Program} {w : World} {A : Around} {E : Value → Shared → Prop} {s : Shared} {a b : Addr} {us vs : List (Str × Tok)} {Q : Value → Shared → Prop}
    (ha : s.heap.IsList a (strValues us).toArray) (hb : s.heap.IsList b (strValues vs).toArray) (h : us.map (·.1) = vs.map (·.1)) (hu : A.units < cLine) (hu1 : A.in1.units < cLine)
    (q : Q (.bool false) s) : wpAny (model prog w) A (compareOp .NotEq (.ref a) (.ref b)) Q E s := by
  have hl : us.length = vs.length := by have := congrArg List.length h; simpa using this
  have z := SeqAt.RcNeAt.lists (A := A) (e := fun _ => true) ha hb (by simp [strValues, hl]) hu (fun j h1 h2 => by
    have hj : j < us.length := by simpa [strValues] using h1
    have hj' : j < vs.length := by lia
    have e1 : (us.map (·.1))[j]? = (vs.map (·.1))[j]? := by rw [h]
    simp [hj, hj'] at e1
    simp only [strValues, List.getElem_toArray, List.getElem_map]
    have := SeqAt.EqAt.str_str (A := A.in1) (s := s) us[j].1 us[j].2 vs[j].1 vs[j].2
    rw [e1] at this ⊢
    simpa using this)
  refine cmp_ofNotEq (z prog w E Q ?_)
  have e : (!(List.range (strValues us).toArray.size).all fun _ => true) = false := by simp
  rw [e]
  exact q
theorem words_snoc {ks : List Nat} {us : List (Str × Tok)} {i : Nat} {z : Str} {t : Tok} (hi : i < ks.length) (hz : z = word (ks.getD i 0)) (h : us.map (·.1) = (ks.take i).map word) :
    (us ++ [(z, t)]).map (·.1) = (ks.take (i + 1)).map word := by
  rw [List.take_add_one, List.getElem?_eq_getElem hi, List.map_append, List.map_append, h, hz, List.getD_eq_getElem?_getD, List.getElem?_eq_getElem hi]
  rfl
structure Plain (us : List (Str × Tok)) (S : List Int) (ks : List Nat) (wide width : Int) : Prop where
  row : ∀ i, i < us.length → ∃ q0 q1 qr p0 p1 pr, rowsK width (ks.drop i ++ ks.take i) = q0 :: q1 :: qr ∧ rowsK width (ks.drop i ++ ks.take i).reverse = p0 :: p1 :: pr ∧
    (q0.length : Int) = (toldN S i 1 wide width).1 ∧ (q0.length : Int) + (q1.length : Int) = (toldN S i 1 wide width).2 ∧ (p0.length : Int) = (toldN S i (-1) wide width).1 ∧ (p0.length : Int) + (p1.length : Int) = (toldN S i (-1) wide width).2
  col : ∀ t : Int, t = 0 ∨ t = 1 → (colT S (-1) us.length wide width t).sum = (colT S 1 us.length wide width t).sum ∧ ((colT S (-1) us.length wide width t).map fun x => x * x).sum = ((colT S 1 us.length wide width t).map fun x => x * x).sum ∧
    sameD (bumps (colT S 1 us.length wide width t)) (bumps (colT S (-1) us.length wide width t)) = true ∧ ((bumps (colT S 1 us.length wide width t)).map (·.2)).sum = (us.length : Int)
theorem wid_map {m : Str → Option Value} {v1 v2 v3 : Value} (e1 : m "words" = some v1) (e2 : m "stops" = some v2) (e3 : m "width" = some v3) (y : Str) :
    (if y = "words" then some v1 else if y = "stops" then some v2 else if y = "width" then some v3 else m y) = m y := by
  rw [congrFun (map_at e3) y, congrFun (map_at e2) y, congrFun (map_at e1) y]
theorem rotW {h₀ h : Heap} {L : Addr} {i t a b wd sd l2 l4 : Addr × Obj} (N : News h₀ L h (i :: t :: a :: b :: wd :: sd :: l2 :: l4 :: [])) : News h₀ L h (a :: b :: wd :: sd :: l2 :: l4 :: i :: t :: []) := fun p hp => N p (by
  revert p
  repeat' (first | exact List.forall_mem_nil _ | refine List.forall_mem_cons.mpr ⟨?_, ?_⟩ | exact .head _ | (intro p hp; first | exact hp | (repeat (first | exact hp | apply List.Mem.tail))) | apply List.Mem.tail))
theorem rotW' {h₀ h : Heap} {L : Addr} {i t a b wd sd l2 l4 : Addr × Obj} (N : News h₀ L h (a :: b :: wd :: sd :: l2 :: l4 :: i :: t :: [])) : News h₀ L h (i :: t :: a :: b :: wd :: sd :: l2 :: l4 :: []) := fun p hp => N p (by
  revert p
  repeat' (first | exact List.forall_mem_nil _ | refine List.forall_mem_cons.mpr ⟨?_, ?_⟩ | exact .head _ | (intro p hp; first | exact hp | (repeat (first | exact hp | apply List.Mem.tail))) | apply List.Mem.tail))
def widthJ (wd sd TT : Addr) (L : Addr) (us : List (Str × Tok)) (zs : List Value) (oW oX : Obj) (_i : Nat) (m' : Str → Option Value) (l : List (Addr × Obj)) : Prop :=
  m' "words" = some (.ref wd) ∧ m' "stops" = some (.ref sd) ∧ ∃ ps qs oT v0, oT.data = Data.cell v0 ∧ TriplesOk ps.toList ∧ TriplesOk qs.toList ∧ l = (TT, oX) :: (140, tabO ps) :: (147, tabO qs) :: (wd, LCg.lst (strValues us)) :: (sd, LCg.lst zs) :: (L + 1 + 1, oW) :: (L + 1 + 1 + 1 + 1, oT) :: []
theorem law_tail {p : Program} {loose : List Str} {mean : ExcName → Option Value} {mg mb m0 : Str → Option Value} {w : World} {h₀ : Heap} {L fa : Addr} {cdv : Value} {s : Shared} {Q : Flow → Shared → Prop} {E : Value → Shared → Prop} {rest : List (Addr × Obj)}
  {wd sd ld : Addr} {us : List (Str × Tok)} {zs vs : List Value} {S st : List Int} {ks : List Nat} {wide total : Int} {c : Nat} {tW tT : Tok} {ps qs : Array Value} {oW oT oS oN : Obj} {vT : Option Value}
  (B : Below callerA h₀ [] h₀) (X : (hd.heap_1 w.params).In h₀) (T : Top p loose mean mg mb h₀)
  (F : Fr h₀ L s.heap (fun y => if y = "words" then some (.ref wd) else if y = "stops" then some (.ref sd) else m0 y))
  (N : News h₀ L s.heap ((140, tabO ps) :: (147, tabO qs) :: (wd, LCg.lst (strValues us)) :: (sd, LCg.lst zs) :: (ld, W.listOf vs.toArray c) :: (L + 1, oS) :: (L + 1 + 1, oW) :: (L + 1 + 1 + 1, oN) :: (L + 1 + 1 + 1 + 1, oT) :: rest))
  (dS : oS.data = Data.cell (some (.ref ld))) (dW : oW.data = Data.cell (some (.int wide tW))) (dN : oN.data = Data.cell (some (.int total tT))) (dT : oT.data = Data.cell vT) (G : AllBare s.gens)
  (g1 : @Ne Nat wd 140 ∧ @Ne Nat wd 147) (g2 : @Ne Nat sd 140 ∧ @Ne Nat sd 147) (g3 : @Ne Nat ld 140 ∧ @Ne Nat ld 147) (g5 : @LT.lt Nat _ 147 L) (g6 : @Ne Nat wd (L + 1 + 1 + 1 + 1)) (g7 : @Ne Nat sd (L + 1 + 1 + 1 + 1)) (g8 : @Ne Nat ld (L + 1 + 1 + 1 + 1)) (gr : ∀ p ∈ rest, @LT.lt Nat _ 147 p.1 ∧ @Ne Nat p.1 (L + 1 + 1 + 1 + 1))
  (htr : TriplesOk ps.toList) (htr2 : TriplesOk qs.toList)
  (hvs : IntsAre vs st) (hst : st = ks.map fun (k : Nat) => (k : Int) + 1)
  (hus : us.map (·.1) = ks.map word) (hul : us.length ≤ 6) (hks : ∀ k ∈ ks, k ≤ 50) (hzs : IntsAre zs S) (hSl : S.length = us.length) (hSb : ∀ x ∈ S, 0 ≤ x ∧ x ≤ 100) (hw0 : 12 ≤ wide) (hw1 : wide ≤ 30)
  (ht0 : 0 ≤ total) (ht1 : total ≤ 100000000)
  (plain : ∀ width, 1 ≤ width → 2 * width ≤ wide → Plain us S ks wide width)
  (hE : PassesOwn (model Challenge.rw_wo0053_01.row.prog w) (callerA.deeper (envOfC "law" lawScope L fa cdv)) (envOfC "law" lawScope L fa cdv) E)
  (ret : ∀ s' l ps' qs' m', Fr h₀ L s'.heap m' → News h₀ L s'.heap ((140, tabO ps') :: (147, tabO qs') :: l) → TriplesOk ps'.toList → TriplesOk qs'.toList → AllBare s'.gens → s'.os = s.os → Q (.ret (.bool true)) s') :
  wpAny (model Challenge.rw_wo0053_01.row.prog w) (callerA.deeper (envOfC "law" lawScope L fa cdv)) (execs (lawBody.drop 5) (envOfC "law" lawScope L fa cdv)) Q E s := by
  have hvl := hvs.length
  have hkl : us.length = ks.length := by have := congrArg List.length hus; simpa using this
  have hsl : st.length = ks.length := by rw [hst]; simp
  revert X; k_fill; intro X
  conv in lawBody.drop 5 => whnf
  conv in lawScope => whnf
  conv in lawScope => whnf
  iterate 4 (first | walk1 | (dsimp only; walk1))
  k_dflt (refine LCg.ListComp_U (F₀ := by k_asm) (by with_unfolding_all rfl) (by decide) (by rfl) (by decide) (by rfl) ?_)
  iterate 1 (first | walk1 | (dsimp only; walk1))
  rename News _ _ _ _ => kN6
  refine LCg.CompSrc.ledger (by rfl) (by k_asm) kN6 (.tail _ (.tail _ (.tail _ (.tail _ (.head _))))) (by simp only [List.size_toArray]; rw [sizeLine_eq]; lia) ?_
  intro g2'
  refine rest_ind (fun i ys nw => nw = _ ∧ ∃ us', ys = strValues us' ∧ us'.map (·.1) = (ks.take i).map word) vs.toArray.size ?_ ?_ vs.toArray.size 0 [] _ (by lia) ⟨rfl, [], rfl, rfl⟩
  · rintro i ys nw v I oI C oC D' m₂ h5 tk5 E5 hin ⟨rfl, us', rfl, hys⟩ hv hC hx F5 N5 off ne
    obtain ⟨tv, rfl, hil⟩ := ints_at hvs hv
    have hik : i < ks.length := by lia
    have hbx := hks (ks.getD i 0) (by rw [List.getD, List.getElem?_eq_getElem hik]; exact List.getElem_mem hik)
    have hsi : st.getD i 0 = ((ks.getD i 0 : Nat) : Int) + 1 := by rw [hst]; simp [List.getD_eq_getElem?_getD, hik]
    rw [hsi] at hx
    have off0 := off
    simp only [LCg.Off3] at off
    iterate 7 (first | walk1 | (dsimp only; walk1))
    rw [show ((ks.getD i 0 : Nat) : Int) + 1 - 1 = ((ks.getD i 0 : Nat) : Int) by lia]
    iterate 3 (first | walk1 | (dsimp only; walk1))
    exact ⟨h5, _, _, rfl, F5, N5, off0, Or.inr ⟨W.listOf vs.toArray c, .tail _ (.tail _ (.tail _ (.tail _ (.head _)))), rfl, _, rfl⟩, rfl, us' ++ [(_, _)], Mine.strs_snoc _ _ _, Mine.words_snoc hik (Mine.word_txt _) hys⟩
  · rintro zs3 nw ⟨rfl, us', rfl, hus'⟩
    intro D3 h9 tk9 F9 N9 o9
    simp only [LCg.Off1, and_true] at o9
    have hkz : ks.take vs.toArray.size = ks := List.take_of_length_le (by simp only [List.size_toArray]; lia)
    rw [hkz] at hus'
    refine words_ne (us := us) (vs := us') ?la ?lb (hus.trans hus'.symm) ?u1 ?u2 ?_
    case la => exact N9.isList (.tail _ (.tail _ (.tail _ (.head _))))
    case lb => exact N9.isList (.head _)
    case u1 => ktr_units
    case u2 => ktr_units
    iterate 4 (first | walk1 | (dsimp only; walk1))
    have hwq : wide.fdiv 2 ≠ 0 := by rw [Int.fdiv_eq_ediv_of_nonneg _ (by decide)]; lia
    refine For_go ?_
    k_steps
    rename_i TT _ kF4 kN4 l4
    obtain ⟨oX, hoX, kN4⟩ := tup_ex kN4
    obtain ⟨mm, hmm, kF5⟩ := fr_ex kF4
    have mW : mm "words" = some (.ref wd) := by rw [hmm]; rfl
    have mS : mm "stops" = some (.ref sd) := by rw [hmm]; rfl
    refine forTup (widthJ wd sd TT L us zs oW oX) rfl kF5 (news := (TT, oX) :: (140, tabO ps) :: (147, tabO qs) :: (wd, LCg.lst (strValues us)) :: (sd, LCg.lst zs) :: (L + 1 + 1, oW) :: (L + 1 + 1 + 1 + 1, oT) :: []) ?nn (.head _) (by rw [hoX]) (by rw [hoX]) G ⟨mW, mS, ps, qs, oT, _, dT, htr, htr2, rfl⟩ ?mem2 ?turn2 ?done2 hE
    case nn =>
      intro p hp
      refine kN4 p ?_
      revert p
      repeat' (first | exact List.forall_mem_nil _ | refine List.forall_mem_cons.mpr ⟨?_, ?_⟩ | exact .head _ | (intro p hp; first | exact hp | (repeat (first | exact hp | apply List.Mem.tail))) | apply List.Mem.tail)
    case mem2 =>
      rintro i m2 l ⟨_, _, ps', qs', oT', v0, _, _, _, rfl⟩
      exact .head _
    case turn2 =>
      rintro i v I oI m2 l s2 hv lt ⟨k1, k2, ps', qs', oT', v0, hT', tr1, tr2, rfl⟩ off F5 N5 G5 o5
      replace F5 : Fr h₀ L s2.heap m2 := F5
      replace N5 : News h₀ L s2.heap _ := N5
      have hvt : ∃ (width : Int) (tt : Tok), v = .int width tt ∧ 1 ≤ width ∧ 2 * width ≤ wide := by
        match i, hv with
        | 0, hv =>
          refine ⟨_, _, (Option.some.inj hv).symm, ?_⟩
          rw [Int.fdiv_eq_ediv_of_nonneg _ (by decide)]; lia
        | 1, hv =>
          refine ⟨_, _, (Option.some.inj hv).symm, ?_⟩
          have hp : 0 < wide.fdiv 2 := by rw [Int.fdiv_eq_ediv_of_nonneg _ (by decide)]; lia
          have a1 := Int.fmod_nonneg_of_pos (total.fdiv 9) hp
          have a2 := Int.fmod_lt_of_pos (total.fdiv 9) hp
          have a3 : 2 * wide.fdiv 2 ≤ wide := by rw [Int.fdiv_eq_ediv_of_nonneg _ (by decide)]; lia
          lia
        | k + 2, hv => cases hv
      obtain ⟨width, tt, rfl, w1, w2⟩ := hvt
      iterate 1 (first | walk1 | (dsimp only; walk1))
      refine storeX_L F5 N5 ?_ (by rfl) (by rfl)
      intro h6 F6 N6
      have hI := off_at off
      have j1 : (fun y : Str => if y = "width" then some (Value.int width tt) else m2 y) "words" = some (Value.ref wd) := by rw [← k1]; rfl
      have j2 : (fun y : Str => if y = "width" then some (Value.int width tt) else m2 y) "stops" = some (Value.ref sd) := by rw [← k2]; rfl
      have j3 : (fun y : Str => if y = "width" then some (Value.int width tt) else m2 y) "width" = some (Value.int width tt) := rfl
      generalize (fun y : Str => if y = "width" then some (Value.int width tt) else m2 y) = m3 at *
      rw [← funext (wid_map j1 j2 j3)] at F6
      have pl := plain width w1 w2
      have iT : @LT.lt Nat _ TT I := lt (TT, oX) (.head _)
      refine law_width B X T F6 (rotW N6) dW hT' G5 g1 g2 g5 g6 g7 ?gr2 ?gL2 tr1 tr2 hus hul hks hzs hSl hSb (by lia) (by lia) pl.row pl.col hE ?ret2
      case gr2 =>
        intro p hp
        simp only [List.mem_cons, List.not_mem_nil, or_false] at hp
        rcases hp with rfl | rfl
        · show @LT.lt Nat _ 147 I; lia
        · show @LT.lt Nat _ 147 TT; lia
      case gL2 =>
        intro p hp
        simp only [List.mem_cons, List.not_mem_nil, or_false] at hp
        rcases hp with rfl | rfl
        · show @Ne Nat I _; lia
        · show @Ne Nat TT _; lia
      case ret2 =>
        intro s3 ps3 qs3 m4 oT3 v3 hm4 F7 N7 hT3 tr3 tr4 G7 o7
        refine ⟨_, _, F7, rotW' N7, allOff_keys off rfl, ⟨?_, ?_, ps3, qs3, oT3, _, hT3, tr3, tr4, rfl⟩, G7, o7.trans o5⟩
        · rw [hm4 "words" (by decide +kernel) (by decide +kernel) (by decide +kernel) (by decide +kernel) (by decide +kernel) (by decide +kernel)]; rfl
        · rw [hm4 "stops" (by decide +kernel) (by decide +kernel) (by decide +kernel) (by decide +kernel) (by decide +kernel) (by decide +kernel)]; rfl
    case done2 =>
      rintro m2 l s2 ⟨k1, k2, ps', qs', oT', v0, hT', tr1, tr2, rfl⟩ F5 N5 G5 o5
      replace F5 : Fr h₀ L s2.heap m2 := F5
      replace N5 : News h₀ L s2.heap _ := N5
      k_steps
      refine ret s2 _ ps' qs' m2 F5 (fun p hp => N5 p (.tail _ hp)) tr1 tr2 G5 ?_
      rw [o5]
end Mine

namespace Mine
theorem fill_rows (w : Nat) (ks : List Nat) : ∀ (c : List Nat × List (List Nat)), ((ks.foldl (stepN (w : Int)) c).2 ++ [(ks.foldl (stepN (w : Int)) c).1]).map List.length = c.2.map List.length ++ fillR w ks (klen c.1) c.1.length := by
  induction ks with
  | nil => intro c; simp [fillR]
  | cons k r ih =>
    intro c
    rw [List.foldl_cons, ih]
    have e : fillR w (k :: r) (klen c.1) c.1.length = bif Nat.ble (klen c.1 + (k + 1)) w then fillR w r (klen c.1 + (k + 1)) (c.1.length + 1) else bif Nat.beq c.1.length 0 then fillR w r (k + 1) 1 else c.1.length :: fillR w r (k + 1) 1 := rfl
    rw [e]
    have hk : klen (c.1 ++ [k]) = klen c.1 + (k + 1) := by simp [klen]
    unfold stepN
    rw [hk]
    by_cases h : (w : Int) < ((klen c.1 + (k + 1) : Nat) : Int)
    · have hb : Nat.ble (klen c.1 + (k + 1)) w = false := by
        rw [Bool.eq_false_iff]; intro hh; have := Nat.le_of_ble_eq_true hh; lia
      rw [if_pos h, hb]
      rcases c with ⟨c1, c2⟩
      cases c1 with
      | nil => simp [klen]
      | cons a b => simp [klen]; rfl
    · have hb : Nat.ble (klen c.1 + (k + 1)) w = true := Nat.ble_eq_true_of_le (by lia)
      rw [if_neg h, hb]
      simp only [hk, List.length_append, List.length_singleton, cond_true]
theorem rows_fill (w : Nat) (ks : List Nat) : (rowsK (w : Int) ks).map List.length = fillR w ks 0 0 := by
  have h := fill_rows w ks ([], [])
  exact h
theorem rows_pair {w : Nat} {ks : List Nat} {a b : Nat} (h : pairIs (fillR w ks 0 0) a b = true) : ∃ q0 q1 qr, rowsK (w : Int) ks = q0 :: q1 :: qr ∧ q0.length = a ∧ q0.length + q1.length = b := by
  rw [← rows_fill] at h
  match hq : rowsK (w : Int) ks with
  | [] => rw [hq] at h; cases h
  | [_] => rw [hq] at h; cases h
  | q0 :: q1 :: qr =>
    rw [hq] at h
    simp only [List.map_cons, pairIs, Bool.and_eq_true] at h
    exact ⟨q0, q1, qr, rfl, Nat.eq_of_beq_eq_true h.1, Nat.eq_of_beq_eq_true h.2⟩
theorem cnt_filter (f : Nat → Bool) (l : List Nat) : cntR f l = (l.filter f).length := by
  induction l with
  | nil => rfl
  | cons x l ih =>
    have e : cntR f (x :: l) = bif f x then Nat.succ (cntR f l) else cntR f l := rfl
    rw [e, List.filter_cons, ih]
    cases f x <;> simp
theorem gap_mod {W x q : Nat} {c : Int} (hW : 0 < W) (hq : q < W) : ((c + (x : Int)).fmod W - (c + (q : Int)).fmod W).fmod W = ((Nat.mod (Nat.add x (Nat.sub W q)) W : Nat) : Int) := by
  have e : (Nat.mod (Nat.add x (Nat.sub W q)) W : Nat) = (x + (W - q)) % W := rfl
  rw [e, Int.fmod_eq_emod_of_nonneg _ (by lia), Int.fmod_eq_emod_of_nonneg _ (by lia), Int.fmod_eq_emod_of_nonneg _ (by lia), ← Int.sub_emod, Int.natCast_emod, ← Int.add_emod_right]
  congr 1
  lia
theorem ok_iff {d w : Nat} {e : Int} (h : e = (d : Int)) : (decide (0 < e) && decide (e ≤ (w : Int))) = (Nat.ble 1 d && Nat.ble d w) := by
  subst h
  congr 1
  · rw [Bool.eq_iff_iff, decide_eq_true_iff, Nat.ble_eq]; lia
  · rw [Bool.eq_iff_iff, decide_eq_true_iff, Nat.ble_eq]; lia
theorem get_shift {P : List Nat} {S : List Int} {c : Int} {W i : Nat} (hS : S = P.map fun (x : Nat) => (c + (x : Int)).fmod (W : Int)) (hi : i < P.length) : S.getD (i : Int).toNat 0 = (c + ((P.getD i 0 : Nat) : Int)).fmod W := by
  subst hS
  rw [Int.toNat_natCast, List.getD_eq_getElem?_getD, List.getElem?_map, List.getD_eq_getElem?_getD, List.getElem?_eq_getElem hi]
  rfl
theorem getD_lt {P : List Nat} {W i : Nat} (hP : ∀ x ∈ P, x < W) (hi : i < P.length) : P.getD i 0 < W := by
  rw [List.getD_eq_getElem?_getD, List.getElem?_eq_getElem hi]
  exact hP _ (List.getElem_mem hi)
theorem max_one (c : Nat) : (if (c : Int) > 1 then (c : Int) else 1) = (((fun c => bif Nat.ble 1 c then c else 1) c : Nat) : Int) := by
  dsimp only
  by_cases h : 1 ≤ c
  · rw [Nat.ble_eq_true_of_le h]
    show _ = (c : Int)
    split <;> lia
  · have : c = 0 := by lia
    subst this
    rfl
theorem near_F {P : List Nat} {S : List Int} {c : Int} {W w i : Nat} (hW : 0 < W) (hP : ∀ x ∈ P, x < W) (hS : S = P.map fun (x : Nat) => (c + (x : Int)).fmod (W : Int)) (hi : i < P.length) : nearN S (i : Int) 1 W w = (nF W w P i : Nat) := by
  have hg := get_shift hS hi
  have hq := getD_lt hP hi
  have hl : (S.filter (nearP S (i : Int) 1 W w)).length = cntR (okF W w (P.getD i 0)) P := by
    rw [cnt_filter]
    have hp : ∀ y, nearP S (i : Int) 1 W w y = (decide (0 < Int.fmod ((y - (c + ((P.getD i 0 : Nat) : Int)).fmod W) * 1) W) && decide (Int.fmod ((y - (c + ((P.getD i 0 : Nat) : Int)).fmod W) * 1) W ≤ w)) := fun y => by unfold nearP; rw [hg]
    rw [funext hp]
    subst hS
    rw [List.filter_map, List.length_map]
    congr 1
    refine List.filter_congr fun x hx => ?_
    dsimp only [Function.comp]
    exact ok_iff (by rw [Int.mul_one]; exact gap_mod hW hq)
  unfold nearN nF
  rw [hl]
  exact max_one _
theorem near_B {P : List Nat} {S : List Int} {c : Int} {W w i : Nat} (hW : 0 < W) (hP : ∀ x ∈ P, x < W) (hS : S = P.map fun (x : Nat) => (c + (x : Int)).fmod (W : Int)) (hi : i < P.length) : nearN S (i : Int) (-1) W w = (nB W w P i : Nat) := by
  have hg := get_shift hS hi
  have hl : (S.filter (nearP S (i : Int) (-1) W w)).length = cntR (okB W w (P.getD i 0)) P := by
    rw [cnt_filter]
    have hp : ∀ y, nearP S (i : Int) (-1) W w y = (decide (0 < Int.fmod ((y - (c + ((P.getD i 0 : Nat) : Int)).fmod W) * (-1)) W) && decide (Int.fmod ((y - (c + ((P.getD i 0 : Nat) : Int)).fmod W) * (-1)) W ≤ w)) := fun y => by unfold nearP; rw [hg]
    rw [funext hp]
    subst hS
    rw [List.filter_map, List.length_map]
    congr 1
    refine List.filter_congr fun x hx => ?_
    dsimp only [Function.comp]
    refine ok_iff ?_
    rw [show ∀ a b : Int, (a - b) * (-1) = b - a from fun a b => by lia]
    exact gap_mod hW (hP x hx)
  unfold nearN nB
  rw [hl]
  exact max_one _
theorem nB_le {P : List Nat} {W w i : Nat} (hi : i < P.length) : nB W w P i ≤ P.length := by
  unfold nB
  dsimp only
  have h := List.length_filter_le (okB W w (P.getD i 0)) P
  rw [cnt_filter]
  cases Nat.ble 1 _ with
  | true => exact h
  | false => show 1 ≤ _; lia
theorem told_F {P : List Nat} {S : List Int} {c : Int} {W w i : Nat} (hW : 0 < W) (hP : ∀ x ∈ P, x < W) (hS : S = P.map fun (x : Nat) => (c + (x : Int)).fmod (W : Int)) (hi : i < P.length) : toldN S (i : Int) 1 W w = (((nF W w P i : Nat) : Int), ((mF W w P i : Nat) : Int)) := by
  have h1 := near_F (w := w) hW hP hS hi
  have hl : S.length = P.length := by subst hS; rw [List.length_map]
  have h2 : nextN S (i : Int) 1 W w = ((Nat.mod (Nat.add i (nF W w P i)) P.length : Nat) : Int) := by
    unfold nextN
    rw [h1, hl, Int.one_mul, Int.fmod_eq_emod_of_nonneg _ (by lia)]
    show _ = (((i + nF W w P i) % P.length : Nat) : Int)
    rw [Int.natCast_emod]; rfl
  have h3 := near_F (w := w) hW hP hS (i := Nat.mod (Nat.add i (nF W w P i)) P.length) (Nat.mod_lt _ (by lia))
  unfold toldN
  rw [h2, h3, h1]
  rfl
theorem told_B {P : List Nat} {S : List Int} {c : Int} {W w i : Nat} (hW : 0 < W) (hP : ∀ x ∈ P, x < W) (hS : S = P.map fun (x : Nat) => (c + (x : Int)).fmod (W : Int)) (hi : i < P.length) : toldN S (i : Int) (-1) W w = (((nB W w P i : Nat) : Int), ((mB W w P i : Nat) : Int)) := by
  have h1 := near_B (w := w) hW hP hS hi
  have hb := nB_le (W := W) (w := w) hi
  have hl : S.length = P.length := by subst hS; rw [List.length_map]
  have h2 : nextN S (i : Int) (-1) W w = ((Nat.mod (Nat.add i (Nat.sub P.length (nB W w P i))) P.length : Nat) : Int) := by
    unfold nextN
    rw [h1, hl, Int.fmod_eq_emod_of_nonneg _ (by lia)]
    show _ = (((i + (P.length - nB W w P i)) % P.length : Nat) : Int)
    rw [Int.natCast_emod, ← Int.add_emod_right]
    congr 1
    lia
  have h3 := near_B (w := w) hW hP hS (i := Nat.mod (Nat.add i (Nat.sub P.length (nB W w P i))) P.length) (Nat.mod_lt _ (by lia))
  unfold toldN
  rw [h2, h3, h1]
  rfl
end Mine

namespace Mine
theorem isPerm_cast {r : List Nat} {f g : Nat → Nat} (h : (r.map f).isPerm (r.map g) = true) : (r.map fun j => ((f j : Nat) : Int)).Perm (r.map fun j => ((g j : Nat) : Int)) := by
  have hp := (List.isPerm_iff.mp h).map fun n : Nat => (n : Int)
  rw [List.map_map, List.map_map] at hp
  exact hp
theorem col_of {xs ys : List Int} {n : Nat} (h : xs.Perm ys) (hn : xs.length = n) : ys.sum = xs.sum ∧ (ys.map fun x => x * x).sum = (xs.map fun x => x * x).sum ∧ sameD (bumps xs) (bumps ys) = true ∧ ((bumps xs).map (·.2)).sum = (n : Int) :=
  ⟨(sum_int_perm h).symm, (sum_int_perm (h.map _)).symm, same_perm h, hn ▸ bumps_sum xs⟩
theorem plain_of {ks P r : List Nat} {W : Nat} {c : Int} {S : List Int} {us : List (Str × Tok)} (hW : 0 < W) (hP : ∀ x ∈ P, x < W) (hS : S = P.map fun (x : Nat) => (c + (x : Int)).fmod (W : Int)) (hul : us.length = P.length) (hr : r = List.range P.length)
    (hc : allF ks P W r = true) (width : Int) (h1 : 1 ≤ width) (h2 : 2 * width ≤ W) : Plain us S ks W width := by
  obtain ⟨w, rfl⟩ : ∃ w : Nat, width = (w : Int) := ⟨width.toNat, by lia⟩
  unfold allF at hc
  have hk := List.all_eq_true.mp hc (w - 1) (List.mem_range.mpr (by lia))
  rw [show w - 1 + 1 = w by lia] at hk
  unfold widF at hk
  rw [Bool.and_eq_true, Bool.and_eq_true] at hk
  obtain ⟨hs, hn, hm⟩ := hk
  subst hr
  have cN : ∀ t : Int, t = 0 ∨ t = 1 → (colT S 1 us.length W w t).Perm (colT S (-1) us.length W w t) := by
    intro t ht
    rcases ht with rfl | rfl
    · have e1 : colT S 1 us.length W w 0 = (List.range P.length).map fun j => ((nF W w P j : Nat) : Int) := by
        unfold colT; rw [hul]
        refine List.map_congr_left fun j hj => ?_
        rw [if_pos rfl, told_F hW hP hS (List.mem_range.mp hj)]
      have e2 : colT S (-1) us.length W w 0 = (List.range P.length).map fun j => ((nB W w P j : Nat) : Int) := by
        unfold colT; rw [hul]
        refine List.map_congr_left fun j hj => ?_
        rw [if_pos rfl, told_B hW hP hS (List.mem_range.mp hj)]
      rw [e1, e2]
      exact isPerm_cast hn
    · have e1 : colT S 1 us.length W w 1 = (List.range P.length).map fun j => ((mF W w P j : Nat) : Int) := by
        unfold colT; rw [hul]
        refine List.map_congr_left fun j hj => ?_
        rw [if_neg (by decide), told_F hW hP hS (List.mem_range.mp hj)]
      have e2 : colT S (-1) us.length W w 1 = (List.range P.length).map fun j => ((mB W w P j : Nat) : Int) := by
        unfold colT; rw [hul]
        refine List.map_congr_left fun j hj => ?_
        rw [if_neg (by decide), told_B hW hP hS (List.mem_range.mp hj)]
      rw [e1, e2]
      exact isPerm_cast hm
  refine ⟨?_, fun t ht => col_of (cN t ht) colT_len⟩
  intro i hi
  have hi' : i < P.length := by lia
  have h := List.all_eq_true.mp hs i (List.mem_range.mpr hi')
  unfold spotF at h
  rw [Bool.and_eq_true] at h
  obtain ⟨q0, q1, qr, e1, f1, g1⟩ := rows_pair h.1
  obtain ⟨p0, p1, pr, e2, f2, g2⟩ := rows_pair h.2
  refine ⟨q0, q1, qr, p0, p1, pr, e1, e2, ?_, ?_, ?_, ?_⟩
  · rw [told_F hW hP hS hi']; dsimp only; lia
  · rw [told_F hW hP hS hi']; dsimp only; lia
  · rw [told_B hW hP hS hi']; dsimp only; lia
  · rw [told_B hW hP hS hi']; dsimp only; lia
theorem plain_all (ns : List Int) {xs st : List Int} (hxs : numsOf ns = xs) (hst : stepsOf xs = st) {us : List (Str × Tok)} (hul : us.length = xs.length) (width : Int) (h1 : 1 ≤ width) (h2 : 2 * width ≤ st.sum) : Plain us (stopsOf xs) (gapsOf xs) st.sum width := by
  have hl : st.length = xs.length := by rw [← hst, steps_len]
  have hcs := steps_cases ns
  rw [hxs, hst] at hcs
  rcases hcs with e | ⟨a, ha, e⟩ | ⟨a, b, ha, hb, e⟩
  · have hn : xs.length = 4 := by rw [← hl, e]; rfl
    have hg : gapsOf xs = [1, 4, 0, 3] := by unfold gapsOf; rw [hst, e]; rfl
    have hs : stopsOf xs = [0, 2, 7, 8].map fun (x : Nat) => (xs.sum.fmod 12 + (x : Int)).fmod ((12 : Nat) : Int) := by
      unfold stopsOf stopOf; rw [hn, hst, e]; rfl
    have hw : st.sum = ((12 : Nat) : Int) := by rw [e]; rfl
    rw [hg, hw]
    exact plain_of (by decide) (by decide) hs (by rw [hul, hn]; rfl) rfl all4_ok width h1 (by rw [← hw]; exact h2)
  · obtain ⟨k, rfl⟩ : ∃ k : Nat, a = (k : Int) + 1 := ⟨(a - 1).toNat, by lia⟩
    have hn : xs.length = 5 := by rw [← hl, e]; rfl
    have hg : gapsOf xs = [k, 1, 4, 0, 3] := by
      unfold gapsOf; rw [hst, e]
      simp only [List.map_cons, List.map_nil]
      rw [show ((k : Int) + 1 - 1).toNat = k by lia]; rfl
    have hw : st.sum = ((k + 13 : Nat) : Int) := by rw [e]; simp only [List.sum_cons, List.sum_nil]; lia
    have hs : stopsOf xs = [0, k + 1, k + 3, k + 8, k + 9].map fun (x : Nat) => (xs.sum.fmod ((k + 13 : Nat) : Int) + (x : Int)).fmod ((k + 13 : Nat) : Int) := by
      unfold stopsOf stopOf; rw [hn, hst, hw, e]
      simp only [List.range, List.range.loop, List.map_cons, List.map_nil, List.take_zero, List.take_succ_cons, List.sum_cons, List.sum_nil]
      refine congr (congrArg _ ?_) (congr (congrArg _ ?_) (congr (congrArg _ ?_) (congr (congrArg _ ?_) (congr (congrArg _ ?_) rfl)))) <;> congr 2 <;> lia
    rw [hg, hw]
    have hc : all5 k = true := List.all_eq_true.mp all5_ok k (List.mem_range.mpr (by lia))
    refine plain_of (by lia) ?_ hs (by rw [hul, hn]; rfl) rfl hc width h1 (by rw [← hw]; exact h2)
    intro x hx
    simp only [List.mem_cons, List.not_mem_nil, or_false] at hx
    lia
  · obtain ⟨k, rfl⟩ : ∃ k : Nat, a = (k : Int) + 1 := ⟨(a - 1).toNat, by lia⟩
    obtain ⟨j, rfl⟩ : ∃ k : Nat, b = (k : Int) + 1 := ⟨(b - 1).toNat, by lia⟩
    have hn : xs.length = 6 := by rw [← hl, e]; rfl
    have hg : gapsOf xs = [k, j, 1, 4, 0, 3] := by
      unfold gapsOf; rw [hst, e]
      simp only [List.map_cons, List.map_nil]
      rw [show ((k : Int) + 1 - 1).toNat = k by lia, show ((j : Int) + 1 - 1).toNat = j by lia]; rfl
    have hw : st.sum = ((k + j + 14 : Nat) : Int) := by rw [e]; simp only [List.sum_cons, List.sum_nil]; lia
    have hs : stopsOf xs = [0, k + 1, k + j + 2, k + j + 4, k + j + 9, k + j + 10].map fun (x : Nat) => (xs.sum.fmod ((k + j + 14 : Nat) : Int) + (x : Int)).fmod ((k + j + 14 : Nat) : Int) := by
      unfold stopsOf stopOf; rw [hn, hst, hw, e]
      simp only [List.range, List.range.loop, List.map_cons, List.map_nil, List.take_zero, List.take_succ_cons, List.sum_cons, List.sum_nil]
      refine congr (congrArg _ ?_) (congr (congrArg _ ?_) (congr (congrArg _ ?_) (congr (congrArg _ ?_) (congr (congrArg _ ?_) (congr (congrArg _ ?_) rfl))))) <;> congr 2 <;> lia
    rw [hg, hw]
    have hc : all6 k j = true := List.all_eq_true.mp (List.all_eq_true.mp all6_ok k (List.mem_range.mpr (by lia))) j (List.mem_range.mpr (by lia))
    refine plain_of (by lia) ?_ hs (by rw [hul, hn]; rfl) rfl hc width h1 (by rw [← hw]; exact h2)
    intro x hx
    simp only [List.mem_cons, List.not_mem_nil, or_false] at hx
    lia
end Mine

namespace Mine
theorem post_true (as : List WData) : Challenge.rw_wo0053_01.row.claim.post as (.bool true) as = true := by
  first | (with_unfolding_all rfl) | kernel_rfl
theorem steps_gaps {xs st : List Int} (h : stepsOf xs = st) : st = (gapsOf xs).map fun (k : Nat) => (k : Int) + 1 := by
  unfold gapsOf
  rw [h, List.map_map]
  conv => lhs; rw [← List.map_id st]
  refine List.map_congr_left fun x hx => ?_
  have := steps_mem x (h ▸ hx)
  show x = (((x - 1).toNat : Nat) : Int) + 1
  omega
theorem gaps_le {xs : List Int} : ∀ k ∈ gapsOf xs, k ≤ 50 := by
  intro k hk
  unfold gapsOf at hk
  obtain ⟨x, hx, rfl⟩ := List.mem_map.mp hk
  have := steps_mem x hx
  omega
theorem stops_bound (ns : List Int) {xs : List Int} (h : numsOf ns = xs) : ∀ x ∈ stopsOf xs, 0 ≤ x ∧ x ≤ 100 := by
  intro x hx
  unfold stopsOf at hx
  obtain ⟨i, _, rfl⟩ := List.mem_map.mp hx
  have hs := steps_sum ns
  rw [h] at hs
  unfold stopOf
  have a1 := Int.fmod_nonneg_of_pos ((xs.sum.fmod (stepsOf xs).sum) + ((stepsOf xs).take i).sum) (show 0 < (stepsOf xs).sum by omega)
  have a2 := Int.fmod_lt_of_pos ((xs.sum.fmod (stepsOf xs).sum) + ((stepsOf xs).take i).sum) (show 0 < (stepsOf xs).sum by omega)
  omega
theorem sum_upto : ∀ (l : List Int) (B : Int), 0 ≤ B → (∀ x ∈ l, 0 ≤ x ∧ x < B) → 0 ≤ l.sum ∧ l.sum ≤ B * l.length
  | [], B, hB, _ => by simp
  | a :: r, B, hB, h => by
    have ha := h a (.head _)
    have ih := sum_upto r B hB fun x hx => h x (.tail _ hx)
    rw [List.sum_cons, List.length_cons, Int.natCast_add, Int.mul_add]
    omega
theorem nums_sum (ns : List Int) {xs : List Int} (h : numsOf ns = xs) : 0 ≤ xs.sum ∧ xs.sum ≤ 100000000 := by
  have h1 := sum_upto xs 1000000 (by decide) (fun x hx => numsOf_mem (ns := ns) x (h ▸ hx))
  have h2 := nums_len (ns := ns)
  rw [h] at h2
  omega
end Mine

end
theorem Mine.regF15 : True := by
  k_with_none
  k_with "own kne" => ((refine neN ?_; (try dsimp only); walk_at "mine apart"))
  k_with "own ktrroom" => (((try simp only [depth_under_make, depth_under_kw, depth_in1, depth_deeper, depth_caller]); (try dsimp only [ktrTop]); walk_at "mine near"))
  k_with "own ktrunits" => (((try simp only [units_in1, units_deeper, Around.mark_units, units_caller]); (try dsimp only [ktrTop]); walk_at "mine near"))
  k_with "mine near" => (((try simp only [Nat.add_assoc]); first | exact Mine.roomOf ‹_› (by decide) | exact Mine.roomOf0 ‹_› | decide))
  k_with "mine apart" => (first | assumption | exact Ne.symm ‹_› | exact Nat.ne_of_lt ‹_› | exact Nat.ne_of_gt ‹_› | exact Nat.ne_of_lt (Mine.A0 ‹_›) | exact Nat.ne_of_gt (Mine.A0 ‹_›) | exact Mine.A0 ‹_› | exact Ne.symm (Mine.A0 ‹_›) | exact Nat.ne_of_lt (Mine.A1 ‹_›) | exact Nat.ne_of_gt (Mine.A1 ‹_›) | exact Mine.A1 ‹_› | exact Ne.symm (Mine.A1 ‹_›) | exact Nat.ne_of_lt (Mine.A2 ‹_›) | exact Nat.ne_of_gt (Mine.A2 ‹_›) | exact Mine.A2 ‹_› | exact Ne.symm (Mine.A2 ‹_›) | exact Nat.ne_of_lt (Mine.A3 ‹_›) | exact Nat.ne_of_gt (Mine.A3 ‹_›) | exact Mine.A3 ‹_› | exact Ne.symm (Mine.A3 ‹_›) | exact Nat.ne_of_lt (Mine.A4 ‹_›) | exact Nat.ne_of_gt (Mine.A4 ‹_›) | exact Mine.A4 ‹_› | exact Ne.symm (Mine.A4 ‹_›) | exact Nat.ne_of_lt (Mine.A5 ‹_›) | exact Nat.ne_of_gt (Mine.A5 ‹_›) | exact Mine.A5 ‹_› | exact Ne.symm (Mine.A5 ‹_›) | exact Nat.ne_of_lt (Mine.A6 ‹_›) | exact Nat.ne_of_gt (Mine.A6 ‹_›) | exact Mine.A6 ‹_› | exact Ne.symm (Mine.A6 ‹_›) | exact Nat.ne_of_lt (Mine.A7 ‹_›) | exact Nat.ne_of_gt (Mine.A7 ‹_›) | exact Mine.A7 ‹_› | exact Ne.symm (Mine.A7 ‹_›) | exact Nat.ne_of_lt (Mine.A8 ‹_›) | exact Nat.ne_of_gt (Mine.A8 ‹_›) | exact Mine.A8 ‹_› | exact Ne.symm (Mine.A8 ‹_›) | exact Nat.ne_of_lt (Mine.A9 ‹_›) | exact Nat.ne_of_gt (Mine.A9 ‹_›) | exact Mine.A9 ‹_› | exact Ne.symm (Mine.A9 ‹_›) | exact Nat.ne_of_lt (Mine.A10 ‹_›) | exact Nat.ne_of_gt (Mine.A10 ‹_›) | exact Mine.A10 ‹_› | exact Ne.symm (Mine.A10 ‹_›) | decide | omega)
  k_with "getMethod ref" => ((k_here; k_dflt (refine' Mine.accK_method ?k1Zc ?k2Zc ?k3Zc ?k4Zc ?k5Zc ?k6Zc ?k7Zc ?k8Zc ?k9Zc ?k10Zc ?k11Zc ?_; (case k1Zc => k_asm); (case k2Zc => k_asm); (case k3Zc => k_asm); (case k4Zc => k_mem); (case k5Zc => k_mem); (case k6Zc => k_is); (case k7Zc => k_is); (case k8Zc => k_is); (case k9Zc => k_is); (case k10Zc => decide); (case k11Zc => k_get); k_whole)))
  k_with "call builtin:list.append" => ((k_here; (with_reducible show wpAny _ _ (call (Value.builtin _) [Value.ref _, _]) _ _ _); k_dflt (refine' Mine.accK_append ?k1Zc ?k2Zc ?k3Zc ?k4Zc ?k5Zc ?k6Zc ?_ ?zZc; (case k1Zc => k_asm); (case k2Zc => k_asm); (case k3Zc => k_asm); (case k6Zc => k_upd); (case k4Zc => k_mem); (case k5Zc => k_is); (case zZc => first | size_fits | (rw [sizeLine_eq]; omega)); k_whole); intro hqZn FqZn NqZn; (try k_sweep)))
  k_with "getAttr ref" => ((k_here; k_dflt (refine' Mine.accK_get ?k1Zc ?k2Zc ?k3Zc ?k4Zc ?k5Zc ?k6Zc ?k7Zc ?k8Zc ?k9Zc ?k10Zc ?k11Zc ?k12Zc ?k13Zc ?_; (case k1Zc => k_asm); (case k2Zc => k_asm); (case k3Zc => k_asm); (case k4Zc => k_mem); (case k5Zc => k_mem); (case k6Zc => k_is); (case k7Zc => k_is); (case k8Zc => k_is); (case k9Zc => k_is); (case k10Zc => k_is); (case k11Zc => k_is); (case k12Zc => k_get); (case k13Zc => k_handed); k_whole)))
  k_with "setAttr ref" => ((k_here; k_dflt (refine' Mine.accK_set ?k1Zc ?k2Zc ?k3Zc ?k4Zc ?k5Zc ?k6Zc ?k7Zc ?k8Zc ?k9Zc ?k10Zc ?k11Zc ?k12Zc ?k13Zc ?k14Zc ?_; (case k1Zc => k_asm); (case k2Zc => k_asm); (case k3Zc => k_asm); (case k4Zc => k_mem); (case k5Zc => k_mem); (case k6Zc => k_is); (case k7Zc => k_is); (case k8Zc => rfl); (case k9Zc => rfl); (case k10Zc => k_is); (case k11Zc => k_get); (case k12Zc => k_put); (case k13Zc => k_upd); (case k14Zc => exact Nat.le_of_ble_eq_true rfl); k_whole); intro hqZn FqZn NqZn; (try k_sweep)))
  k_with "call builtin:len" => ((k_here; (with_reducible show wpAny _ _ (call (Value.builtin "len") [Value.ref _]) _ _ _); k_dflt (refine' Mine.accK_len ?k1Zc ?k2Zc ?k3Zc ?k4Zc ?k5Zc ?k6Zc ?k7Zc ?_; (case k1Zc => k_asm); (case k2Zc => k_asm); (case k3Zc => k_asm); (case k4Zc => k_mem); (case k5Zc => k_mem); (case k6Zc => k_is); (case k7Zc => k_is); k_whole)))
  k_with "subscriptTail" => ((k_here; (with_reducible show wpAny _ _ (subscriptTail _ _ (Value.ref _) (Value.ref _)) _ _ _); k_dflt (refine' Mine.accK_slice ?k1Zc ?k2Zc ?k3Zc ?k4Zc ?k5Zc ?k6Zc ?k7Zc ?k8Zc ?k9Zc ?k10Zc ?k11Zc ?zZc ?_ ?k12Zc; (case k1Zc => k_asm); (case k2Zc => k_asm); (case k3Zc => k_asm); (case k4Zc => k_mem); (case k5Zc => k_mem); (case k6Zc => k_is); (case k7Zc => k_is); (case k8Zc => k_is); (case k9Zc => first | exact .none | exact .int _ _); (case k10Zc => first | exact .none | exact .int _ _); (case k11Zc => exact Mine.accPick _ _); (case zZc => first | size_fits | (rw [sizeLine_eq]; omega)); (case k12Zc => intro slZn; with_unfolding_all rfl); k_whole); intro lqZn hqZn FqZn NqZn l1Zn; (try k_lt l1Zn); (try k_sweep)))
  k_with "setItem ref" => ((k_here; (with_reducible show wpAny _ _ (setItem (Value.ref _) (Value.ref _) (Value.ref _)) _ _ _); k_dflt (refine' Mine.accK_setSlice ?k1Zc ?k2Zc ?k3Zc ?k4Zc ?k5Zc ?k6Zc ?k7Zc ?k8Zc ?k10Zc ?k11Zc ?k12Zc ?k13Zc ?k14Zc ?zZc ?_; (case k1Zc => k_asm); (case k2Zc => k_asm); (case k3Zc => k_asm); (case k4Zc => k_mem); (case k5Zc => k_mem); (case k6Zc => k_is); (case k7Zc => k_is); (case k8Zc => k_is); (case k10Zc => k_mem); (case k11Zc => first | exact .none | exact .int _ _); (case k12Zc => first | exact .none | exact .int _ _); (case k13Zc => first | exact Mine.accB_all _ _ | exact Mine.accB_del _ _ (by assumption)); (case k14Zc => k_upd); (case zZc => first | size_fits | (simp only [List.length_nil, List.length_cons]; rw [sizeLine_eq]; omega)); k_whole); intro hqZn FqZn NqZn; (try k_sweep)))
  k_with "subscriptTail" => ((k_here; (with_reducible show wpAny _ _ (subscriptTail _ _ (Value.ref _) (Value.int _ _)) _ _ _); k_dflt (refine' Mine.accK_item ?k1Zc ?k2Zc ?k3Zc ?k4Zc ?k5Zc ?k6Zc ?k7Zc ?k8Zc ?k9Zc ?k10Zc ?k11Zc ?_ ?k12Zc; (case k1Zc => k_asm); (case k2Zc => k_asm); (case k3Zc => k_asm); (case k4Zc => k_mem); (case k5Zc => k_mem); (case k6Zc => k_is); (case k7Zc => k_is); (case k8Zc => k_is); (case k9Zc => omega); (case k10Zc => omega); (case k11Zc => first | assumption | rfl); (case k12Zc => with_unfolding_all rfl); k_whole)))
  k_with "mine enter" => ((refine' code_def ?k1Zc ?k2Zc ?k3Zc ?k4Zc ?k5Zc ?kAZc ?kFZc ?kKZc ?k6Zc ?k7Zc ?k8Zc ?k9Zc ?kBZc ?_ ?c2Zc ?c3Zc ?c4Zc ?c5Zc; (case kAZc => exact rfl); (case kFZc => exact rfl); (case kKZc => assumption); (case k1Zc => k_asm); (case k2Zc => k_asm); (case k3Zc => k_asm); (case k4Zc => k_asm); (case k5Zc => k_asm); (case k6Zc => k_is); (case k7Zc => k_is); (case k8Zc => ktr_room); (case k9Zc => first | exact BindsTo.of_eq rfl | exact binds_K (by k_in) rfl (by k_is) rfl rfl rfl); (case c5Zc => decide); (case kBZc => exact locs rfl); (case c2Zc => exact rfl); (case c3Zc => exact rfl); (case c4Zc => exact rfl); k_whole; intro gqZn LqZn hqZn FGqZn FqZn NqZn BqZn XqZn TqZn; (try dsimp only); (try k_lift BqZn); (try k_fold)))
  k_with "mine sub" => (first | exact fun _ h => h | (refine' List.forall_mem_cons.mpr ⟨?maZc, ?mbZc⟩; (case maZc => k_mem); (case mbZc => walk_at "mine sub")) | (intro pZn hpZn; (repeat' first | exact hpZn | apply List.Mem.tail)))
  k_with "mine news" => (first | k_asm | (refine' cb_drop ?cbNZc ?cbSZc; (case cbNZc => assumption); (case cbSZc => walk_at "mine sub")))
  k_with "mine senter" => ((refine' ks_code_super ?k1Zc ?k2Zc ?k3Zc ?k4Zc ?k5Zc ?kAZc ?kFZc ?kKZc ?k6Zc ?k7Zc ?k8Zc ?k9Zc ?kBZc ?_ ?c1Zc ?c2Zc ?c3Zc ?c4Zc; (case kAZc => exact rfl); (case kFZc => exact rfl); (case kKZc => assumption); (case k1Zc => k_asm); (case k2Zc => k_asm); (case k3Zc => k_asm); (case k4Zc => k_asm); (case k5Zc => k_asm); (case k6Zc => k_is); (case k7Zc => k_is); (case k8Zc => ktr_room); (case k9Zc => first | exact BindsTo.of_eq rfl | exact binds_K (by k_in) rfl (by k_is) rfl rfl rfl); (case kBZc => exact locs rfl); (case c1Zc => decide); (case c2Zc => exact rfl); (case c3Zc => exact rfl); (case c4Zc => exact rfl); intro gqZn LqZn hqZn FGqZn FqZn NqZn BqZn XqZn TqZn l1Zn; (try k_lt l1Zn); (try dsimp only); (try k_lift BqZn)))
  k_with "wpAt" => ((ks_step "attributeBase Call"; k_here; k_dflt (refine ks_node (by k_asm) (by k_asm) (by k_asm) (by k_asm) (by k_is) (by rfl) (by rfl) (Mine.accI (by k_asm) (by k_mem) (by k_mem)) (by k_is) (by rfl) (by first | rfl | decide +kernel) (by k_is) (by k_is) (by k_is) (by k_is) (by decide) (by rfl) (by rfl) (by rfl) (by rfl) (by decide +kernel) (by first | boot_by_name | rfl | kernel_rfl) ?_; intro soqZn hqZn FqZn NqZn l1Zn; (try k_lt l1Zn))))
  k_with "getMethod ref" => ((k_here; k_dflt (first | ((with_reducible show wpAny _ _ (getMethod (Value.ref _) (PySem.Str.ofString "pop") _) _ _ _); refine' Mine.accK_supPop ?k1Zc ?k2Zc ?k3Zc ?k4Zc ?k5Zc ?k6Zc ?k7Zc ?k8Zc ?k9Zc ?k10Zc ?_; (case k1Zc => k_asm); (case k2Zc => k_asm); (case k3Zc => k_asm); (case k4Zc => k_mem); (case k5Zc => k_mem); (case k6Zc => k_mem); (case k7Zc => k_is); (case k8Zc => k_is); (case k9Zc => ks_is); (case k10Zc => k_is); intro qqZn hqZn FqZn NqZn l1Zn; (try k_lt l1Zn)) | ((with_reducible show wpAny _ _ (getMethod (Value.ref _) (PySem.Str.ofString "__len__") _) _ _ _); refine' Mine.accK_supLen ?k1Zc ?k2Zc ?k3Zc ?k4Zc ?k5Zc ?k6Zc ?k7Zc ?k8Zc ?k9Zc ?k10Zc ?_; (case k1Zc => k_asm); (case k2Zc => k_asm); (case k3Zc => k_asm); (case k4Zc => k_mem); (case k5Zc => k_mem); (case k6Zc => k_mem); (case k7Zc => k_is); (case k8Zc => k_is); (case k9Zc => ks_is); (case k10Zc => k_is); intro qqZn hqZn FqZn NqZn l1Zn; (try k_lt l1Zn)) | ((with_reducible show wpAny _ _ (getMethod (Value.ref _) (PySem.Str.ofString "__init__") _) _ _ _); refine' Mine.accK_supInit ?k1Zc ?k2Zc ?k3Zc ?k4Zc ?k5Zc ?k6Zc ?k7Zc ?k8Zc ?k9Zc ?k10Zc ?_; (case k1Zc => k_asm); (case k2Zc => k_asm); (case k3Zc => k_asm); (case k4Zc => k_mem); (case k5Zc => k_mem); (case k6Zc => k_mem); (case k7Zc => k_is); (case k8Zc => k_is); (case k9Zc => ks_is); (case k10Zc => k_is); intro qqZn hqZn FqZn NqZn l1Zn; (try k_lt l1Zn)))))
  k_with "callWith ref" => ((k_here; (with_reducible show wpAny _ _ (callWith _ (Value.ref _) [] (backTo _ (starEach [] _)) []) _ _ _); k_dflt (first | (refine' Mine.callLen ?k1Zc ?k2Zc ?k3Zc ?_; (case k1Zc => k_asm); (case k2Zc => k_mem); (case k3Zc => k_mem); k_whole) | (refine' Mine.callInit ?k0Zc ?k1Zc ?k2Zc ?k3Zc ?k4Zc ?_; (case k0Zc => k_asm); (case k1Zc => k_asm); (case k2Zc => k_mem); (case k3Zc => k_upd); (case k4Zc => first | size_fits | (rw [sizeLine_eq]; omega) | (rw [sizeLine_eq]; exact Nat.le_of_ble_eq_true rfl)); k_whole; intro hqZn FqZn NqZn; (try k_sweep)) | (refine' Mine.callPop ?k0Zc ?kXZc ?k1Zc ?k2Zc ?k3Zc ?k4Zc ?k5Zc ?k6Zc ?k7Zc ?k8Zc ?k9Zc ?k10Zc ?_; (case k0Zc => k_asm); (case kXZc => k_asm); (case k1Zc => k_asm); (case k2Zc => k_mem); (case k8Zc => first | assumption | rfl); (case k9Zc => k_upd); (case k3Zc => k_mem); (case k4Zc => k_is); (case k5Zc => k_is); (case k6Zc => rfl); (case k7Zc => k_is); (case k10Zc => rw [sizeLine_eq]; simp at *; omega); k_whole; intro hqZn FqZn NqZn; (try k_sweep)))))
  k_with "wpAt" => ((dsimp only; ks_step "execs cons"; refine ks_wpAt_execs_cons ?_))
  k_with "wpAt" => ((ks_step "eval Call"; k_dflt (refine ks_wpAt_MethodCall ?_)))
  k_with "mine os" => (first | rfl | assumption | (simp only [*]; done))
  k_with "wpAt" => ((ks_step "exec Expr"; k_dflt (refine ks_wpAt_Expr_any ?_)))
  k_with "mine upto" => (repeat' ((fail_if_success (with_reducible show wpAny _ _ (exec (Stmt.For _ _ _ _ _) _) _ _ _)); first | (k_unfold; (try dsimp only)) | (k_end; wrow_close) | walk1 | (dsimp only; walk1) | (leave1; try dsimp only)))
  k_with "mine center" => ((refine' code_defC ?k1Zc ?k2Zc ?k3Zc ?k4Zc ?k5Zc ?kAZc ?kFZc ?kKZc ?k6Zc ?k7Zc ?k8Zc ?k9Zc ?kBZc ?kDZc ?_ ?c2Zc ?c3Zc ?c4Zc; (case kAZc => exact rfl); (case kFZc => exact rfl); (case kKZc => assumption); (case k1Zc => k_asm); (case k2Zc => k_asm); (case k3Zc => k_asm); (case k4Zc => k_asm); (case k5Zc => k_asm); (case k6Zc => k_is); (case k7Zc => k_is); (case k8Zc => ktr_room); (case k9Zc => first | exact BindsTo.of_eq rfl | exact binds_K (by k_in) rfl (by k_is) rfl rfl rfl); (case kBZc => exact rfl); (case kDZc => decide +kernel); (case c2Zc => exact rfl); (case c3Zc => exact rfl); (case c4Zc => exact rfl); k_whole; intro gqZn LqZn hqZn tkqZn cellsqZn FGqZn FqZn NqZn YqZn BqZn XqZn TqZn l1Zn; (try k_lt l1Zn); k_cells YqZn; (try simp only [List.cons_append, List.nil_append] at NqZn); (try dsimp only); (try k_lift BqZn); (try k_fold)))
  k_with "mine bare" => (first | assumption | (simp only [*]; done))
  k_with "eval Dict" => ((k_here; (with_reducible show wpAny _ _ (eval (Expr.Dict [some (Expr.Name _ _)] _ _) _) _ _ _); k_dflt (refine' kdn_eval (knd := PySem.intKind _ _) ?FZc ?NZc ?bZc ?aZc ?lZc ?eZc ?nZc ?_; (case FZc => k_asm); (case NZc => k_asm); (case bZc => exact Top.nolimit (by k_asm)); (case aZc => rfl); (case lZc => rfl); (case eZc => exact List.cons_ne_nil _ _); (case nZc => exact Nat.le_of_ble_eq_true rfl)); intro dqZn hqZn oqZn FqZn NqZn l1Zn loqZn hdqZn; (try k_lt l1Zn)))
  trivial
theorem Mine.rstLM : True := by w_top off; trivial
namespace Mine
theorem news_del {h₀ h : Heap} {L : Addr} {l : List (Addr × Obj)} (k : Nat) (N : News h₀ L h l) : News h₀ L h (l.eraseIdx k) := fun p hp => N p (List.mem_of_mem_eraseIdx hp)
theorem law_main {p : Program} {loose : List Str} {mean : ExcName → Option Value} {mg mb m : Str → Option Value} {w : World} {h₀ : Heap} {L fa la : Addr} {cdv : Value} {s : Shared} {Q : Flow → Shared → Prop} {E : Value → Shared → Prop}
  {vs : List Value} {ns : List Int} {oS oW oN oT : Obj} {vS vW vN vT : Option Value}
  (B : Below callerA h₀ [] h₀) (X : (hd.heap_1 w.params).In h₀) (T : Top p loose mean mg mb h₀)
  (F : Fr h₀ L s.heap m) (hm : m "script" = some (.ref la))
  (N : News h₀ L s.heap ((L + 1 + 1 + 1 + 1, oT) :: (L + 1 + 1 + 1, oN) :: (L + 1 + 1, oW) :: (L + 1, oS) :: (140, tabO #[]) :: (147, tabO #[]) :: []))
  (eS : oS.data = Data.cell vS) (eW : oW.data = Data.cell vW) (eN : oN.data = Data.cell vN) (dQ : oT.data = Data.cell vT) (G : AllBare s.gens)
  (IL : h₀.IsList la vs.toArray) (hI : IntsAre vs ns) (hns : ¬ ((63 : Nat) : Int) < (ns.length : Int)) (lt140 : @LT.lt Nat _ 140 L) (lt147 : @LT.lt Nat _ 147 L)
  (hE : PassesOwn (model Challenge.rw_wo0053_01.row.prog w) (callerA.deeper (envOfC "law" lawScope L fa cdv)) (envOfC "law" lawScope L fa cdv) E)
  (ret : ∀ s' l ps' qs' m', Fr h₀ L s'.heap m' → News h₀ L s'.heap ((140, tabO ps') :: (147, tabO qs') :: l) → TriplesOk ps'.toList → TriplesOk qs'.toList → AllBare s'.gens → s'.os = s.os → Q (.ret (.bool true)) s') :
  wpAny (model Challenge.rw_wo0053_01.row.prog w) (callerA.deeper (envOfC "law" lawScope L fa cdv)) (execs lawBody (envOfC "law" lawScope L fa cdv)) Q E s := by
  rw [← map_at hm] at F
  revert X; k_fill; intro X
  conv in lawBody => whnf
  conv in lawScope => whnf
  conv in lawScope => whnf
  iterate 76 (first | walk1 | (dsimp only; walk1))
  rename (@Ne Nat _ _ ∧ _) => oSt
  rename IntsAre _ (List.map _ (_ ++ _)) => iS
  rename IntsAre _ (_ ++ _) => iN
  rename Obj.data _ = Data.cell (some (Value.int (List.sum (_ ++ _)) _)) => dT
  rename Obj.data _ = Data.cell (some (Value.int (List.sum (List.map _ _)) _)) => dW
  rename Obj.data _ = Data.cell (some (Value.ref _)) => dS
  rename News _ _ _ _ => N
  replace N := news_del 0 (news_del 3 (news_del 4 (news_del 5 N)))
  dsimp only [List.eraseIdx] at N
  generalize hxs : (List.map (fun k' => k'.fmod (10 ^ Int.toNat 6)) (List.take 2 ns) ++ [100, 94, 540, 390]) = xs at iS iN dT dW N
  generalize hst : List.map (fun k' => 1 + k'.fmod 9) xs = st at iS dW N
  have hxs' : Mine.numsOf ns = xs := hxs
  have hst' : Mine.stepsOf xs = st := hst
  have hw : 12 ≤ st.sum ∧ st.sum ≤ 30 := by rw [← hst', ← hxs']; exact Mine.steps_sum ns
  have hxl : 4 ≤ xs.length ∧ xs.length ≤ 6 := by rw [← hxs']; exact Mine.nums_len
  have hw0 : st.sum ≠ 0 := by lia
  have iNl := iN.length
  have iSl := iS.length
  k_dflt (refine Mine.pairAssign (by rfl) (by k_asm) (by rfl) (by with_unfolding_all rfl) (by rfl) (by decide) (by rfl) (by decide) (by rfl) (by rfl) (by decide) (by rfl) (by rfl) ?_)
  iterate 6 (first | walk1 | (dsimp only; walk1))
  rename News _ _ _ _ => kN
  k_dflt (refine Mine.pair_enum (fun i zs nw => nw = _ ∧ IntsAre zs ((Mine.stopsOf xs).take i)) (by rfl) (by k_asm) kN (by k_mem) rfl rfl (by rw [sizeLine_eq]; lia) ⟨rfl, .nil⟩ ?_ ?_)
  · rintro I g hI i zs nw own x y m₂ C oC D h5 tk5 E5 hin ⟨ti, rfl, hvi⟩ ⟨rfl, hzs⟩ hzl hC hma hmb F5 N5 off ho5 ne
    obtain ⟨tv, rfl, hil⟩ := Mine.ints_at iN (by simpa using hvi)
    simp only [List.cons_append, List.nil_append] at N5
    iterate 30 (first | walk1 | (dsimp only; walk1))
    refine ⟨fun a o e => (Fr.keep (by assumption)) a o (X a o e), ?_⟩
    rename News _ _ _ _ => kN
    k_dflt (refine' Mine.con_stop ?k1 ?k2 ?k3 kN ?k5 ?k6 ?k7 ?k8 ?_ ?_ hw.1 hw.2 ?_ ?_ ?_; (case k1 => exact B); (case k2 => k_asm); (case k3 => exact X); (case k5 => exact T); (case k6 => exact rfl); (case k7 => ktr_room); (case k8 => ktr_units))
    · rw [← hst', ← hxs', Int.toNat_natCast]; exact (Mine.stop_arg ns i (by rw [hxs']; exact hil)).1
    · rw [← hst', ← hxs', Int.toNat_natCast]; exact (Mine.stop_arg ns i (by rw [hxs']; exact hil)).2
    · exact (Mine.mem_bound hxs' hil).1
    · exact (Mine.mem_bound hxs' hil).2
    · intro h6 tk6 t6 F6 N6
      exact ⟨h6, tk6, _, rfl, F6, fun p hp => N6 p (.tail _ hp), off, rfl, Mine.stop_ints hst' hil hzs⟩
  · rintro h5 zs nw hzl ⟨rfl, hzs⟩
    rw [List.take_of_length_le (by rw [Mine.stops_len]; lia)] at hzs
    intro D h6 tk6 F6 N6 o6
    simp only [LCg.Off1, and_true] at o6
    iterate 1 (first | walk1 | (dsimp only; walk1))
    k_dflt (refine Mine.pairAssign (by rfl) (by k_asm) (by rfl) (by with_unfolding_all rfl) (by rfl) (by decide) (by rfl) (by decide) (by rfl) (by rfl) (by decide) (by rfl) (by rfl) ?_)
    have hsl := Mine.stops_len (xs := xs)
    iterate 25 (first | walk1 | (dsimp only; walk1))
    rename News _ _ _ _ => kN
    replace kN := news_del 1 (news_del 2 kN)
    dsimp only [List.eraseIdx] at kN
    rename IntsAre _ (List.drop 1 _ ++ List.take 1 _) => iR
    have iRl := iR.length
    have hzl' := hzs.length
    simp only [List.length_append, List.length_drop, List.length_take] at iRl
    k_dflt (refine Mine.pair_zip (fun i zs nw => nw = _ ∧ ∃ us, zs = strValues us ∧ us.map (·.1) = ((Mine.gapsOf xs).take i).map Mine.word) (by rfl) (by k_asm) kN (by k_mem) rfl rfl (by k_mem) rfl rfl (by rw [sizeLine_eq]; lia) (by lia) ⟨rfl, [], rfl, rfl⟩ ?_ ?_)
    · rintro I g hI i zs nw own x y m₂ C oC D h5 tk5 E5 hin ⟨hvi, hvj⟩ ⟨rfl, us, rfl, hus⟩ hzl C hma hmb F5 N5 off ho5 ne
      obtain ⟨tv, rfl, hil⟩ := Mine.ints_at hzs (by simpa using hvi)
      obtain ⟨tw, rfl, hjl⟩ := Mine.ints_at iR (by simpa using hvj)
      simp only [List.cons_append, List.nil_append] at N5
      have hgap := Mine.gap_eq ns hxs' hst' hil
      have hg8 := (Mine.gaps_getD (xs := xs) (i := i) (by lia)).2
      have hgb : 0 ≤ ((List.drop 1 (Mine.stopsOf xs) ++ List.take 1 (Mine.stopsOf xs)).getD i 0 - (Mine.stopsOf xs).getD i 0 - 1).fmod st.sum ∧ ((List.drop 1 (Mine.stopsOf xs) ++ List.take 1 (Mine.stopsOf xs)).getD i 0 - (Mine.stopsOf xs).getD i 0 - 1).fmod st.sum ≤ 8 := by rw [hgap]; lia
      iterate 16 (first | walk1 | (dsimp only; walk1))
      exact ⟨_, _, _, rfl, F5, N5, off, rfl, us ++ [(_, _)], Mine.strs_snoc _ _ _, Mine.word_snoc (by lia) (by rw [hgap]; exact Mine.word_txt _) hus⟩
    · rintro h8 zs2 nw hzl2 ⟨rfl, us, rfl, hus⟩
      rw [List.take_of_length_le (by rw [Mine.gaps_len]; lia)] at hus
      intro D2 h9 tk9 F9 N9 o9
      simp only [LCg.Off1, and_true] at o9
      have hul : us.length = xs.length := by
        have := congrArg List.length hus
        rw [List.length_map, List.length_map, Mine.gaps_len] at this
        exact this
      have hsb := Mine.nums_sum ns hxs'
      dsimp only
      refine Mine.law_tail (us := us) (zs := zs) (S := Mine.stopsOf xs) (st := st) (ks := Mine.gapsOf xs) (wide := st.sum) (total := xs.sum) (rest := []) (ps := #[]) (qs := #[]) (c := ys.length) (vs := ys) B X T F9 ?nn dS dW dT dQ ?gb ?g1 ?g2 ?g3 ?g5 ?g6 ?g7 ?g8 ?gr ?t1 ?t2 iS (Mine.steps_gaps hst') hus ?hu Mine.gaps_le hzs ?hl (Mine.stops_bound ns hxs') hw.1 hw.2 hsb.1 hsb.2 (fun width h1 h2 => Mine.plain_all ns hxs' hst' hul width h1 h2) ?hE ?ret
      case nn =>
        intro p hp
        refine N9 p ?_
        revert p
        repeat' (first | exact List.forall_mem_nil _ | refine List.forall_mem_cons.mpr ⟨?_, ?_⟩ | exact .head _ | (intro p hp; first | exact hp | (repeat (first | exact hp | apply List.Mem.tail))) | apply List.Mem.tail)
      case gb => exact G
      case g1 => constructor <;> (have h := o9; repeat (first | exact Ne.symm h.1 | exact Ne.symm h | replace h := h.2))
      case g2 => constructor <;> (have h := o6; repeat (first | exact Ne.symm h.1 | exact Ne.symm h | replace h := h.2))
      case g3 => constructor <;> (have h := oSt; repeat (first | exact Ne.symm h.1 | exact Ne.symm h | replace h := h.2))
      case g5 => exact lt147
      case g6 => have h := o9; repeat (first | exact Ne.symm h.1 | exact Ne.symm h | replace h := h.2)
      case g7 => have h := o6; repeat (first | exact Ne.symm h.1 | exact Ne.symm h | replace h := h.2)
      case g8 => have h := oSt; repeat (first | exact Ne.symm h.1 | exact Ne.symm h | replace h := h.2)
      case gr => intro p hp; cases hp
      case t1 => exact True.intro
      case t2 => exact True.intro
      case hu => exact Nat.le_trans (Nat.le_of_eq hul) hxl.2
      case hl => exact hsl.trans hul.symm
      case hE => exact hE
      case ret => exact ret
end Mine

theorem Mine.rstZ2 : True := by w_top off; trivial
theorem Mine.law_holds : PySem.Challenge.rw_wo0053_01.Holds := hd (by
  k_fill
  intro w s₀ s₁ mg mb G Y fa o pm cd doc dV kV ho hd hcd hD hmg hg args vals as hpre hlay hrd hwl hlo
  have KX := km_in_of Y
  have KT := km_tabs_of Y
  refine Ground.open G ?_
  intro T B D TE TW
  try (refine guard_noD D (by decide +kernel) ?_; clear D)
  have TA := at_of_top T
  try (obtain ⟨_, _, he, B0⟩ := based_of_top T rfl hmg ho hd; have he' : cd = _ := he; subst he'; clear he)
  clear hmg
  wrow_args hpre hlay hrd hwl hlo
  all_goals (
    first | refine callC_kw (enter_call ?_) | refine enter_call ?_ | refine callC_kw (enter_callW ?_) | refine enter_callW ?_ | w_how
    w_top on
    have K0 := below_caller (Top.heap T)
    w_call any ho hd hcd hD T F
    clear hd TA
    skip)
  rename Fr _ _ _ _ => F
  rename News _ _ _ _ => N
  have h140 : s₁.heap.get? 140 = some (tabObj #[]) := KT 140 (.head _)
  have h147 : s₁.heap.get? 147 = some (tabObj #[]) := KT 147 (.tail _ (.head _))
  have HT : TabsAt [(144, 140), (151, 147)] s₁.heap := by
    intro q hq
    rcases List.mem_cons.mp hq with rfl | hq
    · exact ⟨⟨_, _, _, _, _, _, _, _, _, KX 144 _ rfl, rfl, rfl, rfl, rfl, rfl, rfl, rfl, rfl, by decide⟩, h140⟩
    rcases List.mem_cons.mp hq with rfl | hq
    · exact ⟨⟨_, _, _, _, _, _, _, _, _, KX 151 _ rfl, rfl, rfl, rfl, rfl, rfl, rfl, rfl, rfl, by decide⟩, h147⟩
    cases hq
  have lt140 : @LT.lt Nat _ 140 s₁.heap.objs.size := Heap.lt_size h140
  have lt147 : @LT.lt Nat _ 147 s₁.heap.objs.size := Heap.lt_size h147
  have N2 := ghost_news HT F N
  have F2 := ghost_fr HT F
  have T2 := ghost_top HT T
  have X2 := ghost_K HT KX rfl
  rename Heap.IsList _ _ _ => IL
  have IL2 := ghost_list HT IL
  have K2' : Below callerA (ghostOf s₁.heap [(144, 140), (151, 147)]) [] (ghostOf s₁.heap [(144, 140), (151, 147)]) := below_caller _
  simp only [tabNews, List.map_cons, List.map_nil, List.cons_append, List.nil_append] at N2
  generalize hH0 : ghostOf s₁.heap [(144, 140), (151, 147)] = H0 at N2 F2 T2 X2 IL2 K2'
  clear N F T KX IL K0 TE TW B
  rename Obj.data _ = Data.cell (bindC _ _ _ (Str.ofString "turn")) => dQ
  rename Obj.data _ = Data.cell (bindC _ _ _ (Str.ofString "total")) => dN
  rename Obj.data _ = Data.cell (bindC _ _ _ (Str.ofString "wide")) => dW
  rename Obj.data _ = Data.cell (bindC _ _ _ (Str.ofString "steps")) => dS
  rename IntsAre _ _ => hI
  rename ¬ _ < _ => hns
  refine Mine.law_main K2' X2 T2 F2 (by rfl) N2 dS dW dN dQ (.of_eq hg) IL2 hI hns lt140 lt147 ?hE ?ret
  case hE => walk_at "PassesOwn"
  case ret =>
    intro s' l ps' qs' m' F N _ _ G' o'
    subst hH0
    exact Mine.good_end HT F N G' o' (fun _ => rfl) (Mine.post_true _))

end
end
theorem PySem.Challenge.cw_wo0053_01_holds : PySem.Challenge.rw_wo0053_01.Holds :=
  Mine.law_holds
