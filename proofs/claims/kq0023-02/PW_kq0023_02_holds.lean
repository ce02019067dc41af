import PyProof.Rows.All
import Wide.All
import OpenK.AllK
import Wide.FinOn
import PySem.Builtin.Math.Norm
import PyProof.AttrMissHeap
import Flt.RightMore
import Flt.Zero
import KE.KCompFold
import KE.KFmtOwn
import KE.KTryDeep
import Lean
import PySem.Challenge.RW_kq0023_02
set_option Elab.async false
set_option linter.all false
section
open PySem PySem.W PyProof.Rows
set_option maxRecDepth 100000
set_option maxHeartbeats 8000000
namespace Mine
def vwBody : List Stmt := [0, 1, 3, 4, 5, 8, 9, 10].filterMap fun i => PySem.Challenge.pw_kq0023_02.main.body[i]?
def vw : Program := { PySem.Challenge.pw_kq0023_02 with main := { PySem.Challenge.pw_kq0023_02.main with body := vwBody } }
end Mine
set_option hygiene false in
local macro_rules | `(tactic| o_head $H) => `(tactic|
  (refine holds_open (q := Mine.vw) (loose := [Str.ofString "_tuplegetter", Str.ofString "LinearRegression", Str.ofString "linear_regression"]) (Xt := fun s => xlAt Mine.vw [] s && recOk (RowW.records (OpenRow.toRowW (OpenLaw.row PySem.Challenge.rw_kq0023_02))) s) (XP := XL Mine.vw []) (Yf := Hook.obs $H) (Ya := Hook.val $H) (YP := Hook.says $H) (N := 3272) ?hl (Hook.of $H) (Hook.keeps $H) (fun s e => xl_of s (Bool.and_eq_true_iff.mp e).1) XL.keeps (by rfl) (by rfl) (by rfl) (fun s e => recFacts_of (Bool.and_eq_true_iff.mp e).2) (by rfl) (by first | assumption | decide +kernel) (by decide +kernel) ⟨rfl, rfl, rfl, rfl, rfl, by decide +kernel⟩ ?hw ?hc
   case hl => exact fun w => by kernel_rfl))
open_top Mine.hd for PySem.Challenge.rw_kq0023_02
end

section
namespace Mine
open PySem PySem.Float64

/-- `x` is finite and its value, times 2^1074, is `v`. -/
def Ex (x : UInt64) (v : Int) : Prop := ∃ a m e, decode x = .fin a m e ∧ val x = v
/-- `v` (times 2^-1074) is a double. -/
def Fits (v : Int) : Prop := ∃ t, t < infMag ∧ V t = v.natAbs

theorem Ex.fin {x v} (h : Ex x v) : isFinite x = true := by
  obtain ⟨a, m, e, hd, _⟩ := h; unfold isFinite; rw [hd]
theorem Ex.notNaN {x v} (h : Ex x v) : isNaN x = false := by
  obtain ⟨a, m, e, hd, _⟩ := h; unfold isNaN; rw [hd]
theorem Ex.notInf {x v} (h : Ex x v) : isInf x = false := by
  obtain ⟨a, m, e, hd, _⟩ := h; unfold isInf; rw [hd]
theorem Ex.val {x v} (h : Ex x v) : val x = v := by obtain ⟨a, m, e, hd, hv⟩ := h; exact hv
theorem Ex.uniq {x v w} (h : Ex x v) (h' : Ex x w) : v = w := h.val.symm.trans h'.val
theorem Ex.to {x v w} (h : Ex x v) (e : v = w) : Ex x w := e ▸ h

theorem Ex.pack (neg : Bool) {t : Nat} (h : t < infMag) : Ex (pack neg t) (sgn neg (V t)) := by
  obtain ⟨m, e, hd, _⟩ := decode_pack neg h
  exact ⟨neg, m, e, hd, val_pack neg h⟩
theorem Ex.zero (neg : Bool) : Ex (zero neg) 0 := by
  have := Ex.pack neg (t := 0) (by decide)
  rw [V_zero] at this
  exact this.to (by cases neg <;> rfl)

theorem fits_nat : ∀ (k n : Nat), n ≤ 2 ^ 53 → k ≤ 1990 → ∃ t, t < infMag ∧ V t = n * 2 ^ k := by
  intro k
  induction k with
  | zero =>
    intro n hn _
    refine ⟨n, by have : infMag = 2047 * 2 ^ 52 := rfl; omega, ?_⟩
    have := V_at (k := 0) (q := n) hn (.inr rfl)
    simpa using this
  | succ k ih =>
    intro n hn hk
    by_cases h : 2 ^ 52 ≤ n
    · refine ⟨(k + 1) * 2 ^ 52 + n, ?_, V_at hn (.inl h)⟩
      have : infMag = 2047 * 2 ^ 52 := rfl
      omega
    · obtain ⟨t, ht, hv⟩ := ih (2 * n) (by omega) (by omega)
      refine ⟨t, ht, hv.trans ?_⟩
      rw [Nat.pow_succ]; ac_rfl
theorem Fits.of (n : Int) (k : Nat) (hn : n.natAbs ≤ 2 ^ 53) (hk : k ≤ 1990) : Fits (n * 2 ^ k) := by
  obtain ⟨t, ht, hv⟩ := fits_nat k n.natAbs hn hk
  refine ⟨t, ht, hv.trans ?_⟩
  rw [Int.natAbs_mul, Int.natAbs_pow]; rfl
theorem Fits.zero : Fits 0 := ⟨0, by decide, V_zero⟩
theorem Fits.neg {v} (h : Fits v) : Fits (-v) := by obtain ⟨t, a, b⟩ := h; exact ⟨t, a, b.trans (Int.natAbs_neg v).symm⟩

theorem decode_lt {x : UInt64} {a m e} (h : decode x = .fin a m e) : x.toNat % 2 ^ 63 < infMag := by
  have hi : infMag = 2047 * 2 ^ 52 := rfl
  unfold decode at h
  simp only at h
  split at h
  · split at h <;> cases h
  · rename_i h1
    have h1' : x.toNat / 2 ^ 52 % 2048 ≠ 2047 := by simpa using h1
    omega
theorem Ex.fits {x v} (h : Ex x v) : Fits v := by
  obtain ⟨a, m, e, hd, hv⟩ := h
  have hlt := decode_lt hd
  have hx : x = PySem.Float64.pack (decide (x.toNat / 2 ^ 63 = 1)) (x.toNat % 2 ^ 63) := by
    apply UInt64.toNat_inj.mp
    rw [pack_toNat _ (Nat.mod_lt _ (Nat.two_pow_pos _))]
    have := x.toNat_lt
    by_cases q : x.toNat / 2 ^ 63 = 1
    · simp only [q, decide_true, if_true]; omega
    · simp only [q, decide_false]
      have : x.toNat / 2 ^ 63 = 0 := by omega
      simp; omega
  refine ⟨_, hlt, ?_⟩
  have := (Ex.pack (decide (x.toNat / 2 ^ 63 = 1)) hlt)
  rw [← hx] at this
  rw [← hv, this.val]
  exact (sgn_natAbs _ _).symm

theorem V_last : V (infMag - 1) = (2 ^ 53 - 1) * 2 ^ 2045 := by
  have e : infMag - 1 = 2045 * 2 ^ 52 + (2 ^ 53 - 1) := by unfold infMag; omega
  rw [e]
  exact V_at (k := 2045) (q := 2 ^ 53 - 1) (by omega) (.inl (by omega))

theorem right_exact {r neg W D t} (hr : Right r neg W D) (hD : 0 < D) (ht : t < infMag) (hW : W = D * V t) : Ex r (sgn neg (V t)) := by
  obtain ⟨t', rfl, hle, hov, hn⟩ := hr
  have hlt : t' < infMag := by
    rcases Nat.lt_or_ge t' infMag with h | h
    · exact h
    · exfalso
      have h1 := hov.mp (by omega)
      have h2 : V t ≤ (2 ^ 53 - 1) * 2 ^ 2045 := by rw [← V_last]; exact V_mono (by omega)
      have h3 : D * V t ≤ D * ((2 ^ 53 - 1) * 2 ^ 2045) := Nat.mul_le_mul_left D h2
      have hZ : (0 : Nat) < 2 ^ 2045 := Nat.two_pow_pos _
      generalize (2 : Nat) ^ 2045 = Z at *
      have e2 : (2 ^ 54 - 1) * Z = 2 * ((2 ^ 53 - 1) * Z) + Z := by omega
      have e3 : D * ((2 ^ 54 - 1) * Z) = 2 * (D * ((2 ^ 53 - 1) * Z)) + D * Z := by rw [e2, Nat.mul_add, Nat.mul_left_comm]
      have hDZ : 0 < D * Z := Nat.mul_pos hD hZ
      rw [e3] at h1
      omega
  have h4 := (hn hlt t).1
  have h5 : dist W (D * V t) = 0 := by rw [hW]; unfold dist; omega
  rw [h5] at h4
  have h6 : D * V t' = D * V t := by rw [← hW]; unfold dist at h4; omega
  have h7 : V t' = V t := Nat.eq_of_mul_eq_mul_left hD h6
  exact (Ex.pack neg hlt).to (by rw [h7])

theorem sgn_of (v : Int) : sgn (decide (v < 0)) v.natAbs = v := by
  unfold sgn
  by_cases h : v < 0
  · simp only [h, decide_true, if_true]; omega
  · simp only [h, decide_false]; simp; omega

theorem Ex.add {x y u v} (hx : Ex x u) (hy : Ex y v) (hf : Fits (u + v)) : Ex (add x y) (u + v) := by
  obtain ⟨a, m, e, hdx, rfl⟩ := hx
  obtain ⟨b, k, f, hdy, rfl⟩ := hy
  have h := add_right hdx hdy
  by_cases h0 : PySem.Float64.val x + PySem.Float64.val y = 0
  · rw [h.1 h0, h0]; exact Ex.zero _
  · obtain ⟨t, ht, hv⟩ := hf
    have := right_exact (h.2 h0) (by decide) ht (by rw [hv]; omega)
    exact this.to (by rw [hv, sgn_of])
theorem Ex.neg {y v} (hy : Ex y v) : Ex (neg y) (-v) := by
  obtain ⟨b, k, f, hdy, rfl⟩ := hy
  exact ⟨_, _, _, neg_decode hdy, neg_val hdy⟩
theorem Ex.sub {x y u v} (hx : Ex x u) (hy : Ex y v) (hf : Fits (u - v)) : Ex (sub x y) (u - v) := by
  have h := (hx.add hy.neg (by rw [← Int.sub_eq_add_neg]; exact hf)).to (Int.sub_eq_add_neg).symm
  unfold Float64.sub
  exact h

theorem sgn_xor (a b : Bool) (m k : Nat) : sgn (a != b) (m * k) = sgn a m * sgn b k := by
  unfold sgn; cases a <;> cases b <;> simp [Int.neg_mul, Int.mul_neg, Int.natCast_mul]

theorem Ex.mul {x y u v w} (hx : Ex x u) (hy : Ex y v) (hw : u * v = w * 2 ^ 1074) (hf : Fits w) : Ex (mul x y) w := by
  obtain ⟨a, m, e, hdx, hu⟩ := hx
  obtain ⟨b, k, f, hdy, hv⟩ := hy
  obtain ⟨t, ht, hvt⟩ := hf
  have h := mul_right hdx hdy
  rw [hu, hv] at h
  have hK : (0 : Nat) < 2 ^ 1074 := Nat.two_pow_pos _
  have e1 : u.natAbs * v.natAbs = 2 ^ 1074 * V t := by
    rw [hvt, ← Int.natAbs_mul, hw, Int.natAbs_mul, Int.natAbs_pow, Nat.mul_comm]; rfl
  have := right_exact h hK ht e1
  refine this.to ?_
  have hs : sgn (a != b) (u.natAbs * v.natAbs) = u * v := by
    rw [← hu, ← hv, sgn_xor, val_eq hdx, val_eq hdy, sgn_natAbs, sgn_natAbs]
  rw [hw, e1, Nat.mul_comm, sgn_mul] at hs
  have h2 : ((2 ^ 1074 : Nat) : Int) = (2 : Int) ^ 1074 := by simp
  rw [h2] at hs
  exact Int.eq_of_mul_eq_mul_right (Int.ne_of_gt (Int.pow_pos (by decide))) hs
theorem Ex.ofInt {i : Int} (hf : Fits (i * 2 ^ 1074)) : Ex (ofInt i) (i * 2 ^ 1074) := by
  obtain ⟨t, ht, hv⟩ := hf
  have e1 : (i * 2 ^ 1074).natAbs = i.natAbs * 2 ^ 1074 := by rw [Int.natAbs_mul, Int.natAbs_pow]; rfl
  have := right_exact (ofInt_right i) (by decide) ht (by rw [hv, e1]; omega)
  refine this.to ?_
  rw [hv, e1, sgn_mul, sgn_of]
  congr 1
theorem Ex.div {x y u v w} (hx : Ex x u) (hy : Ex y v) (hv0 : v ≠ 0) (hw : u * 2 ^ 1074 = w * v) (hf : Fits w) : Ex (div x y) w := by
  obtain ⟨a, m, e, hdx, hu⟩ := hx
  obtain ⟨b, k, f, hdy, hv⟩ := hy
  obtain ⟨t, ht, hvt⟩ := hf
  have hk : k ≠ 0 := by
    rintro rfl
    rw [val_eq hdy] at hv
    apply hv0; rw [← hv]; unfold sgn; split <;> simp
  have h := div_right hdx hdy hk
  rw [hu, hv] at h
  have hvpos : 0 < v.natAbs := by omega
  have e1 : u.natAbs * 2 ^ 1074 = v.natAbs * V t := by
    have := congrArg Int.natAbs hw
    rw [Int.natAbs_mul, Int.natAbs_mul, Int.natAbs_pow] at this
    rw [hvt, Nat.mul_comm v.natAbs]; exact this
  have := right_exact h hvpos ht e1
  refine this.to ?_
  have s1 : sgn a (u.natAbs) = u := by rw [← hu, val_eq hdx, sgn_natAbs]
  have s2 : sgn b (v.natAbs) = v := by rw [← hv, val_eq hdy, sgn_natAbs]
  -- sgn (a != b) (V t) = w
  have s3 : sgn (a != b) (V t) * v = w * v := by
    rw [← hw, ← s1, ← s2]
    have h2 : ((2 ^ 1074 : Nat) : Int) = (2 : Int) ^ 1074 := by generalize (1074 : Nat) = k; simp
    rw [← h2, ← sgn_mul, e1, Nat.mul_comm v.natAbs]
    generalize v.natAbs = V'
    generalize V t = T
    unfold sgn; cases a <;> cases b <;> simp [Int.neg_mul, Int.mul_neg, Int.natCast_mul]
  exact Int.eq_of_mul_eq_mul_right hv0 s3
end Mine
end

section
namespace Mine
open PySem PySem.Float64

/-! quotients -/
theorem right_scale {r neg W D} (c : Nat) (hc : 0 < c) (h : Right r neg W D) : Right r neg (W * c) (D * c) := by
  obtain ⟨t, rfl, hle, hov, hn⟩ := h
  have hd : ∀ v, dist (W * c) (D * c * v) = c * dist W (D * v) := fun v => by
    rw [← dist_mul]; congr 1 <;> ac_rfl
  refine ⟨t, rfl, hle, ?_, fun ht t' => ?_⟩
  · rw [hov]
    generalize (2 ^ 54 - 1) * (2 : Nat) ^ 2045 = K
    have e1 : D * c * K = c * (D * K) := by ac_rfl
    have e2 : 2 * (W * c) = c * (2 * W) := by ac_rfl
    rw [e1, e2]
    exact ⟨fun h => Nat.mul_le_mul_left c h, fun h => Nat.le_of_mul_le_mul_left h hc⟩
  · obtain ⟨h1, h2⟩ := hn ht t'
    rw [hd, hd]
    exact ⟨Nat.mul_le_mul_left c h1, fun a b => h2 a (Nat.eq_of_mul_eq_mul_left hc b)⟩

theorem right_uniq0 {r r' neg W D} (hD : 0 < D) (h : Right r neg W D) (h' : Right r' neg W D) : r = r' := by
  obtain ⟨t, rfl, hle, hov, hn⟩ := h
  obtain ⟨t', rfl, hle', hov', hn'⟩ := h'
  have key : ∀ t t', t ≤ infMag → t' ≤ infMag → (t = infMag ↔ t' = infMag) →
      (t < infMag → ∀ t', dist W (D * V t) ≤ dist W (D * V t') ∧ (V t' ≠ V t → dist W (D * V t) = dist W (D * V t') → t % 2 = 0)) →
      (t' < infMag → ∀ t, dist W (D * V t') ≤ dist W (D * V t) ∧ (V t ≠ V t' → dist W (D * V t') = dist W (D * V t) → t' % 2 = 0)) → ¬ t < t' := by
    intro t t' hle hle' hi hn hn' hlt
    have ht : t < infMag := by omega
    have ht' : t' < infMag := by
      rcases Nat.lt_or_ge t' infMag with h | h
      · exact h
      · have : t' = infMag := by omega
        have := hi.mpr this; omega
    have a := hn ht
    have b := hn' ht'
    have hVs := V_succ t
    have hVl := V_lt hlt
    have e1 : D * V t < D * V t' := Nat.mul_lt_mul_of_pos_left hVl hD
    by_cases hs : t + 1 = t'
    · subst hs
      have p1 := (a (t + 1)).1
      have p2 := (b t).1
      have p3 := (a (t + 1)).2 (by omega) (by omega)
      have p4 := (b t).2 (by omega) (by omega)
      omega
    · have hlt2 : t + 1 < t' := by omega
      have e2 : D * V t < D * V (t + 1) := Nat.mul_lt_mul_of_pos_left hVs hD
      have e3 : D * V (t + 1) < D * V t' := Nat.mul_lt_mul_of_pos_left (V_lt hlt2) hD
      have p1 := (a t').1
      have p2 := (b t).1
      have p3 := (a (t + 1)).1
      generalize D * V t = x at *
      generalize D * V (t + 1) = y at *
      generalize D * V t' = z at *
      unfold dist at *
      omega
  have hi : t = infMag ↔ t' = infMag := hov.trans hov'.symm
  have h1 := key t t' hle hle' hi hn hn'
  have h2 := key t' t hle' hle hi.symm hn' hn
  have : t = t' := by omega
  rw [this]
theorem right_uniq {r r' neg W D W' D'} (hD : 0 < D) (hD' : 0 < D') (h : Right r neg W D) (h' : Right r' neg W' D') (e : W * D' = W' * D) : r = r' := by
  have a := right_scale D' hD' h
  have b := right_scale D hD h'
  rw [← e, show D' * D = D * D' from Nat.mul_comm _ _] at b
  exact right_uniq0 (Nat.mul_pos hD hD') a b

/-- `r` is the double nearest to `n / d`. -/
def Quo (r : UInt64) (n d : Int) : Prop := d ≠ 0 ∧ (n = 0 → Ex r 0) ∧ (n ≠ 0 → Right r (decide (n < 0) != decide (d < 0)) (n.natAbs * 2 ^ 1074) d.natAbs)

theorem Ex.notZero {x v} (h : Ex x v) : isZero x = decide (v = 0) := by
  obtain ⟨a, m, e, hd, hv⟩ := h
  rw [val_eq hd] at hv
  unfold isZero
  rw [hd]
  have hp : 0 < 2 ^ (e + 1074).toNat := Nat.two_pow_pos _
  cases m with
  | zero => simp at hv; symm; simp; rw [← hv]; unfold sgn; split <;> simp
  | succ m =>
    have : v ≠ 0 := by
      rw [← hv]
      have : 0 < (m + 1) * 2 ^ (e + 1074).toNat := Nat.mul_pos (Nat.succ_pos _) hp
      unfold sgn; split <;> omega
    simp [this]

theorem sgn_neg_iff {a : Bool} {k : Nat} (hk : 0 < k) : decide (sgn a k < 0) = a := by
  unfold sgn; cases a <;> simp <;> omega

theorem Ex.quo {x y u v} (hx : Ex x u) (hy : Ex y v) (hv : v ≠ 0) : Quo (PySem.Float64.div x y) u v := by
  obtain ⟨a, m, e, hdx, hu⟩ := hx
  obtain ⟨b, k, f, hdy, hv'⟩ := hy
  have hv2 := hv'
  rw [val_eq hdy] at hv2
  have hk : k ≠ 0 := by rintro rfl; apply hv; rw [← hv2]; unfold sgn; split <;> simp
  have h := div_right hdx hdy hk
  rw [hu, hv'] at h
  have hu2 := hu
  rw [val_eq hdx] at hu2
  have hb : decide (v < 0) = b := by rw [← hv2]; exact sgn_neg_iff (Nat.mul_pos (by omega) (Nat.two_pow_pos _))
  refine ⟨hv, fun h0 => ?_, fun h0 => ?_⟩
  · rw [h0] at h
    have := right_exact h (by omega) (t := 0) (by decide) (by rw [V_zero]; simp)
    refine this.to ?_
    rw [V_zero]; unfold sgn; split <;> rfl
  · have hm : m ≠ 0 := by rintro rfl; apply h0; rw [← hu2]; unfold sgn; split <;> simp
    have ha : decide (u < 0) = a := by rw [← hu2]; exact sgn_neg_iff (Nat.mul_pos (by omega) (Nat.two_pow_pos _))
    rw [ha, hb]; exact h

theorem quo_ofFrac {a b : Int} (hb : b ≠ 0) : Quo (ofFrac (decide (a < 0) != decide (b < 0)) a.natAbs b.natAbs) a b := by
  have h : Right (ofFrac (decide (a < 0) != decide (b < 0)) a.natAbs b.natAbs) (decide (a < 0) != decide (b < 0)) (a.natAbs * 2 ^ 1074) b.natAbs :=
    ofFrac_right (by omega) (by generalize (2:Nat) ^ 1074 = K; ac_rfl) (by omega)
  refine ⟨hb, fun h0 => ?_, fun _ => h⟩
  have h2 := h
  rw [show a.natAbs * 2 ^ 1074 = 0 by rw [h0]; simp] at h2
  have := right_exact h2 (by omega) (t := 0) (by decide) (by rw [V_zero]; simp)
  refine this.to ?_
  rw [V_zero]; unfold sgn; split <;> rfl

theorem quo_eq {r r' n d n' d'} (h : Quo r n d) (h' : Quo r' n' d') (e : n * d' = n' * d) : r = r' ∨ (Ex r 0 ∧ Ex r' 0) := by
  obtain ⟨hd, h0, h1⟩ := h
  obtain ⟨hd', h0', h1'⟩ := h'
  by_cases hn : n = 0
  · right
    refine ⟨h0 hn, h0' ?_⟩
    rw [hn, Int.zero_mul] at e
    rcases Int.mul_eq_zero.mp e.symm with h | h
    · exact h
    · exact absurd h hd
  · left
    have hn' : n' ≠ 0 := by
      rintro rfl
      rw [Int.zero_mul] at e
      rcases Int.mul_eq_zero.mp e with h | h
      · exact hn h
      · exact hd' h
    have hs : (decide (n < 0) != decide (d < 0)) = (decide (n' < 0) != decide (d' < 0)) := by
      have es := congrArg Int.sign e
      rw [Int.sign_mul, Int.sign_mul] at es
      have pos : ∀ z : Int, 0 < z → z.sign = 1 ∧ decide (z < 0) = false := fun z h => ⟨Int.sign_eq_one_of_pos h, by simp; omega⟩
      have neg : ∀ z : Int, z < 0 → z.sign = -1 ∧ decide (z < 0) = true := fun z h => ⟨Int.sign_eq_neg_one_of_neg h, by simp; omega⟩
      have two : ∀ z : Int, z ≠ 0 → (z.sign = 1 ∧ decide (z < 0) = false) ∨ (z.sign = -1 ∧ decide (z < 0) = true) := fun z h => by
        rcases Int.lt_or_gt_of_ne h with a | a
        · exact .inr (neg z a)
        · exact .inl (pos z a)
      rcases two n hn with ⟨a1, a2⟩ | ⟨a1, a2⟩ <;> rcases two n' hn' with ⟨b1, b2⟩ | ⟨b1, b2⟩ <;> rcases two d hd with ⟨c1, c2⟩ | ⟨c1, c2⟩ <;>
        rcases two d' hd' with ⟨f1, f2⟩ | ⟨f1, f2⟩ <;> rw [a1, b1, c1, f1] at es <;> rw [a2, b2, c2, f2] <;> first | rfl | (exfalso; revert es; decide)
    have e2 : n.natAbs * 2 ^ 1074 * d'.natAbs = n'.natAbs * 2 ^ 1074 * d.natAbs := by
      have := congrArg Int.natAbs e
      rw [Int.natAbs_mul, Int.natAbs_mul] at this
      generalize (2:Nat) ^ 1074 = K
      calc n.natAbs * K * d'.natAbs = K * (n.natAbs * d'.natAbs) := by ac_rfl
        _ = K * (n'.natAbs * d.natAbs) := by rw [this]
        _ = _ := by ac_rfl
    have hr := h1 hn
    rw [hs] at hr
    exact right_uniq (by omega) (by omega) hr (h1' hn') e2
end Mine
end

section
namespace Mine
open PySem PySem.Float64 PySem.Builtin.Math

theorem Ex.cmp {x y u v} (hx : Ex x u) (hy : Ex y v) : Float64.cmp x y = some (compare u v) := by
  obtain ⟨a, m, e, hdx, rfl⟩ := hx
  obtain ⟨b, k, f, hdy, rfl⟩ := hy
  exact cmp_right hdx hdy
theorem Ex.cmpEq {x y u v} (hx : Ex x u) (hy : Ex y v) : (Float64.cmp x y == some .eq) = decide (u = v) := by
  rw [hx.cmp hy]
  by_cases h : u = v
  · subst h; simp
  · have : compare u v ≠ .eq := fun c => h (Int.compare_eq_eq.mp c)
    simp [h]
    try exact this
theorem Ex.cmpLt {x y u v} (hx : Ex x u) (hy : Ex y v) : (Float64.cmp x y == some .lt) = decide (u < v) := by
  rw [hx.cmp hy]
  by_cases h : u < v
  · simp [Int.compare_eq_lt.mpr h, h]
  · have : compare u v ≠ .lt := fun c => h (Int.compare_eq_lt.mp c)
    simp [h]
    try exact this
theorem Ex.lt {x y u v} (hx : Ex x u) (hy : Ex y v) : Float64.lt x y = decide (u < v) := hx.cmpLt hy
theorem Ex.cmpInt {x u} (hx : Ex x u) (i : Int) : Float64.cmpInt x i = some (compare u (i * 2 ^ 1074)) := by
  obtain ⟨a, m, e, hdx, rfl⟩ := hx
  exact cmpInt_right hdx i

theorem Ex.abs {x u} (hx : Ex x u) : Ex (Float64.abs x) (u.natAbs : Int) := by
  have hn := hx.notNaN
  obtain ⟨a, m, e, hdx, hu⟩ := hx
  have hlt := decode_lt hdx
  have h : Float64.abs x = PySem.Float64.pack false (x.toNat % 2 ^ 63) := by unfold Float64.abs; rw [if_neg (by simp [hn])]
  rw [h]
  have h2 := Ex.pack false hlt
  refine h2.to ?_
  have h3 : ∃ b, Ex x (sgn b (V (x.toNat % 2 ^ 63))) := by
    refine ⟨decide (x.toNat / 2 ^ 63 = 1), ?_⟩
    have hx' : x = PySem.Float64.pack (decide (x.toNat / 2 ^ 63 = 1)) (x.toNat % 2 ^ 63) := by
      apply UInt64.toNat_inj.mp
      rw [pack_toNat _ (Nat.mod_lt _ (Nat.two_pow_pos _))]
      have := x.toNat_lt
      by_cases q : x.toNat / 2 ^ 63 = 1
      · simp only [q, decide_true, if_true]; omega
      · simp only [q, decide_false]
        have : x.toNat / 2 ^ 63 = 0 := by omega
        simp; omega
    have := Ex.pack (decide (x.toNat / 2 ^ 63 = 1)) hlt
    rw [← hx'] at this
    exact this
  obtain ⟨b, hb⟩ := h3
  have : u = sgn b (V (x.toNat % 2 ^ 63)) := by rw [← hu]; exact hb.val
  rw [this, sgn_natAbs]; rfl

/-! triple length -/
theorem Ex.fmaZero {x y z u v w} (hx : Ex x u) (hy : Ex y v) (hz : Ex z w) (hw : u * v + w * 2 ^ 1074 = 0) : Ex (fma x y z) 0 := by
  obtain ⟨a, m, e, hdx, hu⟩ := hx
  obtain ⟨b, k, f, hdy, hv⟩ := hy
  obtain ⟨c, n, g, hdz, hz⟩ := hz
  have he := decode_ge hdx
  have hf := decode_ge hdy
  have hg := decode_ge hdz
  have hfma : ∃ ng r, fma x y z = (if (sgn (a != b) (m * k * 2 ^ (e + f - min (e + f) g).toNat) + sgn c (n * 2 ^ (g - min (e + f) g).toNat) == 0) then Float64.zero ng else r) := by
    unfold fma
    rw [hdx, hdy, hdz]
    exact ⟨_, _, rfl⟩
  obtain ⟨ng, r, hfma⟩ := hfma
  rw [hfma]
  have hs : sgn (a != b) (m * k * 2 ^ (e + f - min (e + f) g).toNat) + sgn c (n * 2 ^ (g - min (e + f) g).toNat) = 0 := by
    have hp : (sgn (a != b) (m * k * 2 ^ (e + f - min (e + f) g).toNat) + sgn c (n * 2 ^ (g - min (e + f) g).toNat)) * ((2 ^ (min (e + f) g + 2148).toNat : Nat) : Int) = u * v + w * 2 ^ 1074 := by
      rw [Int.add_mul, ← sgn_mul, ← sgn_mul, Nat.mul_assoc (m * k), Nat.mul_assoc n, ← Nat.pow_add, ← Nat.pow_add]
      have e1 : (e + f - min (e + f) g).toNat + (min (e + f) g + 2148).toNat = (e + 1074).toNat + (f + 1074).toNat := by omega
      have e2 : (g - min (e + f) g).toNat + (min (e + f) g + 2148).toNat = (g + 1074).toNat + 1074 := by omega
      rw [e1, e2, Nat.pow_add, Nat.pow_add, ← hu, ← hv, ← hz, val_eq hdx, val_eq hdy, val_eq hdz, ← sgn_xor]
      congr 1
      · congr 1; ac_rfl
      · rw [← Nat.mul_assoc, sgn_mul]
        congr 1
    rw [hw] at hp
    rcases Int.mul_eq_zero.mp hp with h | h
    · exact h
    · exfalso
      have : 0 < 2 ^ (min (e + f) g + 2148).toNat := Nat.two_pow_pos _
      omega
  rw [hs]
  exact Ex.zero _

theorem dlSum_ex {a b u v} (ha : Ex a u) (hb : Ex b v) (hf : Fits (u + v)) : Ex (dlSum a b).1 (u + v) ∧ Ex (dlSum a b).2 0 := by
  have h1 : Ex (Float64.add a b) (u + v) := ha.add hb hf
  have h2 : Ex (Float64.sub (Float64.add a b) a) v := (h1.sub ha (by rw [show u + v - u = v by omega]; exact hb.fits)).to (by omega)
  have h3 : Ex (Float64.sub (Float64.add a b) (Float64.sub (Float64.add a b) a)) u := (h1.sub h2 (by rw [show u + v - v = u by omega]; exact ha.fits)).to (by omega)
  have h4 := ha.sub h3 (by rw [Int.sub_self]; exact Fits.zero)
  have h5 := hb.sub h2 (by rw [Int.sub_self]; exact Fits.zero)
  refine ⟨h1, ?_⟩
  have := h4.add h5 (by simp only [Int.sub_self]; exact Fits.zero)
  exact this.to (by simp)

def TL (t : UInt64 × UInt64 × UInt64) (v : Int) : Prop := Ex t.1 v ∧ Ex t.2.1 0 ∧ Ex t.2.2 0
theorem TL.fma {x y u v w S t} (h : TL t S) (hx : Ex x u) (hy : Ex y v) (hw : u * v = w * 2 ^ 1074) (hfw : Fits w) (hfs : Fits (S + w)) : TL (tlFma x y t) (S + w) := by
  obtain ⟨h1, h2, h3⟩ := h
  have z : Ex (Float64.mul x y) w := hx.mul hy hw hfw
  have z2 : Ex (Float64.fma x y (Float64.neg (Float64.mul x y))) 0 := hx.fmaZero hy z.neg (by rw [hw, Int.neg_mul]; omega)
  obtain ⟨s1, s2⟩ := dlSum_ex h1 z hfs
  have F0 : Fits (0 + 0) := by simpa using Fits.zero
  obtain ⟨r1, r2⟩ := dlSum_ex h2 z2 F0
  obtain ⟨q1, q2⟩ := dlSum_ex (r1.to (by simp : (0:Int)+0 = 0)) s2 F0
  refine ⟨s1, q1.to (by simp), ?_⟩
  have := (h3.add r2 F0)
  exact ((this.to (by simp : (0:Int)+0=0)).add q2 F0).to (by simp)
theorem TL.float {t S} (h : TL t S) : Ex (tlToFloat t) S := by
  obtain ⟨h1, h2, h3⟩ := h
  obtain ⟨s1, s2⟩ := dlSum_ex h2 h1 (by simpa using h1.fits)
  have F0 : Fits (0 + 0) := by simpa using Fits.zero
  have := (h3.add s2 F0).to (by simp : (0:Int)+0 = 0)
  exact (this.add s1 (by simpa using h1.fits)).to (by simp)

/-! fsum -/
/-- the partials after an exact sum -/
def FS (ps : List UInt64) (v : Int) : Prop := (ps = [] ∧ v = 0) ∨ ∃ p, ps = [p] ∧ Ex p v ∧ v ≠ 0
theorem fsum_step {ps S x u} (h : FS ps S) (hx : Ex x u) (hf : Fits (S + u)) :
    isFinite (fsumAdd ps x).2 = true ∧ FS (if isZero (fsumAdd ps x).2 then (fsumAdd ps x).1 else (fsumAdd ps x).1 ++ [(fsumAdd ps x).2]) (S + u) := by
  rcases h with ⟨rfl, rfl⟩ | ⟨p, rfl, hp, hS⟩
  · refine ⟨hx.fin, ?_⟩
    show FS (if isZero x then [] else [] ++ [x]) (0 + u)
    rw [hx.notZero, Int.zero_add]
    by_cases h0 : u = 0
    · simp only [h0, decide_true, if_true]; exact .inl ⟨rfl, rfl⟩
    · simp only [h0, decide_false]; exact .inr ⟨x, rfl, hx, h0⟩
  · -- the pair, greater first
    have key : ∀ a b c d, Ex a c → Ex b d → c + d = S + u → Ex (Float64.add a b) (S + u) ∧ isZero (Float64.sub b (Float64.sub (Float64.add a b) a)) = true := by
      intro a b c d ha hb e
      have h1 : Ex (Float64.add a b) (c + d) := ha.add hb (by rw [e]; exact hf)
      have h2 : Ex (Float64.sub (Float64.add a b) a) d := (h1.sub ha (by rw [show c + d - c = d by omega]; exact hb.fits)).to (by omega)
      have h3 := hb.sub h2 (by rw [Int.sub_self]; exact Fits.zero)
      exact ⟨h1.to e, by rw [h3.notZero]; simp⟩
    have hres : ∃ r, fsumAdd [p] x = ([], r) ∧ Ex r (S + u) := by
      by_cases hl : Float64.lt (Float64.abs x) (Float64.abs p) = true
      · obtain ⟨k1, k2⟩ := key p x S u hp hx rfl
        refine ⟨_, ?_, k1⟩
        simp only [fsumAdd, hl, if_true, k2]
      · have hl' : Float64.lt (Float64.abs x) (Float64.abs p) = false := by simpa using hl
        obtain ⟨k1, k2⟩ := key x p u S hx hp (by omega)
        refine ⟨_, ?_, k1⟩
        simp only [fsumAdd, hl', Bool.false_eq_true, if_false, k2, if_true]
    obtain ⟨r, hr, hE⟩ := hres
    rw [hr]
    refine ⟨hE.fin, ?_⟩
    simp only
    rw [hE.notZero]
    by_cases h0 : S + u = 0
    · simp only [h0, decide_true, if_true]; exact .inl ⟨rfl, rfl⟩
    · simp only [h0, decide_false]; exact .inr ⟨r, rfl, hE, h0⟩
theorem fsum_end {ps S} (h : FS ps S) : Ex (fsumEnd ps) S := by
  rcases h with ⟨rfl, rfl⟩ | ⟨p, rfl, hp, hS⟩
  · exact Ex.zero false
  · exact hp
end Mine
end

section
namespace Mine
open PySem PySem.W PySem.Calls PyProof.Rows PySem.Flt
open Sem (wp)
set_option maxRecDepth 100000

/-- a number, its value times 2^1074 -/
inductive NumV : Value → Int → Prop
  | int {i : Int} (t : Tok) {v : Int} (e : v = i * 2 ^ 1074) (h : Fits v) : NumV (.int i t) v
  | float {x : UInt64} (t : Tok) {v : Int} (h : Ex x v) : NumV (.float x t) v

theorem not_over {n : Int} (h : Fits (n * 2 ^ 1074)) : ¬ Over n := fun o => by
  have := inf_of_over o
  rw [(Ex.ofInt h).notInf] at this
  cases this

namespace F
theorem kind_fsum : builtinKind "math.fsum" = none := by decide +kernel
theorem plain_fsum : plainId "math.fsum" = true := by decide +kernel
theorem entry_fsum : entryFor table "math.fsum" = some Builtin.«math.fsum» := entryFor_of_fast (by kernel_rfl)
theorem args_fsum (a : Value) : argsOk "math.fsum" ⟨[a], []⟩ := by unfold argsOk; kernel_rfl
theorem plain_fsum_loop : plainId "math.fsum.loop" = true := by decide +kernel
theorem entry_fsum_loop : entryFor table "math.fsum.loop" = some Builtin.«math.fsum.loop» := entryFor_of_fast (by kernel_rfl)
end F

section
variable {prog : Program} {w : World} {A : Around} {E : Value → Shared → Prop} {s : Shared}

theorem realArg_num {v : Value} {u : Int} {Q : UInt64 → Shared → Prop} (hA : A.handled = none) (hv : NumV v u) (h : ∀ x tk, Ex x u → s.toks ≤ tk → Q x { s with toks := tk }) :
    wpAny (model prog w) A (Builtin.Math.realArg v) Q E s := by
  cases hv with
  | int t e hf => subst e; exact realArg_int hA (fun o => absurd o (not_over hf)) fun _ => h _ _ (Ex.ofInt hf) (Nat.le_succ _)
  | float t hx =>
    show wpAny _ A (pure _ >>= _) _ _ s
    exact wpAny_bind (wpAny_pure (wpAny_pure (h _ s.toks hx (Nat.le_refl _))))

def unb1 (v : Value) : UInt64 := match v with | .int i _ => i.toNat.toUInt64 | _ => 0
theorem bits_back (l : List UInt64) : (((some (l.map fun x => rawInt (x.toNat : Int)).toArray).getD #[]).toList).map unb1 = l := by
  show (l.map fun x => rawInt (x.toNat : Int)).map unb1 = l
  induction l with
  | nil => rfl
  | cons a r ih =>
    simp only [List.map_cons]
    rw [ih]
    congr 1
    show ((a.toNat : Int)).toNat.toUInt64 = a
    rw [Int.toNat_natCast]
    exact UInt64.ofNat_toNat

def tupObj (l : List Value) : Obj := { cls := .type "tuple", data := .seq l.toArray }
def bitsObj (ps : List UInt64) : Obj := tupObj (ps.map fun x => rawInt (x.toNat : Int))

theorem newTuple_ {M : Model} {A : Around} {E : Value → Shared → Prop} {s : Shared} {vs : List Value} {Q : Value → Shared → Prop} (hsz : vs.length ≤ sizeLine) (h : Q (.ref s.heap.objs.size) { s with heap := s.heap.push (tupObj vs) }) :
    wpAny M A (newTuple vs) Q E s := wpAny_newObj_type h (by show vs.toArray.size ≤ _; rw [List.size_toArray]; exact hsz)

variable {I : Addr} {fp wr : List Addr} {G : Array GenState → Array GenState → Prop} {n : Nat} {P : Nat → Value → Prop} {St : Nat → Shared → Prop} {R : Result → Shared → Prop}

theorem codeAny_fsum_loop (hA : A.handled = none) (W : WalksS prog w A.in1 I fp wr G n P St) (val : Nat → Int) (hval : ∀ i v, P i v → NumV v (val i)) (hfit : ∀ j, j ≤ n → Fits (preSum val j)) :
    ∀ (k i : Nat) (s : Shared) (T T2 : Addr) (ps : List UInt64), n - i = k → i ≤ n → St i s → T ∉ fp → T2 ∉ fp → (∀ b ∈ fp, b < T2) →
    s.heap.get? T = some (bitsObj ps) → s.heap.get? T2 = some (bitsObj [Float64.zero false, Float64.zero false]) → FS ps (preSum val i) →
    (∀ s' r t', Moved wr G s s' → Ex r (preSum val n) → R (.ok (.ret (.float r t'))) s') →
    codeAny (model prog w) A (.builtin "math.fsum.loop" ⟨[.ref I, .ref T, .ref T2], []⟩) R s := by
  intro k
  induction k with
  | zero =>
    intro i s T T2 ps hk hi hst hTf hT2f hfp hT hT2 hps hR
    have hin : i = n := by omega
    subst hin
    refine codeAny_builtin F.entry_fsum_loop ?_
    rw [Around.under_plainId F.plain_fsum_loop _]
    unfold Builtin.«math.fsum.loop»
    show wpAny _ A.in1 ((seqItems? (.ref T) >>= fun o => pure ((o.getD #[]).toList.map unb1)) >>= _) _ _ s
    refine wpAny_bind (wpAny_bind (wpAny_seqItems hT rfl (wpAny_pure ?_)))
    show wpAny _ A.in1 ((seqItems? (.ref T2) >>= fun o => pure ((o.getD #[]).toList.map unb1)) >>= _) _ _ s
    refine wpAny_bind (wpAny_bind (wpAny_seqItems hT2 rfl (wpAny_pure ?_)))
    rw [bits_back ps, bits_back]
    refine wpAny_bind (W.done s _ _ hst fun s' hm => ?_)
    simp only []
    rw [show Float64.isZero (Float64.zero false) = true by rw [(Ex.zero false).notZero]; rfl]
    simp only [Bool.not_true, Bool.false_eq_true, if_false]
    exact wpAny_bind (wpAny_mkFloat (wpAny_pure (hR _ _ _ (hm.then_heap (h' := s'.heap) (Nat.le_succ _) fun _ _ _ e => e) (fsum_end hps))))
  | succ k ih =>
    intro i s T T2 ps hk hi hst hTf hT2f hfp hT hT2 hps hR
    have hlt : i < n := by omega
    refine codeAny_builtin F.entry_fsum_loop ?_
    rw [Around.under_plainId F.plain_fsum_loop _]
    unfold Builtin.«math.fsum.loop»
    show wpAny _ A.in1 ((seqItems? (.ref T) >>= fun o => pure ((o.getD #[]).toList.map unb1)) >>= _) _ _ s
    refine wpAny_bind (wpAny_bind (wpAny_seqItems hT rfl (wpAny_pure ?_)))
    show wpAny _ A.in1 ((seqItems? (.ref T2) >>= fun o => pure ((o.getD #[]).toList.map unb1)) >>= _) _ _ s
    refine wpAny_bind (wpAny_bind (wpAny_seqItems hT2 rfl (wpAny_pure ?_)))
    rw [bits_back ps, bits_back]
    refine wpAny_bind (W.item i s _ _ hlt hst fun v s' hP hst' hm => ?_)
    simp only []
    have hv := hval i v hP
    refine wpAny_bind (wpAny_holding (realArg_num hA hv fun x tk hx htk => ?_))
    obtain ⟨hfin, hFS⟩ := fsum_step hps hx (hfit (i + 1) hlt)
    generalize Float64.fsumAdd ps x = q at hfin hFS ⊢
    obtain ⟨low, top⟩ := q
    simp only [] at hfin hFS ⊢
    rw [hfin]
    simp only [if_true]
    generalize (if Float64.isZero top = true then low else low ++ [top]) = ps' at hFS ⊢
    have hkeepT : ∀ b, b ∉ fp → ∀ o, s.heap.get? b = some o → s'.heap.get? b = some o := fun b hb o e => hm.heap b o (fun h => hb (W.sub _ h)) e
    have hT2' := hkeepT T2 hT2f _ hT2
    have hsz : ∀ b ∈ fp, b < s'.heap.objs.size := fun b hb => Nat.lt_trans (hfp b hb) (Heap.lt_size hT2')
    have hps' : ps'.length ≤ 1 := by
      rcases hFS with ⟨rfl, _⟩ | ⟨p, rfl, _⟩
      · exact Nat.zero_le _
      · exact Nat.le_refl _
    refine wpAny_bind (newTuple_ (vs := ps'.map fun x => rawInt (x.toNat : Int)) (by rw [List.length_map, PySem.sizeLine_eq]; omega) ?_)
    refine wpAny_pure ⟨plainId_quiet F.plain_fsum_loop _, ih (i + 1) _ _ _ ps' (by omega) hlt (W.frame _ s' _ _ hst' htk fun b hb o e => Heap.get?_push_of_some _ e) (fun h => Nat.lt_irrefl _ (hsz _ h)) hT2f hfp (Heap.get?_push_size _ rfl) (Heap.get?_push_of_some _ (hkeepT T2 hT2f _ hT2)) hFS fun s'' r t' hm' hr => hR s'' r t' ?_ hr⟩
    · exact Moved.trans W.gtrans (hm.then_heap htk fun b o _ e => Heap.get?_push_of_some _ e) hm'

theorem call_fsum {x : Value} {Q : Value → Shared → Prop} (hA : A.handled = none)
    (h : wpAny (model prog w) A.in1 (pyIter x) (fun it s₂ => ∃ I fp wr G n P St val, it = .ref I ∧ WalksS prog w A.in1 I fp wr G n P St ∧ St 0 s₂ ∧ (∀ b ∈ fp, b < s₂.heap.objs.size) ∧
      (∀ i v, P i v → NumV v (val i)) ∧ (∀ j, j ≤ n → Fits (preSum val j)) ∧
      ∀ s' r t', Moved wr G s₂ s' → Ex r (preSum val n) → Q (.float r t') s') E s) :
    wpAny (model prog w) A (call (.builtin "math.fsum") [x]) Q E s := by
  refine call_function_tree F.kind_fsum F.plain_fsum F.entry_fsum (F.args_fsum _) ?_
  unfold Builtin.«math.fsum»
  refine wpAny_bind (m := Builtin.Math.mathOne "fsum" _) (wpAny_pure ?_)
  refine wpAny_bind (wpAny_mono h (fun it s₂ h₂ => ?_) fun _ _ e => e)
  obtain ⟨I, fp, wr, G, n, P, St, val, rfl, W, hst, hfp, hval, hfit, hQ⟩ := h₂
  refine wpAny_bind (newTuple_ (vs := ([] : List UInt64).map fun x => rawInt (x.toNat : Int)) (by rw [PySem.sizeLine_eq]; simp) ?_)
  refine wpAny_bind (newTuple_ (vs := [Float64.zero false, Float64.zero false].map fun x => rawInt (x.toNat : Int)) (by rw [PySem.sizeLine_eq]; simp) ?_)
  have hs2 : ∀ b ∈ fp, b < s₂.heap.objs.size := hfp
  refine wpAny_pure ⟨plainId_quiet F.plain_fsum_loop _, codeAny_fsum_loop hA W val hval hfit n 0 _ _ _ [] rfl (Nat.zero_le _)
    (W.frame 0 s₂ _ s₂.toks hst (Nat.le_refl _) fun b _ o e => Heap.get?_push_of_some _ (Heap.get?_push_of_some _ e)) (fun hm => Nat.lt_irrefl _ (hfp _ hm)) (fun hm => ?_) (fun b hb => ?_)
    (Heap.get?_push_of_some _ (Heap.get?_push_size _ rfl)) (Heap.get?_push_size _ rfl) (.inl ⟨rfl, rfl⟩) fun s' r t' hm hr => hQ s' r t' ?_ hr⟩
  · have := hfp _ hm
    rw [Heap.size_push] at this
    exact absurd this (Nat.not_lt.mpr (Nat.le_succ _))
  · have := hfp _ hb
    show b < (s₂.heap.push _).objs.size
    rw [Heap.size_push]; exact Nat.lt_succ_of_lt this
  · exact ⟨fun b o hb e => hm.heap b o hb (Heap.get?_push_of_some _ (Heap.get?_push_of_some _ e)), hm.gens, hm.drawn, hm.os, hm.toks⟩
end
end Mine
end

section
namespace Mine
open PySem PySem.W PySem.Calls PyProof.Rows PySem.Flt
open Sem (wp)
set_option maxRecDepth 100000

namespace F
theorem kind_sumprod : builtinKind "math.sumprod" = none := by decide +kernel
theorem plain_sumprod : plainId "math.sumprod" = true := by decide +kernel
theorem entry_sumprod : entryFor table "math.sumprod" = some Builtin.«math.sumprod» := entryFor_of_fast (by kernel_rfl)
theorem args_sumprod (a b : Value) : argsOk "math.sumprod" ⟨[a, b], []⟩ := by unfold argsOk; kernel_rfl
theorem plain_sumprod_loop : plainId "math.sumprod.loop" = true := by decide +kernel
theorem entry_sumprod_loop : entryFor table "math.sumprod.loop" = some Builtin.«math.sumprod.loop» := entryFor_of_fast (by kernel_rfl)
end F

def isF (v : Value) : Bool := match v with | .float .. => true | _ => false

section
variable {prog : Program} {w : World} {A : Around} {E : Value → Shared → Prop} {s : Shared}
variable {I1 I2 : Addr} {fp1 wr1 fp2 wr2 : List Addr} {G1 G2 Gd : Array GenState → Array GenState → Prop} {n : Nat} {P1 P2 : Nat → Value → Prop} {St1 St2 : Nat → Shared → Prop} {R : Result → Shared → Prop}

structure Two (prog : Program) (w : World) (A : Around) (I1 I2 : Addr) (fp1 wr1 fp2 wr2 : List Addr) (G1 G2 Gd : Array GenState → Array GenState → Prop) (n : Nat) (P1 P2 : Nat → Value → Prop) (St1 St2 : Nat → Shared → Prop) : Prop where
  W1 : WalksS prog w A I1 fp1 wr1 G1 n P1 St1
  W2 : WalksS prog w A I2 fp2 wr2 G2 n P2 St2
  fr1 : ∀ i s s', St1 i s → Moved wr2 G2 s s' → St1 i s'
  fr2 : ∀ i s s', St2 i s → Moved wr1 G1 s s' → St2 i s'
  g1 : ∀ a b, G1 a b → Gd a b
  g2 : ∀ a b, G2 a b → Gd a b
  grefl : ∀ a, Gd a a
  gtrans : ∀ a b c, Gd a b → Gd b c → Gd a c

theorem Two.m1 {s s' : Shared} (W : Two prog w A I1 I2 fp1 wr1 fp2 wr2 G1 G2 Gd n P1 P2 St1 St2) (m : Moved wr1 G1 s s') : Moved (wr1 ++ wr2) Gd s s' :=
  ⟨fun b o hb e => m.heap b o (fun h => hb (List.mem_append_left _ h)) e, W.g1 _ _ m.gens, m.drawn, m.os, m.toks⟩
theorem Two.m2 {s s' : Shared} (W : Two prog w A I1 I2 fp1 wr1 fp2 wr2 G1 G2 Gd n P1 P2 St1 St2) (m : Moved wr2 G2 s s') : Moved (wr1 ++ wr2) Gd s s' :=
  ⟨fun b o hb e => m.heap b o (fun h => hb (List.mem_append_right _ h)) e, W.g2 _ _ m.gens, m.drawn, m.os, m.toks⟩

def asF (v : Value) : Option UInt64 := match v with
  | .float x _ => some x
  | .int i _ => if Float64.isInf (Float64.ofInt i) then none else some (Float64.ofInt i)
  | .bool b => some (Float64.ofInt (if b then 1 else 0))
  | _ => none
theorem asF_num {v : Value} {u : Int} (hv : NumV v u) : ∃ x, Ex x u ∧ asF v = some x := by
  cases hv with
  | int t e hf =>
    subst e
    refine ⟨_, Ex.ofInt hf, ?_⟩
    show (if _ then _ else _) = _
    rw [if_neg (by rw [(Ex.ofInt hf).notInf]; exact Bool.false_ne_true)]
  | float t hx => exact ⟨_, hx, rfl⟩
theorem nat_back (x : UInt64) : ((x.toNat : Int)).toNat.toUInt64 = x := by rw [Int.toNat_natCast]; exact UInt64.ofNat_toNat

theorem codeAny_sumprod_flt (W : Two prog w A.in1 I1 I2 fp1 wr1 fp2 wr2 G1 G2 Gd n P1 P2 St1 St2) (v1 v2 pr : Nat → Int)
    (hval : ∀ i a b, P1 i a → P2 i b → NumV a (v1 i) ∧ NumV b (v2 i) ∧ (isF a || isF b) = true) (hpr : ∀ i, i < n → v1 i * v2 i = pr i * 2 ^ 1074 ∧ Fits (pr i)) (hfit : ∀ j, j ≤ n → Fits (preSum pr j)) (hn : 0 < n) :
    ∀ (k i : Nat) (s : Shared) (T T0 : Addr) (t0 t1 : Tok) (hi lo ti : UInt64) (ob : Obj) (used : Bool), n - i = k → i ≤ n → used = decide (0 < i) → St1 i s → St2 i s → T ∉ fp1 → T ∉ fp2 → T0 ∉ fp1 → T0 ∉ fp2 → (∀ b ∈ fp1, b < T0) → (∀ b ∈ fp2, b < T0) →
    s.heap.get? T = some (bitsObj [hi, lo, ti]) → s.heap.get? T0 = some ob → TL (hi, lo, ti) (preSum pr i) →
    (∀ s' r t', Moved (wr1 ++ wr2) Gd s s' → Ex r (preSum pr n) → R (.ok (.ret (.float r t'))) s') →
    codeAny (model prog w) A (.builtin "math.sumprod.loop" ⟨[.ref I1, .ref I2, .int 0 t0, .bool (!used), .int 0 t1, .bool false, .bool true, .ref T, .bool used], []⟩) R s := by
  intro k
  induction k with
  | zero =>
    intro i s T T0 t0 t1 hi lo ti ob used hk hin hu hst1 hst2 hT1 hT2 hT01 hT02 hb1 hb2 hT hT0 htl hR
    have hin : i = n := by omega
    subst hin
    have hu' : used = true := by rw [hu]; simp [hn]
    subst hu'
    refine codeAny_builtin F.entry_sumprod_loop ?_
    rw [Around.under_plainId F.plain_sumprod_loop _]
    unfold Builtin.«math.sumprod.loop»
    refine wpAny_bind (wpAny_seqItems hT rfl ?_)
    show wpAny _ A.in1 (pyNext (.ref I1) >>= _) _ _ s
    refine wpAny_bind (W.W1.done s _ _ hst1 fun s1 hm1 => ?_)
    refine wpAny_bind (wpAny_holding (W.W2.done s1 _ _ (W.fr2 _ _ _ hst2 hm1) fun s2 hm2 => ?_))
    show wpAny _ A.in1 (rule "math.sumprod.leaves-floats" >>= _) _ _ s2
    refine wpAny_bind (wpAny_rule ?_)
    show wpAny _ A.in1 (mkFloat (Builtin.Math.tlToFloat (((hi.toNat : Int)).toNat.toUInt64, ((lo.toNat : Int)).toNat.toUInt64, ((ti.toNat : Int)).toNat.toUInt64)) >>= _) _ _ s2
    rw [nat_back, nat_back, nat_back]
    refine wpAny_bind (wpAny_mkFloat ?_)
    refine wpAny_bind (wpAny_holding (add_if_fits (by decide) ?_))
    refine wpAny_pure (hR _ _ _ (((W.m1 hm1).trans W.gtrans (W.m2 hm2)).then_heap (h' := s2.heap) (show s2.toks ≤ s2.toks + 1 + 1 by omega) fun _ _ _ e => e) ?_)
    have z0 : Fits ((0:Int) * 2 ^ 1074) := by rw [Int.zero_mul]; exact Fits.zero
    have z : Ex (Float64.ofInt 0) 0 := (Ex.ofInt z0).to (by rw [Int.zero_mul])
    exact (z.add htl.float (by rw [Int.zero_add]; exact htl.float.fits)).to (by rw [Int.zero_add])
  | succ k ih =>
    intro i s T T0 t0 t1 hi lo ti ob used hk hin hu hst1 hst2 hT1 hT2 hT01 hT02 hb1 hb2 hT hT0 htl hR
    have hlt : i < n := by omega
    refine codeAny_builtin F.entry_sumprod_loop ?_
    rw [Around.under_plainId F.plain_sumprod_loop _]
    unfold Builtin.«math.sumprod.loop»
    refine wpAny_bind (wpAny_seqItems hT rfl ?_)
    show wpAny _ A.in1 (pyNext (.ref I1) >>= _) _ _ s
    refine wpAny_bind (W.W1.item i s _ _ hlt hst1 fun va s1 hPa hst1' hm1 => ?_)
    refine wpAny_bind (wpAny_holding (W.W2.item i s1 _ _ hlt (W.fr2 _ _ _ hst2 hm1) fun vb s2 hPb hst2' hm2 => ?_))
    have hst1'' := W.fr1 _ _ _ hst1' hm2
    obtain ⟨na, nb, hf⟩ := hval i va vb hPa hPb
    obtain ⟨xa, hxa, ea⟩ := asF_num na
    obtain ⟨xb, hxb, eb⟩ := asF_num nb
    obtain ⟨hp1, hp2⟩ := hpr i hlt
    have htl' : TL (Builtin.Math.tlFma xa xb (hi, lo, ti)) (preSum pr (i + 1)) := htl.fma hxa hxb hp1 hp2 (hfit (i + 1) hlt)
    have k0 : ∀ b, b ∉ fp1 → b ∉ fp2 → ∀ o, s.heap.get? b = some o → s2.heap.get? b = some o := fun b h1 h2 o e => hm2.heap b o (fun h => h2 (W.W2.sub _ h)) (hm1.heap b o (fun h => h1 (W.W1.sub _ h)) e)
    have hT0' := k0 T0 hT01 hT02 _ hT0
    have f1 : s2.heap.objs.size ∉ fp1 := fun h => Nat.lt_irrefl _ (Nat.lt_trans (hb1 _ h) (Heap.lt_size hT0'))
    have f2 : s2.heap.objs.size ∉ fp2 := fun h => Nat.lt_irrefl _ (Nat.lt_trans (hb2 _ h) (Heap.lt_size hT0'))
    have tail : ∀ J J' : Sem Fin, wpAny (model prog w) A.in1 (match (asF va, asF vb) with
        | (some x, some y) => if Float64.isFinite (Builtin.Math.tlFma x y (((hi.toNat : Int)).toNat.toUInt64, ((lo.toNat : Int)).toNat.toUInt64, ((ti.toNat : Int)).toNat.toUInt64)).1 = true then
            (newTuple [rawInt ((Builtin.Math.tlFma x y (((hi.toNat : Int)).toNat.toUInt64, ((lo.toNat : Int)).toNat.toUInt64, ((ti.toNat : Int)).toNat.toUInt64)).1.toNat : Int), rawInt ((Builtin.Math.tlFma x y (((hi.toNat : Int)).toNat.toUInt64, ((lo.toNat : Int)).toNat.toUInt64, ((ti.toNat : Int)).toNat.toUInt64)).2.1.toNat : Int), rawInt ((Builtin.Math.tlFma x y (((hi.toNat : Int)).toNat.toUInt64, ((lo.toNat : Int)).toNat.toUInt64, ((ti.toNat : Int)).toNat.toUInt64)).2.2.toNat : Int)] >>= fun t =>
              again (.builtin "math.sumprod.loop" ⟨[.ref I1, .ref I2, .int 0 t0, .bool false, rawInt 0, .bool false, .bool true, t, .bool true], []⟩)) else J
        | _ => J')
        (fun fin s' => match fin with | .done f => R (.ok f) s' | .again c' => c'.quiet = true ∧ codeAny (model prog w) A c' R s') (fun e s' => R (.error e) s') s2 := by
      intro J J'
      rw [ea, eb]
      simp only [nat_back]
      generalize hq : Builtin.Math.tlFma xa xb (hi, lo, ti) = q at htl' ⊢
      obtain ⟨q1, q2, q3⟩ := q
      simp only []
      rw [htl'.1.fin]
      simp only [if_true]
      refine wpAny_bind (newTuple_ (by rw [PySem.sizeLine_eq]; simp) ?_)
      refine wpAny_pure ⟨plainId_quiet F.plain_sumprod_loop _, ?_⟩
      refine ih (i + 1) _ s2.heap.objs.size T0 t0 0 q1 q2 q3 ob true (by omega) hlt (by simp) (W.W1.frame _ s2 _ _ hst1'' (Nat.le_refl _) fun b _ o e => Heap.get?_push_of_some _ e) (W.W2.frame _ s2 _ _ hst2' (Nat.le_refl _) fun b _ o e => Heap.get?_push_of_some _ e)
        f1 f2 hT01 hT02 hb1 hb2 (Heap.get?_push_size _ rfl) (Heap.get?_push_of_some _ hT0') htl' fun s' r t' hm' hr => hR s' r t' ?_ hr
      exact Moved.trans W.gtrans (((W.m1 hm1).trans W.gtrans (W.m2 hm2)).then_heap (Nat.le_refl _) fun b o _ e => Heap.get?_push_of_some _ e) hm'
    cases used with
    | false =>
      cases na with
      | int t ea hfa =>
        cases nb with
        | int t' eb hfb => cases hf
        | float t' hxb =>
          show wpAny _ A.in1 (rule "math.sumprod.leaves-ints" >>= _) _ _ s2
          exact wpAny_bind (wpAny_rule (tail _ _))
      | float t hxa =>
        cases nb with
        | int t' eb hfb =>
          show wpAny _ A.in1 (rule "math.sumprod.leaves-ints" >>= _) _ _ s2
          exact wpAny_bind (wpAny_rule (tail _ _))
        | float t' hxb =>
          show wpAny _ A.in1 (rule "math.sumprod.leaves-ints" >>= _) _ _ s2
          exact wpAny_bind (wpAny_rule (tail _ (.unsupported "")))
    | true =>
      cases na with
      | int t ea hfa =>
        cases nb with
        | int t' eb hfb => cases hf
        | float t' hxb => exact tail _ _
      | float t hxa =>
        cases nb with
        | int t' eb hfb => exact tail _ _
        | float t' hxb => exact tail _ (.unsupported "")

theorem call_sumprod_flt {x y : Value} {Q : Value → Shared → Prop}
    (h : wpAny (model prog w) A.in1 (pyIter x) (fun it1 s1 => wpAny (model prog w) A.in1 (pyIter y) (fun it2 s2 => ∃ (I1 I2 : Addr) (fp1 wr1 fp2 wr2 : List Addr) (G1 G2 Gd : Array GenState → Array GenState → Prop) (n : Nat) (P1 P2 : Nat → Value → Prop) (St1 St2 : Nat → Shared → Prop) (v1 v2 pr : Nat → Int), it1 = .ref I1 ∧ it2 = .ref I2 ∧
      Two prog w A.in1 I1 I2 fp1 wr1 fp2 wr2 G1 G2 Gd n P1 P2 St1 St2 ∧ St1 0 s2 ∧ St2 0 s2 ∧ (∀ b ∈ fp1, b < s2.heap.objs.size) ∧ (∀ b ∈ fp2, b < s2.heap.objs.size) ∧
      (∀ i a b, P1 i a → P2 i b → NumV a (v1 i) ∧ NumV b (v2 i) ∧ (isF a || isF b) = true) ∧ (∀ i, i < n → v1 i * v2 i = pr i * 2 ^ 1074 ∧ Fits (pr i)) ∧ (∀ j, j ≤ n → Fits (preSum pr j)) ∧ 0 < n ∧
      ∀ s' r t', Moved (wr1 ++ wr2) Gd s2 s' → Ex r (preSum pr n) → Q (.float r t') s') E s1) E s) :
    wpAny (model prog w) A (call (.builtin "math.sumprod") [x, y]) Q E s := by
  refine call_function_tree F.kind_sumprod F.plain_sumprod F.entry_sumprod (F.args_sumprod _ _) ?_
  unfold Builtin.«math.sumprod»
  refine wpAny_bind (m := Builtin.Math.mathSome "sumprod" 2 2 _) (wpAny_pure ?_)
  refine wpAny_bind (wpAny_mono h (fun it1 s1 h1 => ?_) fun _ _ e => e)
  refine wpAny_bind (wpAny_holding (wpAny_mono h1 (fun it2 s2 h2 => ?_) fun _ _ e => e))
  obtain ⟨I1, I2, fp1, wr1, fp2, wr2, G1, G2, Gd, n, P1, P2, St1, St2, v1, v2, pr, rfl, rfl, W, hst1, hst2, hb1, hb2, hval, hpr, hfit, hn, hQ⟩ := h2
  refine wpAny_bind (wpAny_mkInt ?_)
  refine wpAny_bind (newTuple_ (vs := [Float64.zero false, Float64.zero false, Float64.zero false].map fun x => rawInt (x.toNat : Int)) (by rw [PySem.sizeLine_eq]; simp) ?_)
  have n1 : s2.heap.objs.size ∉ fp1 := fun h => Nat.lt_irrefl _ (hb1 _ h)
  have n2 : s2.heap.objs.size ∉ fp2 := fun h => Nat.lt_irrefl _ (hb2 _ h)
  refine wpAny_pure ⟨plainId_quiet F.plain_sumprod_loop _, codeAny_sumprod_flt W v1 v2 pr hval hpr hfit hn n 0 _ s2.heap.objs.size s2.heap.objs.size s2.toks 0 _ _ _ _ false rfl (Nat.zero_le _) rfl
    (W.W1.frame 0 s2 _ (s2.toks + 1) hst1 (Nat.le_succ _) fun b _ o e => Heap.get?_push_of_some _ e) (W.W2.frame 0 s2 _ (s2.toks + 1) hst2 (Nat.le_succ _) fun b _ o e => Heap.get?_push_of_some _ e)
    n1 n2 n1 n2 hb1 hb2 (Heap.get?_push_size _ rfl) (Heap.get?_push_size _ rfl) ⟨Ex.zero _, Ex.zero _, Ex.zero _⟩ fun s' r t' hm hr => hQ s' r t' ?_ hr⟩
  exact ⟨fun b o hb e => hm.heap b o hb (Heap.get?_push_of_some _ e), hm.gens, hm.drawn, hm.os, Nat.le_trans (Nat.le_succ _) hm.toks⟩

/-! all ints -/
theorem codeAny_sumprod_int (W : Two prog w A.in1 I1 I2 fp1 wr1 fp2 wr2 G1 G2 Gd n P1 P2 St1 St2) (v1 v2 : Nat → Int)
    (hval : ∀ i a b, P1 i a → P2 i b → (∃ t, a = .int (v1 i) t) ∧ (∃ t, b = .int (v2 i) t))
    (hfit : ∀ j, j < n → InLong (v1 j) ∧ InLong (v2 j) ∧ InLong (v1 j * v2 j) ∧ InLong (preSum (fun i => v1 i * v2 i) (j + 1))) (hn : 0 < n) :
    ∀ (k i : Nat) (s : Shared) (T : Addr) (t0 t1 : Tok) (used : Bool), n - i = k → i ≤ n → used = decide (0 < i) → St1 i s → St2 i s → T ∉ fp1 → T ∉ fp2 →
    s.heap.get? T = some (bitsObj [Float64.zero false, Float64.zero false, Float64.zero false]) →
    (∀ s' t', Moved (wr1 ++ wr2) Gd s s' → R (.ok (.ret (.int (preSum (fun i => v1 i * v2 i) n) t'))) s') →
    codeAny (model prog w) A (.builtin "math.sumprod.loop" ⟨[.ref I1, .ref I2, .int 0 t0, .bool true, .int (preSum (fun i => v1 i * v2 i) i) t1, .bool used, .bool true, .ref T, .bool false], []⟩) R s := by
  intro k
  induction k with
  | zero =>
    intro i s T t0 t1 used hk hin hu hst1 hst2 hT1 hT2 hT hR
    have hin : i = n := by omega
    subst hin
    have hu' : used = true := by rw [hu]; simp [hn]
    subst hu'
    refine codeAny_builtin F.entry_sumprod_loop ?_
    rw [Around.under_plainId F.plain_sumprod_loop _]
    unfold Builtin.«math.sumprod.loop»
    refine wpAny_bind (wpAny_seqItems hT rfl ?_)
    show wpAny _ A.in1 (pyNext (.ref I1) >>= _) _ _ s
    refine wpAny_bind (W.W1.done s _ _ hst1 fun s1 hm1 => ?_)
    refine wpAny_bind (wpAny_holding (W.W2.done s1 _ _ (W.fr2 _ _ _ hst2 hm1) fun s2 hm2 => ?_))
    show wpAny _ A.in1 (rule "math.sumprod.leaves-ints" >>= _) _ _ s2
    refine wpAny_bind (wpAny_rule ?_)
    show wpAny _ A.in1 (mkInt _ >>= _) _ _ s2
    refine wpAny_bind (wpAny_mkInt ?_)
    refine wpAny_bind (wpAny_holding (add_int ?_))
    show wpAny _ A.in1 (rule "math.sumprod.leaves-floats" >>= _) _ _ _
    refine wpAny_bind (wpAny_rule ?_)
    refine wpAny_pure ?_
    show R (.ok (.ret (.int (0 + preSum (fun i => v1 i * v2 i) i) _))) _
    rw [Int.zero_add]
    exact hR _ _ (((W.m1 hm1).trans W.gtrans (W.m2 hm2)).then_heap (h' := s2.heap) (show s2.toks ≤ s2.toks + 1 + 1 by omega) fun _ _ _ e => e)
  | succ k ih =>
    intro i s T t0 t1 used hk hin hu hst1 hst2 hT1 hT2 hT hR
    have hlt : i < n := by omega
    refine codeAny_builtin F.entry_sumprod_loop ?_
    rw [Around.under_plainId F.plain_sumprod_loop _]
    unfold Builtin.«math.sumprod.loop»
    refine wpAny_bind (wpAny_seqItems hT rfl ?_)
    show wpAny _ A.in1 (pyNext (.ref I1) >>= _) _ _ s
    refine wpAny_bind (W.W1.item i s _ _ hlt hst1 fun va s1 hPa hst1' hm1 => ?_)
    refine wpAny_bind (wpAny_holding (W.W2.item i s1 _ _ hlt (W.fr2 _ _ _ hst2 hm1) fun vb s2 hPb hst2' hm2 => ?_))
    have hst1'' := W.fr1 _ _ _ hst1' hm2
    obtain ⟨⟨ta, rfl⟩, ⟨tb, rfl⟩⟩ := hval i va vb hPa hPb
    obtain ⟨l1, l2, l3, l4⟩ := hfit i hlt
    show wpAny _ A.in1 (if ((decide (-(2 ^ 63) ≤ v1 i) && decide (v1 i ≤ Builtin.Math.maxSsize)) && (decide (-(2 ^ 63) ≤ v2 i) && decide (v2 i ≤ Builtin.Math.maxSsize)) && (decide (-(2 ^ 63) ≤ v1 i * v2 i) && decide (v1 i * v2 i ≤ Builtin.Math.maxSsize)) &&
      (decide (-(2 ^ 63) ≤ preSum (fun i => v1 i * v2 i) i + v1 i * v2 i) && decide (preSum (fun i => v1 i * v2 i) i + v1 i * v2 i ≤ Builtin.Math.maxSsize))) = true then again _ else _) _ _ s2
    have hm : Builtin.Math.maxSsize = 2 ^ 63 - 1 := rfl
    have l4' : InLong (preSum (fun i => v1 i * v2 i) i + v1 i * v2 i) := l4
    rw [if_pos (by
      unfold InLong at l1 l2 l3 l4'
      simp only [Bool.and_eq_true, decide_eq_true_eq, hm]
      refine ⟨⟨⟨⟨l1.1, ?_⟩, l2.1, ?_⟩, l3.1, ?_⟩, l4'.1, ?_⟩ <;> omega)]
    have k0 : ∀ b, b ∉ fp1 → b ∉ fp2 → ∀ o, s.heap.get? b = some o → s2.heap.get? b = some o := fun b h1 h2 o e => hm2.heap b o (fun h => h2 (W.W2.sub _ h)) (hm1.heap b o (fun h => h1 (W.W1.sub _ h)) e)
    refine wpAny_pure ⟨plainId_quiet F.plain_sumprod_loop _, ?_⟩
    exact ih (i + 1) s2 T t0 0 true (by omega) hlt (by simp) hst1'' hst2' hT1 hT2 (k0 T hT1 hT2 _ hT) fun s' t' hm' => hR s' t' (Moved.trans W.gtrans ((W.m1 hm1).trans W.gtrans (W.m2 hm2)) hm')

theorem call_sumprod_int {x y : Value} {Q : Value → Shared → Prop}
    (h : wpAny (model prog w) A.in1 (pyIter x) (fun it1 s1 => wpAny (model prog w) A.in1 (pyIter y) (fun it2 s2 => ∃ (I1 I2 : Addr) (fp1 wr1 fp2 wr2 : List Addr) (G1 G2 Gd : Array GenState → Array GenState → Prop) (n : Nat) (P1 P2 : Nat → Value → Prop) (St1 St2 : Nat → Shared → Prop) (v1 v2 : Nat → Int), it1 = .ref I1 ∧ it2 = .ref I2 ∧
      Two prog w A.in1 I1 I2 fp1 wr1 fp2 wr2 G1 G2 Gd n P1 P2 St1 St2 ∧ St1 0 s2 ∧ St2 0 s2 ∧ (∀ b ∈ fp1, b < s2.heap.objs.size) ∧ (∀ b ∈ fp2, b < s2.heap.objs.size) ∧
      (∀ i a b, P1 i a → P2 i b → (∃ t, a = .int (v1 i) t) ∧ (∃ t, b = .int (v2 i) t)) ∧
      (∀ j, j < n → InLong (v1 j) ∧ InLong (v2 j) ∧ InLong (v1 j * v2 j) ∧ InLong (preSum (fun i => v1 i * v2 i) (j + 1))) ∧ 0 < n ∧
      ∀ s' t', Moved (wr1 ++ wr2) Gd s2 s' → Q (.int (preSum (fun i => v1 i * v2 i) n) t') s') E s1) E s) :
    wpAny (model prog w) A (call (.builtin "math.sumprod") [x, y]) Q E s := by
  refine call_function_tree F.kind_sumprod F.plain_sumprod F.entry_sumprod (F.args_sumprod _ _) ?_
  unfold Builtin.«math.sumprod»
  refine wpAny_bind (m := Builtin.Math.mathSome "sumprod" 2 2 _) (wpAny_pure ?_)
  refine wpAny_bind (wpAny_mono h (fun it1 s1 h1 => ?_) fun _ _ e => e)
  refine wpAny_bind (wpAny_holding (wpAny_mono h1 (fun it2 s2 h2 => ?_) fun _ _ e => e))
  obtain ⟨I1, I2, fp1, wr1, fp2, wr2, G1, G2, Gd, n, P1, P2, St1, St2, v1, v2, rfl, rfl, W, hst1, hst2, hb1, hb2, hval, hfit, hn, hQ⟩ := h2
  refine wpAny_bind (wpAny_mkInt ?_)
  refine wpAny_bind (newTuple_ (vs := [Float64.zero false, Float64.zero false, Float64.zero false].map fun x => rawInt (x.toNat : Int)) (by rw [PySem.sizeLine_eq]; simp) ?_)
  have n1 : s2.heap.objs.size ∉ fp1 := fun h => Nat.lt_irrefl _ (hb1 _ h)
  have n2 : s2.heap.objs.size ∉ fp2 := fun h => Nat.lt_irrefl _ (hb2 _ h)
  refine wpAny_pure ⟨plainId_quiet F.plain_sumprod_loop _, codeAny_sumprod_int W v1 v2 hval hfit hn n 0 _ s2.heap.objs.size s2.toks 0 false rfl (Nat.zero_le _) rfl
    (W.W1.frame 0 s2 _ (s2.toks + 1) hst1 (Nat.le_succ _) fun b _ o e => Heap.get?_push_of_some _ e) (W.W2.frame 0 s2 _ (s2.toks + 1) hst2 (Nat.le_succ _) fun b _ o e => Heap.get?_push_of_some _ e)
    n1 n2 (Heap.get?_push_size _ rfl) fun s' t' hm => hQ s' t' ?_⟩
  exact ⟨fun b o hb e => hm.heap b o hb (Heap.get?_push_of_some _ e), hm.gens, hm.drawn, hm.os, Nat.le_trans (Nat.le_succ _) hm.toks⟩
end
end Mine
end

section
namespace Mine
open PySem PySem.W PySem.Calls PyProof.Rows PySem.Flt
open Sem (wp)
set_option maxRecDepth 100000

/-- the list's values, times 2^1074 -/
def NumsAre (vs : List Value) (us : List Int) : Prop := vs.length = us.length ∧ ∀ (i : Nat) v, vs[i]? = some v → NumV v (us.getD i 0)
def AllF (vs : List Value) : Prop := ∀ v ∈ vs, isF v = true

theorem preSum_list (us : List Int) : ∀ k, preSum (fun i => us.getD i 0) k = (us.take k).sum
  | 0 => by simp [preSum]
  | k + 1 => by
    show preSum _ k + us.getD k 0 = _
    rw [preSum_list us k]
    rcases Nat.lt_or_ge k us.length with h | h
    · rw [List.take_succ_eq_append_getElem h, List.sum_append, List.getD_eq_getElem?_getD, List.getElem?_eq_getElem h]; simp
    · rw [List.take_of_length_le h, List.take_of_length_le (Nat.le_succ_of_le h), List.getD_eq_getElem?_getD, List.getElem?_eq_none h]; simp
theorem preSum_congr {f g : Nat → Int} : ∀ {k : Nat}, (∀ i, i < k → f i = g i) → preSum f k = preSum g k
  | 0, _ => rfl
  | k + 1, h => by
    show preSum f k + f k = preSum g k + g k
    rw [preSum_congr (fun i hi => h i (Nat.lt_succ_of_lt hi)), h k (Nat.lt_succ_self _)]

section
variable {prog : Program} {w : World} {A : Around} {E : Value → Shared → Prop} {s : Shared} {ax ay : Addr} {xs ys : List Value} {us ws : List Int} {Q : Value → Shared → Prop}

abbrev Kept (h h' : Heap) : Prop := ∀ b o, h.get? b = some o → h'.get? b = some o

theorem moved_kept {s s2 s' : Shared} {wr : List Addr} {G : Array GenState → Array GenState → Prop} (hm : Moved wr G s2 s') (hk : Kept s.heap s2.heap) (hwr : ∀ b ∈ wr, s.heap.get? b = none) : Kept s.heap s'.heap := fun b o e =>
  hm.heap b o (fun hb => by rw [hwr b hb] at e; cases e) (hk b o e)
theorem get_none {h : Heap} {b : Addr} (hb : h.objs.size ≤ b) : h.get? b = none := by
  cases e : h.get? b with
  | none => rfl
  | some o => exact absurd (Heap.lt_size e) (Nat.not_lt.mpr hb)

theorem push2 (h : Heap) (o o' : Obj) (hf : o'.isFreed = false) : ((h.push o).push o').get? (h.objs.size + 1) = some o' := by
  have := Heap.get?_push_size (h.push o) (o := o') hf
  rw [Heap.size_push] at this
  exact this
theorem moved_eq {s s' : Shared} {wr : List Addr} (hm : Moved wr (fun a b => b = a) s s') : s' = { s with heap := s'.heap, toks := s'.toks } := by
  obtain ⟨h', g', d', t', o'⟩ := s'
  obtain ⟨_, hg, hd, ho, _⟩ := hm
  simp only at hg hd ho
  rw [hg, hd, ho]

theorem fsum_list (hA : A.handled = none) (hl : s.heap.IsList ax xs.toArray) (hv : NumsAre xs us) (hfit : ∀ j, j ≤ us.length → Fits (us.take j).sum)
    (h : ∀ h' tk r t, Kept s.heap h' → s.toks ≤ tk → Ex r us.sum → Q (.float r t) { s with heap := h', toks := tk }) :
    wpAny (model prog w) A (call (.builtin "math.fsum") [.ref ax]) Q E s := by
  refine call_fsum hA (wpAny_pyIter_list hl ?_)
  have hlt : ax < s.heap.objs.size := by obtain ⟨_, e, _⟩ := hl; exact Heap.lt_size e
  refine ⟨s.heap.objs.size, [s.heap.objs.size, ax], [s.heap.objs.size], _, xs.toArray.size, _, _, fun i => us.getD i 0, rfl, (Walks.list (A := A.in1) hA _ ax (Nat.ne_of_lt hlt) xs.toArray).toS, ⟨⟨_, Heap.get?_push_size _ rfl, rfl, rfl⟩, hl.push _⟩, ?_, ?_, ?_, ?_⟩
  · intro b hb
    show b < (s.heap.push _).objs.size
    rw [Heap.size_push]
    rcases List.mem_cons.mp hb with rfl | hb
    · exact Nat.lt_succ_self _
    · rcases List.mem_cons.mp hb with rfl | hb
      · exact Nat.lt_succ_of_lt hlt
      · cases hb
  · intro i v hi
    exact hv.2 i v (by simpa using hi)
  · intro j hj
    rw [preSum_list]
    exact hfit j (by rw [← hv.1]; simpa using hj)
  · intro s' r t hm hr
    rw [preSum_list, List.take_of_length_le (by simp [hv.1])] at hr
    rw [moved_eq hm]
    refine h s'.heap s'.toks r t (moved_kept hm (fun b o e => Heap.get?_push_of_some _ e) fun b hb => ?_) hm.toks hr
    rcases List.mem_cons.mp hb with rfl | hb
    · exact get_none (Nat.le_refl _)
    · cases hb

theorem two_lists (hA : A.handled = none) {I1 I2 : Addr} (h1 : ax ≠ I1) (h2 : ay ≠ I2) (h12 : I1 ≠ I2) (h12x : ax ≠ I2) (h21y : ay ≠ I1) (xa ya : Array Value) (e : xa.size = ya.size) :
    Two prog w A I1 I2 [I1, ax] [I1] [I2, ay] [I2] (fun a b => b = a) (fun a b => b = a) (fun a b => b = a) xa.size (fun i v => xa[i]? = some v) (fun i v => ya[i]? = some v)
      (fun i s => s.heap.IsListIter I1 ax i ∧ s.heap.IsList ax xa) (fun i s => s.heap.IsListIter I2 ay i ∧ s.heap.IsList ay ya) where
  W1 := (Walks.list hA I1 ax h1 xa).toS
  W2 := by rw [e]; exact (Walks.list hA I2 ay h2 ya).toS
  fr1 := fun i s s' st hm => ⟨st.1.at fun o e => hm.heap _ o (by simp [h12]) e, st.2.at fun o e => hm.heap _ o (by simp [h12x]) e⟩
  fr2 := fun i s s' st hm => ⟨st.1.at fun o e => hm.heap _ o (by simp [Ne.symm h12]) e, st.2.at fun o e => hm.heap _ o (by simp [h21y]) e⟩
  g1 := fun _ _ e => e
  g2 := fun _ _ e => e
  grefl := fun _ => rfl
  gtrans := fun _ _ _ a b => b.trans a

theorem sumprod_lists_pre (hl : s.heap.IsList ax xs.toArray) (hl2 : s.heap.IsList ay ys.toArray) {K : Addr → Addr → Shared → Prop}
    (h : ∀ I1 I2 s2, I1 = s.heap.objs.size → I2 = s.heap.objs.size + 1 → s2 = { s with heap := (s.heap.push { cls := .type "list_iterator", data := .fields #[.ref ax, .int 0 0] }).push { cls := .type "list_iterator", data := .fields #[.ref ay, .int 0 0] } } → K I1 I2 s2) :
    wpAny (model prog w) A.in1 (pyIter (.ref ax)) (fun it1 s1 => wpAny (model prog w) A.in1 (pyIter (.ref ay)) (fun it2 s2 => ∃ I1 I2, it1 = .ref I1 ∧ it2 = .ref I2 ∧ K I1 I2 s2) E s1) E s := by
  refine wpAny_pyIter_list hl (wpAny_pyIter_list (hl2.push _) ?_)
  refine ⟨_, _, rfl, rfl, h _ _ _ rfl ?_ rfl⟩
  show (s.heap.push _).objs.size = _
  rw [Heap.size_push]

theorem sumprod_flt_lists (hA : A.handled = none) (hl : s.heap.IsList ax xs.toArray) (hl2 : s.heap.IsList ay ys.toArray) (hv : NumsAre xs us) (hv2 : NumsAre ys ws) (hlen : xs.length = ys.length) (hn : 0 < xs.length) (hf : AllF xs ∨ AllF ys)
    (pr : Nat → Int) (hpr : ∀ i, i < xs.length → us.getD i 0 * ws.getD i 0 = pr i * 2 ^ 1074 ∧ Fits (pr i)) (hfit : ∀ j, j ≤ xs.length → Fits (preSum pr j))
    (h : ∀ h' tk r t, Kept s.heap h' → s.toks ≤ tk → Ex r (preSum pr xs.length) → Q (.float r t) { s with heap := h', toks := tk }) :
    wpAny (model prog w) A (call (.builtin "math.sumprod") [.ref ax, .ref ay]) Q E s := by
  refine call_sumprod_flt (wpAny_mono (sumprod_lists_pre hl hl2 (K := fun I1 I2 s2 => ∃ (fp1 wr1 fp2 wr2 : List Addr) (G1 G2 Gd : Array GenState → Array GenState → Prop) (n : Nat) (P1 P2 : Nat → Value → Prop) (St1 St2 : Nat → Shared → Prop) (v1 v2 pr : Nat → Int),
      Two prog w A.in1 I1 I2 fp1 wr1 fp2 wr2 G1 G2 Gd n P1 P2 St1 St2 ∧ St1 0 s2 ∧ St2 0 s2 ∧ (∀ b ∈ fp1, b < s2.heap.objs.size) ∧ (∀ b ∈ fp2, b < s2.heap.objs.size) ∧
      (∀ i a b, P1 i a → P2 i b → NumV a (v1 i) ∧ NumV b (v2 i) ∧ (isF a || isF b) = true) ∧ (∀ i, i < n → v1 i * v2 i = pr i * 2 ^ 1074 ∧ Fits (pr i)) ∧ (∀ j, j ≤ n → Fits (preSum pr j)) ∧ 0 < n ∧
      ∀ s' r t', Moved (wr1 ++ wr2) Gd s2 s' → Ex r (preSum pr n) → Q (.float r t') s') ?_)
    (fun it1 s1 h1 => wpAny_mono h1 (fun it2 s2 h2 => by obtain ⟨I1, I2, e1, e2, fp1, wr1, fp2, wr2, G1, G2, Gd, n, P1, P2, St1, St2, v1, v2, pr, r⟩ := h2; exact ⟨I1, I2, fp1, wr1, fp2, wr2, G1, G2, Gd, n, P1, P2, St1, St2, v1, v2, pr, e1, e2, r⟩) fun _ _ e => e) fun _ _ e => e)
  rintro I1 I2 s2 rfl rfl rfl
  have hlt : ax < s.heap.objs.size := by obtain ⟨_, e, _⟩ := hl; exact Heap.lt_size e
  have hlt2 : ay < s.heap.objs.size := by obtain ⟨_, e, _⟩ := hl2; exact Heap.lt_size e
  have e1 : s.heap.objs.size ≠ s.heap.objs.size + 1 := Nat.ne_of_lt (Nat.lt_succ_self _)
  have hsz : xs.toArray.size = ys.toArray.size := by simpa using hlen
  refine ⟨_, _, _, _, _, _, _, _, _, _, _, _, fun i => us.getD i 0, fun i => ws.getD i 0, pr, two_lists (A := A.in1) hA (Nat.ne_of_lt hlt) (Nat.ne_of_lt (Nat.lt_succ_of_lt hlt2)) e1 (Nat.ne_of_lt (Nat.lt_succ_of_lt hlt)) (Nat.ne_of_lt hlt2) xs.toArray ys.toArray hsz, ?_, ?_, ?_, ?_, ?_, ?_, ?_, ?_, ?_⟩
  · exact ⟨⟨_, Heap.get?_push_of_some _ (Heap.get?_push_size _ rfl), rfl, rfl⟩, (hl.push _).push _⟩
  · exact ⟨⟨_, push2 _ _ _ rfl, rfl, rfl⟩, (hl2.push _).push _⟩
  · intro b hb
    show b < ((s.heap.push _).push _).objs.size
    rw [Heap.size_push, Heap.size_push]
    rcases List.mem_cons.mp hb with rfl | hb
    · exact Nat.lt_succ_of_lt (Nat.lt_succ_self _)
    · rcases List.mem_cons.mp hb with rfl | hb
      · exact Nat.lt_succ_of_lt (Nat.lt_succ_of_lt hlt)
      · cases hb
  · intro b hb
    show b < ((s.heap.push _).push _).objs.size
    rw [Heap.size_push, Heap.size_push]
    rcases List.mem_cons.mp hb with rfl | hb
    · exact Nat.lt_succ_self _
    · rcases List.mem_cons.mp hb with rfl | hb
      · exact Nat.lt_succ_of_lt (Nat.lt_succ_of_lt hlt2)
      · cases hb
  · intro i a b ha hb
    have ha' : xs[i]? = some a := by simpa using ha
    have hb' : ys[i]? = some b := by simpa using hb
    refine ⟨hv.2 i a ha', hv2.2 i b hb', ?_⟩
    rcases hf with hf | hf
    · rw [hf a (List.mem_of_getElem? ha')]; rfl
    · rw [hf b (List.mem_of_getElem? hb')]; simp
  · intro i hi; exact hpr i (by simpa using hi)
  · intro j hj; exact hfit j (by simpa using hj)
  · simpa using hn
  · intro s' r t hm hr
    rw [moved_eq hm]
    refine h s'.heap s'.toks r t (moved_kept hm (fun b o e => Heap.get?_push_of_some _ (Heap.get?_push_of_some _ e)) fun b hb => ?_) hm.toks (by simpa using hr)
    simp only [List.cons_append, List.nil_append] at hb
    rcases List.mem_cons.mp hb with rfl | hb
    · exact get_none (Nat.le_refl _)
    · rcases List.mem_cons.mp hb with rfl | hb
      · exact get_none (Nat.le_succ _)
      · cases hb

theorem sumprod_int_lists (hA : A.handled = none) (hl : s.heap.IsList ax xs.toArray) (hl2 : s.heap.IsList ay ys.toArray) (hv : IntsAre xs us) (hv2 : IntsAre ys ws) (hlen : xs.length = ys.length) (hn : 0 < xs.length)
    (hfit : ∀ j, j < xs.length → InLong (us.getD j 0) ∧ InLong (ws.getD j 0) ∧ InLong (us.getD j 0 * ws.getD j 0) ∧ InLong (preSum (fun i => us.getD i 0 * ws.getD i 0) (j + 1)))
    (h : ∀ h' tk t, Kept s.heap h' → s.toks ≤ tk → Q (.int (preSum (fun i => us.getD i 0 * ws.getD i 0) xs.length) t) { s with heap := h', toks := tk }) :
    wpAny (model prog w) A (call (.builtin "math.sumprod") [.ref ax, .ref ay]) Q E s := by
  refine call_sumprod_int (wpAny_mono (sumprod_lists_pre hl hl2 (K := fun I1 I2 s2 => ∃ (fp1 wr1 fp2 wr2 : List Addr) (G1 G2 Gd : Array GenState → Array GenState → Prop) (n : Nat) (P1 P2 : Nat → Value → Prop) (St1 St2 : Nat → Shared → Prop) (v1 v2 : Nat → Int),
      Two prog w A.in1 I1 I2 fp1 wr1 fp2 wr2 G1 G2 Gd n P1 P2 St1 St2 ∧ St1 0 s2 ∧ St2 0 s2 ∧ (∀ b ∈ fp1, b < s2.heap.objs.size) ∧ (∀ b ∈ fp2, b < s2.heap.objs.size) ∧
      (∀ i a b, P1 i a → P2 i b → (∃ t, a = .int (v1 i) t) ∧ (∃ t, b = .int (v2 i) t)) ∧
      (∀ j, j < n → InLong (v1 j) ∧ InLong (v2 j) ∧ InLong (v1 j * v2 j) ∧ InLong (preSum (fun i => v1 i * v2 i) (j + 1))) ∧ 0 < n ∧
      ∀ s' t', Moved (wr1 ++ wr2) Gd s2 s' → Q (.int (preSum (fun i => v1 i * v2 i) n) t') s') ?_)
    (fun it1 s1 h1 => wpAny_mono h1 (fun it2 s2 h2 => by obtain ⟨I1, I2, e1, e2, fp1, wr1, fp2, wr2, G1, G2, Gd, n, P1, P2, St1, St2, v1, v2, r⟩ := h2; exact ⟨I1, I2, fp1, wr1, fp2, wr2, G1, G2, Gd, n, P1, P2, St1, St2, v1, v2, e1, e2, r⟩) fun _ _ e => e) fun _ _ e => e)
  rintro I1 I2 s2 rfl rfl rfl
  have hlt : ax < s.heap.objs.size := by obtain ⟨_, e, _⟩ := hl; exact Heap.lt_size e
  have hlt2 : ay < s.heap.objs.size := by obtain ⟨_, e, _⟩ := hl2; exact Heap.lt_size e
  have e1 : s.heap.objs.size ≠ s.heap.objs.size + 1 := Nat.ne_of_lt (Nat.lt_succ_self _)
  have hsz : xs.toArray.size = ys.toArray.size := by simpa using hlen
  refine ⟨_, _, _, _, _, _, _, _, _, _, _, _, fun i => us.getD i 0, fun i => ws.getD i 0, two_lists (A := A.in1) hA (Nat.ne_of_lt hlt) (Nat.ne_of_lt (Nat.lt_succ_of_lt hlt2)) e1 (Nat.ne_of_lt (Nat.lt_succ_of_lt hlt)) (Nat.ne_of_lt hlt2) xs.toArray ys.toArray hsz, ?_, ?_, ?_, ?_, ?_, ?_, ?_, ?_⟩
  · exact ⟨⟨_, Heap.get?_push_of_some _ (Heap.get?_push_size _ rfl), rfl, rfl⟩, (hl.push _).push _⟩
  · exact ⟨⟨_, push2 _ _ _ rfl, rfl, rfl⟩, (hl2.push _).push _⟩
  · intro b hb
    show b < ((s.heap.push _).push _).objs.size
    rw [Heap.size_push, Heap.size_push]
    rcases List.mem_cons.mp hb with rfl | hb
    · exact Nat.lt_succ_of_lt (Nat.lt_succ_self _)
    · rcases List.mem_cons.mp hb with rfl | hb
      · exact Nat.lt_succ_of_lt (Nat.lt_succ_of_lt hlt)
      · cases hb
  · intro b hb
    show b < ((s.heap.push _).push _).objs.size
    rw [Heap.size_push, Heap.size_push]
    rcases List.mem_cons.mp hb with rfl | hb
    · exact Nat.lt_succ_self _
    · rcases List.mem_cons.mp hb with rfl | hb
      · exact Nat.lt_succ_of_lt (Nat.lt_succ_of_lt hlt2)
      · cases hb
  · intro i a b ha hb
    have ha' : xs[i]? = some a := by simpa using ha
    have hb' : ys[i]? = some b := by simpa using hb
    have key : ∀ {vs : List Value} {ns : List Int} {i : Nat} {v : Value}, IntsAre vs ns → vs[i]? = some v → ∃ t, v = .int (ns.getD i 0) t := by
      intro vs ns i v hI
      induction hI generalizing i with
      | nil => intro e; simp at e
      | cons n t hI ih =>
        intro e
        cases i with
        | zero => simp at e; exact ⟨t, by simp [e]⟩
        | succ i => simpa using ih (by simpa using e)
    exact ⟨key hv ha', key hv2 hb'⟩
  · intro j hj; exact hfit j (by simpa using hj)
  · simpa using hn
  · intro s' t hm
    rw [moved_eq hm]
    have := h s'.heap s'.toks t (moved_kept hm (fun b o e => Heap.get?_push_of_some _ (Heap.get?_push_of_some _ e)) fun b hb => ?_) hm.toks
    · simpa using this
    simp only [List.cons_append, List.nil_append] at hb
    rcases List.mem_cons.mp hb with rfl | hb
    · exact get_none (Nat.le_refl _)
    · rcases List.mem_cons.mp hb with rfl | hb
      · exact get_none (Nat.le_succ _)
      · cases hb
end
end Mine
end

section
namespace Mine
open PySem PySem.W PySem.Calls PyProof.Rows PySem.Flt
set_option maxRecDepth 100000
section
variable {prog : Program} {w : World} {A : Around} {E : Value → Shared → Prop} {s : Shared} {Q : Value → Shared → Prop} {v : Value} {S V : Int} {x y : UInt64} {tk tk' : Tok} {n : Int}

theorem not_inf {n : Int} (h : Fits (n * 2 ^ 1074)) : ¬ Float64.isInf (Float64.ofInt n) = true := by rw [(Ex.ofInt h).notInf]; exact Bool.false_ne_true
theorem num_add (hv : NumV v S) (hz : Ex x V) (hf : Fits (S + V)) (h : ∀ r t, Ex r (S + V) → Q (.float r t) { s with toks := s.toks + 1 }) : wpAny (model prog w) A (binaryOp .Add v (.float x tk)) Q E s := by
  cases hv with
  | int t e hf' => subst e; exact AutoFloatOps.add_if_1 (not_inf hf') (h _ _ ((Ex.ofInt hf').add hz hf))
  | float t hx => exact AutoFloatOps.add_0 (h _ _ (hx.add hz hf))
theorem num_add_zero (hv : NumV v S) (hz : Ex x 0) (h : ∀ r t, Ex r S → Q (.float r t) { s with toks := s.toks + 1 }) : wpAny (model prog w) A (binaryOp .Add v (.float x tk)) Q E s :=
  num_add hv hz (by rw [Int.add_zero]; cases hv with
    | int t e hf => exact hf
    | float t hx => exact hx.fits) fun r t hr => h r t (hr.to (Int.add_zero _))
theorem num_sub (hv : NumV v S) (hz : Ex x V) (hf : Fits (S - V)) (h : ∀ r t, Ex r (S - V) → Q (.float r t) { s with toks := s.toks + 1 }) : wpAny (model prog w) A (binaryOp .Sub v (.float x tk)) Q E s := by
  cases hv with
  | int t e hf' => subst e; exact AutoFloatOps.sub_if_1 (not_inf hf') (h _ _ ((Ex.ofInt hf').sub hz hf))
  | float t hx => exact AutoFloatOps.sub_0 (h _ _ (hx.sub hz hf))
theorem not_zero {n : Int} (h : Fits (n * 2 ^ 1074)) (h0 : n ≠ 0) : ¬ Float64.isZero (Float64.ofInt n) = true := fun z => h0 ((isZero_ofInt n).mp z)
theorem mul_ne {n : Int} {k : Nat} (h : n * 2 ^ k ≠ 0) : n ≠ 0 := fun z => h (by rw [z, Int.zero_mul])
/-- a float by a number -/
theorem num_div (hx : Ex x S) (hv : NumV v V) (h0 : V ≠ 0) (h : ∀ r t, Quo r S V → Q (.float r t) { s with toks := s.toks + 1 }) : wpAny (model prog w) A (binaryOp .Div (.float x tk) v) Q E s := by
  cases hv with
  | int t e hf =>
    subst e
    exact AutoFloatOps.truediv_fi_2 (not_inf hf) (not_zero hf (mul_ne h0)) (h _ _ (hx.quo (Ex.ofInt hf) h0))
  | float t hy => exact AutoFloatOps.truediv_1 (by rw [hy.notZero]; simpa using h0) (h _ _ (hx.quo hy h0))
theorem num_div_zero (hA : A.handled = none) (hv : NumV v 0) (h : ∀ h' tk e, Heap.NewExc s.heap h' e "ZeroDivisionError" → E (.ref e) { s with heap := h', toks := tk }) : wpAny (model prog w) A (binaryOp .Div (.float x tk) v) Q E s := by
  cases hv with
  | int t e hf =>
    rename_i i
    have h0 : i = 0 := by
      rcases Int.mul_eq_zero.mp e.symm with h | h
      · exact h
      · exact absurd h (Int.ne_of_gt (Int.pow_pos (by decide)))
    subst h0
    exact truediv_fi hA (fun o => absurd o (not_over (n := 0) (by rw [Int.zero_mul]; exact Fits.zero))) (fun _ => h) (fun _ h0 => absurd rfl h0)
  | float t hy => exact truediv_float_or hA (fun _ => h) (fun h0 => absurd (by rw [hy.notZero]; rfl) h0)
/-- exact: a float by an int -/
theorem float_div_int (hx : Ex x S) (h0 : n ≠ 0) (hn : Fits (n * 2 ^ 1074)) (hV : S = V * n) (hf : Fits V) (h : ∀ r t, Ex r V → Q (.float r t) { s with toks := s.toks + 1 }) : wpAny (model prog w) A (binaryOp .Div (.float x tk) (.int n tk')) Q E s :=
  AutoFloatOps.truediv_fi_2 (not_inf hn) (not_zero hn h0) (h _ _ (hx.div (Ex.ofInt hn) (by
    intro z
    rcases Int.mul_eq_zero.mp z with h | h
    · exact h0 h
    · exact absurd h (Int.ne_of_gt (Int.pow_pos (by decide)))) (by rw [hV, Int.mul_assoc]) hf))
theorem float_mul_any (h : ∀ r t, Q (.float r t) { s with toks := s.toks + 1 }) : wpAny (model prog w) A (binaryOp .Mult (.float x tk) (.float y tk')) Q E s := AutoFloatOps.mul_0 (h _ _)
theorem float_mul (h : Q (.float (Float64.mul x y) s.toks) { s with toks := s.toks + 1 }) : wpAny (model prog w) A (binaryOp .Mult (.float x tk) (.float y tk')) Q E s := AutoFloatOps.mul_0 h
theorem float_sub (h : Q (.float (Float64.sub x y) s.toks) { s with toks := s.toks + 1 }) : wpAny (model prog w) A (binaryOp .Sub (.float x tk) (.float y tk')) Q E s := AutoFloatOps.sub_0 h
/-- int by int -/
theorem int_div_int {a b : Int} (hA : A.handled = none) (ha : a.natAbs < 2 ^ 1023) (hb : b ≠ 0) (h : ∀ r t, Quo r a b → Q (.float r t) { s with toks := s.toks + 1 }) : wpAny (model prog w) A (binaryOp .Div (.int a tk) (.int b tk')) Q E s :=
  div_ii_fits hA ha (fun h0 => absurd h0 hb) fun _ _ => h _ _ (quo_ofFrac hb)
theorem ex_lit0 : Ex (0 : UInt64) 0 := ⟨false, 0, -1074, decode_zero, by rw [Float64.val_eq decode_zero, Nat.zero_mul]; rfl⟩
/-- an exact quotient is a value -/
theorem Quo.ex {r : UInt64} {n d v : Int} (h : Quo r n d) (e : n * 2 ^ 1074 = v * d) (hf : Fits v) : Ex r v := by
  obtain ⟨hd, h0, h1⟩ := h
  by_cases hn : n = 0
  · refine (h0 hn).to ?_
    rw [hn, Int.zero_mul] at e
    rcases Int.mul_eq_zero.mp e.symm with h | h
    · exact h.symm
    · exact absurd h hd
  · obtain ⟨t, ht, hv⟩ := hf
    have e1 : n.natAbs * 2 ^ 1074 = d.natAbs * Float64.V t := by
      have := congrArg Int.natAbs e
      rw [Int.natAbs_mul, Int.natAbs_mul, Int.natAbs_pow] at this
      rw [hv, Nat.mul_comm d.natAbs]; exact this
    have := right_exact (h1 hn) (by omega) ht e1
    refine this.to ?_
    rw [hv]
    have hv0 : v ≠ 0 := fun z => by
      rw [z, Int.zero_mul] at e
      rcases Int.mul_eq_zero.mp e with h | h
      · exact hn h
      · exact absurd h (Int.ne_of_gt (Int.pow_pos (by decide)))
    have es := congrArg Int.sign e
    have hp : ((2 : Int) ^ 1074).sign = 1 := Int.sign_eq_one_of_pos (Int.pow_pos (by decide))
    rw [Int.sign_mul, Int.sign_mul, hp, Int.mul_one] at es
    have two : ∀ z : Int, z ≠ 0 → (z.sign = 1 ∧ decide (z < 0) = false) ∨ (z.sign = -1 ∧ decide (z < 0) = true) := fun z h => by
      rcases Int.lt_or_gt_of_ne h with a | a
      · exact .inr ⟨Int.sign_eq_neg_one_of_neg a, by simp; omega⟩
      · exact .inl ⟨Int.sign_eq_one_of_pos a, by simp; omega⟩
    have hs : (decide (n < 0) != decide (d < 0)) = decide (v < 0) := by
      rcases two n hn with ⟨a1, a2⟩ | ⟨a1, a2⟩ <;> rcases two d hd with ⟨b1, b2⟩ | ⟨b1, b2⟩ <;> rcases two v hv0 with ⟨c1, c2⟩ | ⟨c1, c2⟩ <;>
        rw [a1, b1, c1] at es <;> rw [a2, b2, c2] <;> first | rfl | (exfalso; revert es; decide)
    rw [hs]; exact sgn_of v
end
end Mine
end

section
open PySem PySem.W PySem.Calls PyProof.Rows
set_option maxRecDepth 100000
set_option maxHeartbeats 1000000
namespace Mine
theorem have_eq {α : Type} {x : Option α} {o : α} {P : Prop} (e : x = some o) (k : x = some o → P) : P := k e
abbrev lrObj (C dx : Addr) (v1 v2 : Value) : Obj := { cls := .ref C, dict := some dx, data := .seq #[v1, v2] }
/-- the new object that linear_regression gives back -/
def IsLR (h : Heap) (t : Addr) : Prop := ∃ dx u1 u2, h.get? t = some (lrObj 173 dx u1 u2)
theorem oi_args2 (a v1 v2 : Value) : argsOk "object.__init__" ⟨[a], [(Str.ofString "slope", v1), (Str.ofString "intercept", v2)]⟩ := by unfold argsOk; kernel_rfl
section
variable {w : World} {A : Around} {E : Value → Shared → Prop} {s : Shared} {h₀ : Heap} {L : Addr} {m : Str → Option Value} {news : List (Addr × Obj)}
theorem lr_made {h : Heap} : (Mine.hd.heap_39 w.params).In h → Looks (model PySem.Challenge.rw_kq0023_02.row.prog w) h (Bind.madeBy (.ref 173)) none := by
  k_fill
  intro X
  refine' have_eq (x := (Mine.hd.heap_39 w.params).lookup 173) ?e ?k
  case e => k_is
  intro hK
  have hC := X _ _ hK
  have hm : Looks (model PySem.Challenge.rw_kq0023_02.row.prog w) h (mroOf (.ref 173)) _ := ((Looks.ld (part := none) hC).andThen .now).andThen .now
  intro A Q E s k q
  unfold Bind.madeBy
  refine wpAny_bind (hm A _ E s k ?_)
  rw [List.forIn_cons]
  refine wpAny_bind (wpAny_bind (wpAny_bind (wpAny_bind (wpAny_loadPart (k _ _ hC) (wpAny_pure ?_)))))
  exact wpAny_pure (wpAny_pure (wpAny_pure q))
theorem best_tuple : Builtin.Slots.bestBase [.type "tuple"] = pure (.type "tuple") := by kernel_rfl
theorem lr_static {h : Heap} : (Mine.hd.heap_39 w.params).In h → Looks (model PySem.Challenge.rw_kq0023_02.row.prog w) h (Bind.staticBase (.ref 173)) (.type "tuple") := by
  k_fill
  intro X
  have hmade := lr_made X
  refine' have_eq (x := (Mine.hd.heap_39 w.params).lookup 173) ?e ?k
  case e => k_is
  intro hK
  have hC := X _ _ hK
  have hm : Looks (model PySem.Challenge.rw_kq0023_02.row.prog w) h (mroOf (.ref 173)) _ := ((Looks.ld (part := none) hC).andThen .now).andThen .now
  intro A Q E s k q
  unfold Bind.staticBase
  refine wpAny_bind (hm A _ E s k ?_)
  dsimp only
  rw [List.forIn_cons]
  refine wpAny_bind (wpAny_bind (wpAny_bind (hmade A _ E s k ?_)))
  repeat ((fail_if_success (with_reducible show wpAny _ _ (Builtin.Slots.bestBase _) _ _ _)); lk)
  have hm2 : Looks (model PySem.Challenge.rw_kq0023_02.row.prog w) h (Bind.madeBy (.type "tuple")) (some "tuple.__new__") := Looks.of_pure PySem.F.called_tuple.made
  have hC' := k _ _ hC
  refine wpAny_loadPart (k _ _ hC) ?_
  repeat ((fail_if_success (with_reducible show wpAny _ _ (Builtin.Slots.bestBase _) _ _ _)); lk)
  rw [best_tuple]
  refine wpAny_pure (wpAny_pure ?_)
  dsimp only
  rw [List.forIn_cons]
  refine wpAny_bind (wpAny_bind (hm2 A _ E s k ?_))
  exact wpAny_pure (wpAny_pure (wpAny_pure q))
theorem lr_make {v1 v2 : Value} {Q : Value → Shared → Prop} (F : Fr h₀ L s.heap m) (N : News h₀ L s.heap news)
  (h : wpAny (model PySem.Challenge.rw_kq0023_02.row.prog w) (A.under (.builtin "type.__call__" ⟨[.ref 173], [(Str.ofString "slope", v1), (Str.ofString "intercept", v2)]⟩)) (call (.ref 123) [.ref 173] [(Str.ofString "slope", v1), (Str.ofString "intercept", v2)])
    (fun v s' => ∃ t, v = .ref t ∧ IsLR s'.heap t ∧ (∀ b o, h₀.get? b = some o → s'.heap.get? b = some o) ∧ Q (.ref t) s') E { s with toks := s.toks + 1 }) :
  (Mine.hd.heap_39 w.params).In h₀ →
  wpAny (model PySem.Challenge.rw_kq0023_02.row.prog w) A (call (.ref 173) [] [(Str.ofString "slope", v1), (Str.ofString "intercept", v2)]) Q E s := by
  k_fill
  intro X₀
  have X := X₀.keeps F.keep
  have hmade := lr_made X
  have hcall : Looks (model PySem.Challenge.rw_kq0023_02.row.prog w) s.heap (specialOf (.ref 173) "__call__") (some (.builtin "type.__call__")) := looks_specialIn X (by k_is)
  have htyp : Looks (model PySem.Challenge.rw_kq0023_02.row.prog w) s.heap (isInstance (.ref 173) (.type "type")) true := looks_instIn X (by k_is)
  refine' have_eq (x := (Mine.hd.heap_39 w.params).lookup 173) ?e ?k
  case e => k_is
  intro hK
  have hC := X _ _ hK
  refine wpAny_call (codeAny_of_tree ?_)
  show wpAny _ _ (callAny (.ref 173) _) _ _ _
  obtain ⟨hp, g, d, tk, os⟩ := s
  refine nd_load hC ?_
  show wpAny _ _ (callAny.viaDunder (.ref 173) _) _ _ _
  unfold callAny.viaDunder
  refine wpAny_bind (hcall.at ?_)
  dsimp only
  rw [tc_bind]
  refine wpAny_bind (wpAny_pure (wpAny_bind (wpAny_pure ?_)))
  refine wpAny_pure (a := Fin.again (.call (.builtin "type.__call__") ⟨[.ref 173], _⟩)) (And.intro rfl ?_)
  refine codeAny_call_builtin_at (Code.quiet_builtin _ (by decide +kernel)) entry_typeCall (check_slot tc_kind tc_split htyp (tc_args _ _ _) ?_)
  unfold Builtin.«type.__call__»
  have hm : Looks (model PySem.Challenge.rw_kq0023_02.row.prog w) hp (mroOf (.ref 173)) _ := ((Looks.ld (part := none) hC).andThen .now).andThen .now
  repeat ((fail_if_success (with_reducible show wpAny _ _ (getAttr _ _ _) _ _ _)); lk)
  have F1 : Fr h₀ L (⟨hp, g, d, tk, os⟩ : Shared).heap m := F
  refine' cls_sm (rest := []) F1 X₀ ?k3 ?k4 ?k5 ?k6 ?k7 ?_
  case k3 => k_is
  case k4 => k_is
  case k5 => k_is
  case k6 => k_is
  case k7 => k_handed
  dsimp only
  refine wpAny_bind (wpAny_holding (wpAny_mono h ?_ fun _ _ x => x))
  rintro v s' ⟨t, rfl, ⟨dx, u1, u2, hx⟩, hk, q⟩
  have X' := X₀.keeps hk
  have t1 : Looks (model PySem.Challenge.rw_kq0023_02.row.prog w) s'.heap (typeOf (.ref t)) (.ref 173) := (Looks.ld hx).andThen .now
  have i1 : Looks (model PySem.Challenge.rw_kq0023_02.row.prog w) s'.heap (typeLookup (.ref 173) "__init__") (some (.builtin "object.__init__")) := looks_findIn X' (by k_is)
  have s1 : Looks (model PySem.Challenge.rw_kq0023_02.row.prog w) s'.heap (isSubtype (.ref 173) (.ref 173)) true := looks_subIn X' (by k_is)
  have s2 : Looks (model PySem.Challenge.rw_kq0023_02.row.prog w) s'.heap (isInstance (.ref t) (.type "object")) true := t1.andThen (looks_subIn X' (by k_is))
  have hmade' := lr_made X'
  obtain ⟨hp', g', d', tk', os'⟩ := s'
  have i2 : Looks (model PySem.Challenge.rw_kq0023_02.row.prog w) hp' (isInstance (.ref t) (.ref 173)) true := t1.andThen s1
  refine wpAny_bind (i2.here ?_)
  simp only [Bool.not_true, Bool.false_eq_true, if_false]
  refine wpAny_bind (wpAny_holding ?_)
  unfold callSpecial?
  have j1 : Looks (model PySem.Challenge.rw_kq0023_02.row.prog w) hp' (specialOf (.ref t) "__init__") (some (.builtin "object.__init__")) := t1.andThen i1
  refine wpAny_bind (j1.here ?_)
  dsimp only
  refine wpAny_holding ?_
  rw [oi_bind]
  refine wpAny_bind (wpAny_pure (wpAny_bind (wpAny_call ?_)))
  refine codeAny_call_builtin oi_plain entry_oi (@check_slot (model PySem.Challenge.rw_kq0023_02.row.prog w) _ _ _ "object.__init__" "object" "__init__" (.ref t) [] _ _ oi_kind oi_split s2 (oi_args2 (.ref t) v1 v2) ?_)
  unfold Builtin.«object.__init__»
  dsimp only
  simp only [List.isEmpty_nil, List.isEmpty_cons, Bool.not_true, Bool.not_false, Bool.or_true, if_true]
  refine wpAny_bind (t1.here ?_)
  refine wpAny_bind (i1.here ?_)
  refine wpAny_bind (hmade'.here ?_)
  simp only [bne_self_eq_false, Bool.false_eq_true, if_false]
  repeat lk
  exact q
theorem lr_new {p : Addr} {v1 v2 : Value} {c : Nat} {Q : Value → Shared → Prop} (F : Fr h₀ L s.heap m) (N : News h₀ L s.heap news) (hmem : (p, ({ cls := .type "tuple", data := .seq #[v1, v2] c } : Obj)) ∈ news)
  (h : ∀ t dx h' tk', Fr h₀ L h' m → News h₀ L h' ((t, lrObj 173 dx v1 v2) :: (dx, emptyDict) :: news) → (∀ b o, s.heap.get? b = some o → h'.get? b = some o) → (∀ p ∈ news, p.1 < dx) → dx < t → Q (.ref t) { s with heap := h', toks := tk' }) :
  (Mine.hd.heap_39 w.params).In h₀ →
  wpAny (model PySem.Challenge.rw_kq0023_02.row.prog w) A (call (.builtin "tuple.__new__") [.ref 173, .ref p]) Q E s := by
  k_fill
  intro X₀
  have hp := (N _ hmem).1
  have X := X₀.keeps F.keep
  have hmade := lr_made X
  have hstat := lr_static X
  have hsub : Looks (model PySem.Challenge.rw_kq0023_02.row.prog w) s.heap (isSubtype (.ref 173) (.type "tuple")) true := looks_subIn X (by k_is)
  have hini : Looks (model PySem.Challenge.rw_kq0023_02.row.prog w) s.heap (typeLookup (.ref 173) "__init__") (some (.builtin "object.__init__")) := looks_findIn X (by k_is)
  refine' have_eq (x := (Mine.hd.heap_39 w.params).lookup 173) ?e ?k
  case e => k_is
  intro hK
  have hC := X _ _ hK
  obtain ⟨hh, g, d, tk, os⟩ := s
  have hmt : Looks (model PySem.Challenge.rw_kq0023_02.row.prog w) hh (Bind.madeBy (.type "tuple")) (some "tuple.__new__") := Looks.of_pure PySem.F.called_tuple.made
  refine wpAny_call (codeAny_call_builtin_code (Code.quiet_builtin _ (by decide +kernel)) ?_)
  have e1 : builtinKind "tuple.__new__" = some .builtinFn := by decide +kernel
  have e2 : splitId "tuple.__new__" = some ("tuple", "__new__") := by decide +kernel
  simp only [checkBuiltinCall, e1, e2]
  repeat lk
  refine codeAny_builtin PySem.F.entry_tuple_new ?_
  unfold Builtin.«tuple.__new__»
  have hmh : Looks (model PySem.Challenge.rw_kq0023_02.row.prog w) hh (Bind.madeHere "tuple.__new__" (.ref 173)) () := hstat.andThen (hmt.andThen (Looks.of_pure (by simp only [Option.map_some, bne_self_eq_false, Bool.false_eq_true, if_false])))
  repeat ((fail_if_success (with_reducible show wpAny _ _ (collect _) _ _ _)); lk)
  refine wpAny_collect_seq p (.inr rfl) hp rfl rfl (fun h' hk => ?_) (by show 2 ≤ sizeLine; decide)
  dsimp only
  have F2 := Fr.keeps F hk
  have N2 := News.grown N hk
  have N3 := (N2.push F2 emptyDict).push (F2.push _) (lrObj 173 h'.objs.size v1 v2)
  rw [Heap.size_push] at N3
  have hC2 := hk _ _ hC
  refine wpAny_bind (wpAny_pure (wpAny_bind (wpAny_alloc ?_)))
  refine wpAny_bind ?_
  show wpAny _ _ (newObjAsIs _ _ _) _ _ _
  unfold newObjAsIs classHasDel
  refine wpAny_bind (wpAny_alloc (wpAny_bind (wpAny_bind (wpAny_load (Heap.get?_push_of_some _ (Heap.get?_push_of_some _ hC2)) (wpAny_pure ?_)))))
  refine wpAny_pure (wpAny_pure ?_)
  have q := h (h'.objs.size + 1) h'.objs.size ((h'.push emptyDict).push (lrObj 173 h'.objs.size v1 v2)) tk ((F2.push _).push _) N3
    (fun b o e => Heap.get?_push_of_some _ (Heap.get?_push_of_some _ (hk b o e))) (fun p hp => Heap.lt_size (N2 p hp).1) (Nat.lt_succ_self _)

  have z : (h'.push emptyDict).objs.size = h'.objs.size + 1 := Heap.size_push _ _
  rw [← z] at q
  exact q
end
end Mine
end

section
open PySem PySem.W PySem.Calls PyProof.Rows PySem.Spec
set_option maxRecDepth 100000
set_option maxHeartbeats 1000000
namespace Mine
theorem push_any {A : Around} {base h₀ h : Heap} {outer : List Env} {env : Env} {L : Addr} {m : Str → Option Value} (K : Below A base outer h₀) (F : Fr h₀ L h m) (hf : env.frame = some L) (hk : env.scope.kind ≠ .module) :
    Below (A.deeper env) base (env :: outer) h :=
  ⟨Around.frames_deeper K.stack, fun b o e => F.keep b o (K.stays b o e), .cons hk hf F.ns (kts_none K.stays (kts_self F)) (K.frames.of_keeps fun b o e _ => ⟨o, F.keep b o e, rfl⟩)⟩
theorem mem_any {env : Env} {L b : Addr} {outer : List Env} (hf : env.frame = some L) (hm : b ∈ (env :: outer).filterMap (·.frame)) : b = L ∨ b ∈ outer.filterMap (·.frame) := by
  rw [List.filterMap_cons, hf] at hm
  exact List.mem_cons.mp hm
section
variable {M : Model} {A : Around} {E : Value → Shared → Prop} {s' : Shared} {base g g₂ h : Heap} {outer : List Env} {env : Env} {L e t : Addr} {m : Str → Option Value} {Q : Unit → Shared → Prop} {news : List (Addr × Obj)}
theorem hide_any {B : Heap} (K : Below A base outer g) (F : Fr g L h m) (N : News g L h news) (hf : env.frame = some L) (hk : env.scope.kind ≠ .module) (hB : B = hideAll h ((env :: outer).filterMap (·.frame))) :
    base.StaysIn B ∧ (∀ b o, g.get? b = some o → b ∉ outer.filterMap (·.frame) → B.get? b = some o) ∧ (∀ q ∈ news, B.get? q.1 = some q.2 ∧ g.get? q.1 = none ∧ base.get? q.1 = none) ∧ B.StaysIn h ∧ h.FunFrames B (env :: outer) ∧ (A.deeper env).frames = some (env :: outer) := by
  subst hB
  have K' := push_any K F hf hk
  refine ⟨fun b o q => hideAll_get _ (K'.stays b o q) fun hm => ?_, fun b o q nm => hideAll_get _ (F.keep b o q) fun hm => ?_, fun q hq => ⟨hideAll_get _ (N q hq).1 fun hm => ?_, (N q hq).2.2, fresh_of_stays K.stays (N q hq).2.2⟩,
    fun b o q => of_hideAll _ q, funFrames_hide K'.frames fun e he b hb => List.mem_filterMap.mpr ⟨e, he, hb⟩, K'.stack⟩
  · rw [(K'.frames.mem hm).1] at q; cases q
  · rcases mem_any hf hm with z | z
    · rw [z, kts_self F] at q; cases q
    · exact nm z
  · rcases mem_any hf hm with z | z
    · exact (N q hq).2.1 z
    · obtain ⟨o, ho, _⟩ := (K.frames.mem z).2
      rw [(N q hq).2.2] at ho; cases ho
theorem leave_raise_any {cls : Value} {vs : List Value} (K : Below A base outer g) (hx : Heap.MadeExcOf h s'.heap e cls vs) (F : Fr g L h m) (N : News g L h news) (hf : env.frame = some L) (hk : env.scope.kind ≠ .module)
    (hQ : ∀ h' t, RaisedS base g outer e cls t vs news h' → g.UpToSlots h' → Q () { s' with heap := h' }) : wpAny M (A.deeper env) (leaving env (.ref e)) Q E s' := by
  obtain ⟨a1, a2, a3, a4, a5, a6⟩ := hide_any K F N hf hk rfl
  exact wpAny_leaves_madeW a6 hf a4 a5 hx fun h' t x1 x2 x3 x4 =>
    hQ h' t ⟨⟨_, a1, a2, a3, x1, x3⟩, x2⟩ (((Heap.UpToSlots.of_keeps F.keep).trans (Heap.UpToSlots.of_keeps hx.keeps)).trans x4)
theorem leave_on_any {cls : Value} {vs : List Value} (K : Below A base outer g) (F : Fr g L g₂ m) (R : RaisedS base g₂ (env :: outer) e cls t vs news s'.heap) (hsm : g₂.UpToSlots s'.heap) (hf : env.frame = some L)
    (hQ : ∀ h', RaisedS base g outer e cls t vs news h' → g.UpToSlots h' → Q () { s' with heap := h' }) : wpAny M (A.deeper env) (leaving env (.ref e)) Q E s' := by
  obtain ⟨⟨B, hB, hBG, hl, hfl, hnew⟩, htup⟩ := R
  refine wpAny_leaves_onW (Around.frames_deeper K.stack) hf hfl fun h' x1 x2 => hQ h' ⟨⟨B, hB, fun b o q nm => hBG b o (F.keep b o q) fun hm => ?_, fun q hq => ⟨(hl q hq).1, kts_none F.keep (hl q hq).2.1, (hl q hq).2.2⟩, x1, hnew⟩, htup.of_slots x2⟩ ((Heap.UpToSlots.of_keeps F.keep).trans (hsm.trans x2))
  rcases mem_any hf hm with z | z
  · rw [z, kts_self F] at q; cases q
  · exact nm z
theorem ground_any {A₀ : Around} {G B h₅ : Heap} (K : Below A₀ base outer g) (F : Fr g L G m) (hf : env.frame = some L) (hBG : ∀ b o, G.get? b = some o → b ∉ (env :: outer).filterMap (·.frame) → B.get? b = some o) (hBh : B.StaysIn h₅) (hsm : G.UpToSlots h₅) :
    ∃ g', KtsTurn (outer.filterMap (·.frame)) g g' ∧ Fr g' L h₅ m ∧ Below A₀ base outer g' := by
  have keep : ∀ b o, g.get? b = some o → b ∉ outer.filterMap (·.frame) → h₅.get? b = some o := fun b o e nm => hBh b o (hBG b o (F.keep b o e) fun hm => by
    rcases mem_any hf hm with z | z
    · rw [z, kts_self F] at e; cases e
    · exact nm z)
  have slots : ∀ b o, g.get? b = some o → b ∈ outer.filterMap (·.frame) → ∃ sl, h₅.get? b = some { o with slots := sl } := fun b o e hm => by
    obtain ⟨_, o', ho', hd⟩ := K.frames.mem hm
    rw [e] at ho'
    cases ho'
    exact hsm b o (F.keep b o e) hd
  obtain ⟨T, S⟩ := kts_turn_at (fun b hb => let ⟨_, o, ho, _⟩ := K.frames.mem hb; ⟨o, ho⟩) keep slots
  have st : base.StaysIn (ktsHeap h₅ (outer.filterMap (·.frame)) g) := fun b o e => T.other b o (K.stays b o e) fun hm => by
    rw [(K.frames.mem hm).1] at e; cases e
  exact ⟨_, T, ⟨hsm.ns F.ns, S, by rw [T.size]; exact F.above⟩, K.stack, st, K.frames.of_keeps fun b o e _ => let ⟨sl, hs⟩ := T.up e; ⟨_, hs, rfl⟩⟩
end
theorem raised_sub {base G h : Heap} {l : List Env} {e t : Addr} {cls : Value} {vs : List Value} {n₁ n₂ : List (Addr × Obj)} (R : RaisedS base G l e cls t vs n₁ h) (hs : ∀ q ∈ n₂, q ∈ n₁) : RaisedS base G l e cls t vs n₂ h :=
  let ⟨⟨B, a, b, c, d⟩, f⟩ := R; ⟨⟨B, a, b, fun q hq => c q (hs q hq), d⟩, f⟩
section
variable {prog : Program} {w : World} {A : Around} {E : Value → Shared → Prop} {s : Shared} {env : Env} {h₀ : Heap} {L : Addr} {m mg : Str → Option Value}
  {x : Str} {C : Addr} {B newId initId : String} {bm : List Value} {np cpos pos : Pos} {Q : Flow → Shared → Prop}
theorem raise_any {e₀ : Expr} {rest : List Expr} (O : OwnCls x C bm newId mg h₀) (FB : ExcBaseFacts B newId initId bm) (hh : A.handled = none)
    (hname : ∀ Q : Value → Shared → Prop, Q (.ref C) s → wpAny (model prog w) A (eval (.Name x np) env) Q E s)
    (h : wpAny (model prog w) A (spliced (backTo cpos (starEach (e₀ :: rest) env))) (fun vs s₂ => vs.length ≤ sizeLine ∧ (∀ b o, h₀.get? b = some o → s₂.heap.get? b = some o) ∧
      ∀ h' e, Heap.MadeExcOf s₂.heap h' e (.ref C) vs → E (.ref e) { s₂ with heap := h' }) E s)
    (he : starEach (e₀ :: rest) env = (false, eval e₀ env) :: starEach rest env) (hplain : (backTo cpos (starEach rest env)).any (·.1) = false) :
    wpAny (model prog w) A (exec (.Raise (some (.Call (.Name x np) (e₀ :: rest) [] cpos)) none pos) env) Q E s := by
  obtain ⟨tl, N, nm, q, bs, hdct, sn, sub, ab, col, dd, k0, k1, k2, k3, k5, mN, hC, hN, hni, T⟩ := O.obj
  refine wpAny_Raise_call_subT (C := C) (nm := nm) (q := q) (N := N) (bs := bs) (bm := tl) (hdct := hdct) (sn := sn) (sub := sub) (ab := ab) (col := col) (dd := dd) (k0 := k0) (k1 := k1) (k2 := k2) (k3 := k3) (k5 := k5)
    FB (mN := mN) (T.hasType FB.hasBase) hh (by rw [he]; show (false || (backTo cpos (starEach rest env)).any (·.1)) = false; rw [hplain]; rfl) hni (hname _ ⟨rfl, ?_⟩)
  rw [he] at h ⊢
  exact evalArgs_plain (wpAny_mono h (fun vs s₂ h₂ => ⟨rfl, h₂.1, h₂.2.1 _ _ hC, hN.keeps h₂.2.1, T.keeps h₂.2.1, h₂.2.2⟩) fun _ _ y => y)
end
end Mine
end

section
open PySem PySem.W PySem.Calls PyProof.Rows PySem.Spec
set_option maxRecDepth 100000
set_option maxHeartbeats 1000000
namespace Mine
/-- what the note of a new exception leaves: every object that is no frame and not the exception stays; frames change their slots alone -/
structure Noted (fs : List Addr) (z T : Addr) (cls a0 : Value) (h h' : Heap) : Prop where
  other : ∀ b o, h.get? b = some o → b ≠ z → b ∉ fs → h'.get? b = some o
  slots : ∀ b o, h.get? b = some o → b ≠ z → ∃ sl, h'.get? b = some { o with slots := sl }
  exc : ∃ o, h'.get? z = some o ∧ o.cls = cls ∧ o.data = .fields #[a0, .ref T, .none, .none, .bool false, .none]
  tb : ∃ o ts, h'.get? T = some o ∧ o.data = .fields ts ∧ 3 < ts.size
  new : h.get? T = none
  ne : T ≠ z
section
variable {M : Model} {A : Around} {E : Value → Shared → Prop} {s : Shared} {base : Heap} {outer : List Env} {env : Env} {L z : Addr} {Q : Unit → Shared → Prop} {oe : Obj} {a0 : Value}
theorem note_new (hfr : A.frames = some (env :: outer)) (hl : s.heap.FunFrames base (env :: outer)) (hf : env.frame = some L) (he : s.heap.get? z = some oe) (hd : oe.data = .fields #[a0, .none, .none, .none, .bool false, .none])
    (hQ : ∀ h' T, Noted ((env :: outer).filterMap (·.frame)) z T oe.cls a0 s.heap h' → Q () { s with heap := h' }) : wpAny M A (noteFrame (.ref z) env) Q E s := by
  have hz : z ∉ (env :: outer).filterMap (·.frame) := fun hm => by
    obtain ⟨_, o, ho, hnf⟩ := hl.mem hm
    rw [he] at ho; cases ho; exact hnf _ hd
  unfold noteFrame
  simp only [hf]
  refine wpAny_bind (wpAny_field he hd (x := .none) rfl ?_)
  rw [if_neg (by decide)]
  refine wpAny_bind (wpAny_frameOf_fun hfr hl hf fun h₁ hs => wpAny_bind (wpAny_entryPlaceOf fun pl hpl => ?_))
  unfold EntryCells.newEntry newFields
  refine wpAny_bind (wpAny_newObj_type ?_ (hpl.sizeOk5 _ _ _ _ _))
  have he₁ : h₁.get? z = some oe := (hs.2.1 z hz).trans he
  refine wpAny_setField (Heap.get?_push_of_some _ he₁) hd (by show 1 < 6; decide) (hQ _ h₁.objs.size ?_)
  have hne : h₁.objs.size ≠ z := Nat.ne_of_gt (Heap.lt_size he₁)
  have hd' := Obj.data_mapFields hd (·.setIfInBounds 1 (Value.ref h₁.objs.size))
  have pushed : ∀ (oT : Obj) {b : Addr} {o : Obj}, b ≠ z → h₁.get? b = some o → ((h₁.push oT).update z (Obj.mapFields (·.setIfInBounds 1 (Value.ref h₁.objs.size)))).get? b = some o := fun oT b o hb e =>
    (Heap.get?_update_other _ _ (Ne.symm hb)).trans (Heap.get?_push_of_some _ e)
  refine ⟨fun b o e hb hm => pushed _ hb ((hs.2.1 b hm).trans e), fun b o e hb => ?_, ⟨_, Heap.get?_update_self _ (Heap.get?_push_of_some _ he₁) (Obj.isFreed_of_fields hd'), Obj.cls_mapFields _ _, hd'⟩, ⟨_, _, (Heap.get?_update_other _ _ (Ne.symm hne)).trans (Heap.get?_push_size h₁ rfl), rfl, ?_⟩, ?_, hne⟩
  · obtain ⟨sl, q⟩ := hs.2.2 b o e
    exact ⟨sl, pushed _ hb q⟩
  · rcases hpl with rfl | ⟨_, _, _, _, _, _, _, rfl⟩ <;> simp
  · cases q : s.heap.get? h₁.objs.size with
    | none => rfl
    | some o =>
      obtain ⟨sl, q'⟩ := hs.2.2 _ o q
      exact absurd (Heap.lt_size q') (Nat.lt_irrefl _)
/-- setting no flight leaves the note as it is -/
theorem land_new {fs : List Addr} {T : Addr} {cls : Value} {h : Heap} (hN : Noted fs z T cls a0 h s.heap) (hQ : ∀ h', Noted fs z T cls a0 h h' → Q () { s with heap := h' }) : wpAny M A (setFlight (.ref z) none) Q E s := by
  obtain ⟨oz, e1, e2, e3⟩ := hN.exc
  obtain ⟨oT, ts, t1, t2, t3⟩ := hN.tb
  refine wpAny_setFlight_none e1 e3 (tb := T) rfl t1 t2 t3 (hQ _ ?_)
  have oth : ∀ {b : Addr} {o : Obj}, b ≠ T → s.heap.get? b = some o → (s.heap.update T (Obj.mapFields (·.setIfInBounds 3 Value.none))).get? b = some o := fun hb e => (Heap.get?_update_other _ _ (Ne.symm hb)).trans e
  have nT : ∀ {b : Addr} {o : Obj}, h.get? b = some o → b ≠ T := fun e q => by rw [q, hN.new] at e; cases e
  refine ⟨fun b o e hb hm => oth (nT e) (hN.other b o e hb hm), fun b o e hb => ?_, ⟨oz, oth (Ne.symm hN.ne) e1, e2, e3⟩, ⟨_, _, Heap.get?_update_self _ t1 (Obj.isFreed_of_fields (Obj.data_mapFields t2 _)), Obj.data_mapFields t2 _, by simpa using t3⟩, hN.new, hN.ne⟩
  obtain ⟨sl, q⟩ := hN.slots b o e hb
  exact ⟨sl, oth (nT e) q⟩
end
section
variable {prog : Program} {w : World} {A : Around} {E : Value → Shared → Prop} {s : Shared} {env : Env} {z : Addr}
variable {nm q : Str} {C N : Addr} {bs bm bmB : List Value} {hdct : Bool} {sn : List Str} {sub : List Value} {ab : Bool} {col : Option Bool} {dd : Option Addr} {k0 k1 k2 k3 k5 : Option Value} {B newId initId : String}
theorem entry_unchain : entryFor table "proto.unchain" = some Builtin.«proto.unchain» := entryFor_of_tree (by kernel_rfl)
theorem unchain_one {e : Addr} {oz : Obj} {vs : Array Value} {Q : Value → Shared → Prop} (hz : s.heap.get? z = some oz) (hd : oz.data = .fields vs) (h2 : vs[2]? = some .none) (h : Q .none s) :
    wpAny (model prog w) A (runValue (.builtin "proto.unchain" ⟨[.ref e, .ref z, .ref z, .bool false], []⟩)) Q E s := by
  refine wpAny_runValue (codeAny_builtin entry_unchain ?_)
  unfold Builtin.«proto.unchain»
  refine wpAny_bind (wpAny_field hz hd h2 ?_)
  rw [if_pos (by decide)]
  exact wpAny_pure (a := Fin.done (.ret .none)) h
theorem raiseNew_some {α : Type} {e : Addr} {oe oz : Obj} {vs ws : Array Value} {Q : α → Shared → Prop} (hh : A.handled = some (.ref z)) (hne : z ≠ e) (he : s.heap.get? e = some oe) (hde : oe.data = .fields ws) (hsz : 2 < ws.size)
    (hz : s.heap.get? z = some oz) (hd : oz.data = .fields vs) (h2 : vs[2]? = some .none) (h : E (.ref e) { s with heap := s.heap.update e (Obj.mapFields (·.setIfInBounds 2 (.ref z))) }) : wpAny (model prog w) A (raiseNew (.ref e) : Sem α) Q E s := by
  unfold raiseNew
  refine wpAny_bind (wpAny_handled ?_)
  rw [hh]
  dsimp only
  rw [if_pos (by simpa using hne)]
  refine wpAny_bind (wpAny_holding (unchain_one hz hd h2 ?_))
  refine wpAny_bind ?_
  have := wpAny_setField (M := model prog w) (A := A) (E := E) (s := s) (a := e) (i := 2) (x := .ref z) (Q := fun _ s' => wpAny (model prog w) A (throw (Value.ref e)) Q E s') he hde hsz (wpAny_throw h)
  exact this
theorem raise_again {x : Sem Value} {Q : Flow → Shared → Prop} (hbase : bm.contains (.type "BaseException") = true) (hh : A.handled = some (.ref z))
    (h : wpAny (model prog w) A x (fun v s₁ => ∃ e t, v = .ref e ∧ s₁.heap.get? C = some (excClassObj nm q C N bs bm hdct sn sub ab col dd k0 k1 k2 k3 k5 newId) ∧
      s₁.heap.get? e = some { cls := .ref C, data := .fields #[.ref t, .none, .none, .none, .bool false, .none] } ∧ z ≠ e ∧ (∃ oz vs, s₁.heap.get? z = some oz ∧ oz.data = .fields vs ∧ vs[2]? = some .none) ∧
      E (.ref e) { s₁ with heap := s₁.heap.update e (Obj.mapFields (·.setIfInBounds 2 (.ref z))) }) E s) : wpAny (model prog w) A (raiseStmt env (some x) none) Q E s := by
  have hcB : (Value.ref C :: bm).contains (.type "BaseException") = true := by rw [List.contains_cons, hbase, Bool.or_true]
  unfold raiseStmt
  refine wpAny_bind (wpAny_mono h (fun v s₁ h₁ => ?_) fun _ _ x => x)
  obtain ⟨e, t, rfl, hC, he, hne, ⟨oz, vs, hz, hd, h2⟩, hE⟩ := h₁
  obtain ⟨hp, g, d, tk, os⟩ := s₁
  repeat (first | with_reducible refine wpAny_loadPart_at he ?_ | with_reducible refine wpAny_loadPart_at hC ?_ | (with_reducible refine wpAny_isSubtype_exc hC ?_; rw [hcB]) | wp_step)
  exact raiseNew_some hh hne he rfl (by show 2 < 6; decide) hz hd h2 hE
theorem Raise_again {mN : Str → Option Value} {x : Str} {np cpos pos : Pos} {e₀ : Expr} {rest : List Expr} {Q : Flow → Shared → Prop} (F : ExcBaseFacts B newId initId bmB) (hbase : bm.contains (.type "BaseException") = true) (hh : A.handled = some (.ref z)) (hni : mN "__init__" = none)
    (h : wpAny (model prog w) A (eval (.Name x np) env) (fun f s₁ => f = .ref C ∧ wpAny (model prog w) A (spliced (backTo cpos (starEach (e₀ :: rest) env)))
      (fun vs s₂ => vs.length ≤ sizeLine ∧ s₂.heap.get? C = some (excClassObj nm q C N bs bm hdct sn sub ab col dd k0 k1 k2 k3 k5 newId) ∧ s₂.heap.Ns N mN ∧ OwnTail s₂.heap bmB bm ∧ (∃ oz ws, s₂.heap.get? z = some oz ∧ oz.data = .fields ws ∧ ws[2]? = some .none) ∧
        ∀ h' e, Heap.MadeExcOf s₂.heap h' e (.ref C) vs → E (.ref e) { s₂ with heap := h'.update e (Obj.mapFields (·.setIfInBounds 2 (.ref z))) }) E s₁) E s)
    (he : starEach (e₀ :: rest) env = (false, eval e₀ env) :: starEach rest env) (hplain : (backTo cpos (starEach rest env)).any (·.1) = false) :
    wpAny (model prog w) A (exec (.Raise (some (.Call (.Name x np) (e₀ :: rest) [] cpos)) none pos) env) Q E s := by
  rw [arm_exec_Raise]
  simp only [evalOpt, Option.map]
  refine wpAny_bind (wpAny_standAt (raise_again (C := C) (nm := nm) (q := q) (N := N) (bs := bs) (bm := bm) (hdct := hdct) (sn := sn) (sub := sub) (ab := ab) (col := col) (dd := dd) (k0 := k0) (k1 := k1) (k2 := k2) (k3 := k3) (k5 := k5) (newId := newId) hbase hh ?_))
  refine wpAny_bind (wpAny_mono (wpAny_Call_ofName (wpAny_mono h (fun f s₁ h₁ => ?_) fun _ _ x => x)) (fun v s₃ h₃ => wpAny_bind (wpAny_standAt (wpAny_pure h₃))) fun _ _ x => x)
  obtain ⟨rfl, h₂⟩ := h₁
  have hp : (backTo cpos (starEach (e₀ :: rest) env)).any (·.1) = false := by rw [he]; show (false || (backTo cpos (starEach rest env)).any (·.1)) = false; rw [hplain]; rfl
  have kw : backToKw cpos (keywordEach [] env) = [] := rfl
  unfold callWith
  rw [kw]
  rw [he] at h₂ hp ⊢
  refine wpAny_bind (wpAny_holding (evalArgs_plain (wpAny_mono h₂ (fun vs s₂ h₃ => ?_) fun _ _ y => y)))
  obtain ⟨hlen, hC, hn, T, ⟨oz, ws, hz, hd, hz2⟩, hk⟩ := h₃
  obtain ⟨hp', g, d, tk, os⟩ := s₂
  refine wpAny_bind (wpAny_standAt ?_)
  simp only [hp]
  refine wpAny_bind (wpAny_keeperOf_exc hC ?_)
  refine wpAny_bind (wpAny_call_exc_subT (hrest := hlen) F T hC hn hni fun h' e hm => wpAny_bind (wpAny_holding (wpAny_point (wpAny_pure ?_))))
  obtain ⟨t, ht, _, _⟩ := hm.there
  refine ⟨e, t, rfl, hm.keeps _ _ hC, ht, fun q => ?_, ⟨oz, ws, hm.keeps _ _ hz, hd, hz2⟩, hk h' e hm⟩
  have := hm.new
  rw [← q, hz] at this
  cases this
end
section
variable {prog : Program} {w : World} {A₀ : Around} {E₁ : Value → Shared → Prop} {s' : Shared} {base g h : Heap} {outer : List Env} {env : Env} {L z C : Addr} {m : Str → Option Value} {news : List (Addr × Obj)} {KF : Frag}
  {p : Program} {loose : List Str} {mean : ExcName → Option Value} {mg mb : Str → Option Value} {x zx : Str} {bmB : List Value} {B newId initId : String} {np np' cpos pos hpos : Pos} {e₀ : Expr} {hs : List ExceptHandler} {Q : Flow → Shared → Prop} {R : Value → Shared → Prop} {msg : Str}
theorem flat_any (K : Below A₀ base outer g) (F : Fr g L h m) (N : News g L h news) (hx : Heap.NewExc h s'.heap z "ZeroDivisionError") (hf : env.frame = some L) (hk : env.scope.kind ≠ .module) (XB : KF.In base) (TB : Top p loose mean mg mb base)
    (ex : nsIn KF mainGlobals x = some (some (.ref C))) (q : excIn KF C bmB newId = true) (FB : ExcBaseFacts B newId initId bmB)
    (hzde : ∀ (g : Heap) (A : Around) (s : Shared) (E Q : Value → Shared → Prop), Fr g L s.heap m → KF.In g → TopRead p loose mg mb g → Q (.type "ZeroDivisionError") s → wpAny (model prog w) A (eval (.Name zx np) env) Q E s)
    (hse : ∀ (g : Heap) (A : Around) (s : Shared) (E Q : Value → Shared → Prop), Fr g L s.heap m → KF.In g → TopRead p loose mg mb g → Q (.ref C) s → wpAny (model prog w) A (eval (.Name x np') env) Q E s)
    (hmsg : ∀ (A : Around) (s : Shared) (E : Value → Shared → Prop) (Q : List Value → Shared → Prop), (∀ tk tk', Q [.str msg tk] { s with toks := tk' }) → wpAny (model prog w) A (spliced (backTo cpos (starEach [e₀] env))) Q E s)
    (he : starEach [e₀] env = (false, eval e₀ env) :: starEach [] env)
    (hQ : ∀ h' e t tk tk', RaisedS base g outer e (.ref C) t [.str msg tk] news h' → g.UpToSlots h' → R (.ref e) { s' with heap := h', toks := tk' }) :
    wpAny (model prog w) (A₀.deeper env) (noteFrame (.ref z) env) (fun _ s₂ => wpAny (model prog w) (A₀.deeper env) (setFlight (.ref z) none)
      (fun _ s₃ => wpAny (model prog w) (A₀.deeper env) (handleBy (.ref z) env (.ExceptHandler (some (.Name zx np)) none [.Raise (some (.Call (.Name x np') [e₀] [] cpos)) none pos] hpos :: hs)) Q
        (fun e s => wpAny (model prog w) (A₀.deeper env) (leaving env e) (fun _ s'' => R e s'') E₁ s) s₃)
        (fun e s => wpAny (model prog w) (A₀.deeper env) (leaving env e) (fun _ s'' => R e s'') E₁ s) s₂)
      (fun e s => wpAny (model prog w) (A₀.deeper env) (leaving env e) (fun _ s'' => R e s'') E₁ s) s' := by
  have K' := push_any K F hf hk
  obtain ⟨a1, a2, a3, a4, a5, a6⟩ := hide_any K F N hf hk rfl
  obtain ⟨ob, a0, hob, hcls, hdat⟩ := hx.there
  have up : ∀ {h₅ T}, Noted ((env :: outer).filterMap (·.frame)) z T ob.cls a0 s'.heap h₅ → (hideAll h ((env :: outer).filterMap (·.frame))).StaysIn h₅ ∧ h.UpToSlots h₅ := fun hN => by
    have nz : ∀ {b : Addr} {o : Obj}, h.get? b = some o → b ≠ z := fun e q => by rw [q, hx.new] at e; cases e
    refine ⟨fun b o e => ?_, fun b o e _ => hN.slots b o (hx.keeps _ _ e) (nz e)⟩
    have e' := of_hideAll _ e
    exact hN.other b o (hx.keeps _ _ e') (nz e') fun hm => by rw [hideAll_none _ hm] at e; cases e
  have bg : ∀ b o, h.get? b = some o → b ∉ (env :: outer).filterMap (·.frame) → (hideAll h ((env :: outer).filterMap (·.frame))).get? b = some o := fun b o e hm => hideAll_get _ e hm
  refine note_new K'.stack (K'.frames.of_keeps fun b o e _ => ⟨o, hx.keeps b o e, rfl⟩) hf hob hdat fun h₄ T hN₄ => ?_
  refine land_new hN₄ fun h₅ hN₅ => ?_
  obtain ⟨g₅, T₅, F₅, K₅⟩ := ground_any K F hf bg (up hN₅).1 (up hN₅).2
  have X₅ := XB.keeps K₅.stays
  have P₅ := topRead_of (TB.keeps K₅.stays)
  obtain ⟨oz, z1, z2, z3⟩ := hN₅.exc
  refine wpAny_handleBy_builtin (X := "ZeroDivisionError") (T := "ZeroDivisionError") (b := true) PySem.F.isExc_ZeroDivisionError PySem.F.notTuple_ZeroDivisionError (by rw [isSubtype_type]; kernel_rfl) (hzde g₅ _ _ _ _ F₅ X₅ P₅ ⟨rfl, ⟨oz, z1, z2.trans hcls⟩, ?_⟩)
  simp only [if_true]
  refine land_new hN₅ fun h₆ hN₆ => ?_
  obtain ⟨g₆, T₆, F₆, K₆⟩ := ground_any K F hf bg (up hN₆).1 (up hN₆).2
  have X₆ := XB.keeps K₆.stays
  have P₆ := topRead_of (TB.keeps K₆.stays)
  obtain ⟨oz', y1, y2, y3⟩ := hN₆.exc
  obtain ⟨tl, Ns, nm, qn, bs, hdct, sn, sub, ab, col, dd, k0, k1, k2, k3, k5, mN, hC, hNs, hni, OT⟩ := (own_of_in X₆ P₆ ex q).obj
  refine wpAny_passesOwnAt PassesOwnAt.leaving (wpAny_execs_cons ?_)
  refine Raise_again (C := C) (nm := nm) (q := qn) (N := Ns) (bs := bs) (bm := tl) (hdct := hdct) (sn := sn) (sub := sub) (ab := ab) (col := col) (dd := dd) (k0 := k0) (k1 := k1) (k2 := k2) (k3 := k3) (k5 := k5) (mN := mN) FB (OT.hasType FB.hasBase) rfl hni (hse g₆ _ _ _ _ F₆ X₆ P₆ ⟨rfl, ?_⟩) he rfl
  refine hmsg _ _ _ _ fun tk tk' => ⟨by show 1 ≤ sizeLine; decide, F₆.keep _ _ hC, hNs.keeps F₆.keep, OT.keeps F₆.keep, ⟨oz', _, y1, y3, rfl⟩, fun h₇ e hm => ?_⟩
  obtain ⟨t, t1, t2, t3⟩ := hm.there
  have hup := Heap.get?_update_self (Obj.mapFields (·.setIfInBounds 2 (.ref z))) t1 rfl
  have ot : ∀ {b : Addr} {o : Obj}, h₆.get? b = some o → (h₇.update e (Obj.mapFields (·.setIfInBounds 2 (.ref z)))).get? b = some o := fun {b o} eb => by
    refine (Heap.get?_update_other _ _ fun q => ?_).trans (hm.keeps _ _ eb)
    have := hm.new
    rw [q, eb] at this; cases this
  have te : t ≠ e := fun q => by rw [q, t1] at t3; cases t3
  have ne : (hideAll h ((env :: outer).filterMap (·.frame))).get? e = none := kts_none (up hN₆).1 hm.new
  have nt : (hideAll h ((env :: outer).filterMap (·.frame))).get? t = none := kts_none (up hN₆).1 t2
  have up₆ : h.UpToSlots (h₇.update e (Obj.mapFields (·.setIfInBounds 2 (.ref z)))) := fun b o eb nf => let ⟨sl, hs⟩ := (up hN₆).2 b o eb nf; ⟨sl, ot hs⟩
  refine wpAny_leaving_firstW (a0 := .ref t) (oe := _) a6 (a5.of_keeps fun b o eb nf => let ⟨sl, hs⟩ := up₆ b o eb nf; ⟨_, hs, rfl⟩) hf hup (fun b o eb => ot ((up hN₆).1 b o eb)) ne rfl rfl rfl fun h' hL => ?_
  obtain ⟨l1, ⟨_, _, l2⟩, l3, l4⟩ := hL
  exact hQ h' e t tk tk' ⟨⟨_, a1, a2, a3, ⟨l1, ne, l2, l3⟩, nt⟩, Heap.TupAt.of_slots ⟨_, _, (Heap.get?_update_other _ _ (Ne.symm te)).trans t3, rfl, rfl⟩ l4⟩ (((Heap.UpToSlots.of_keeps F.keep).trans up₆).trans l4)
end
end Mine
end

section
open PySem PySem.W PySem.Calls PyProof.Rows PySem.Spec PySem.Builtin PySem.Builtin.Str
set_option maxRecDepth 100000
set_option maxHeartbeats 1000000
namespace Mine
section
variable {prog : Program} {w : World} {A : Around} {E : Value → Shared → Prop} {s : Shared} {K : Frag} {C e t : Addr} {msg : PySem.Str} {u : Tok}
theorem bexc_slot (self : Value) : bindSpecial (.builtin "BaseException.__str__") self = pure (.builtin "BaseException.__str__", [self]) := PySem.F.excStr_ValueError.str.bind self
theorem str_exc_call {Q : Value → Shared → Prop} (X : K.In s.heap) (hs : findIn K (.ref C) "__str__" = some (some (.builtin "BaseException.__str__"))) (hm : mroIn K C (.type "BaseException") = some true)
    (he : ∃ o vs, s.heap.get? e = some o ∧ o.cls = .ref C ∧ o.data = .fields vs ∧ vs[0]? = some (.ref t)) (ht : s.heap.TupAt t [.str msg u]) (h : Q (.str msg u) s) :
    wpAny (model prog w) A (callSpecial? (.ref e) (PySem.Str.ofString "__str__") []) (fun r s' => ∃ v, r = some v ∧ Q v s') E s := by
  obtain ⟨o, vs, ho, hc, hd, h0⟩ := he
  have t1 : Looks (model prog w) s.heap (typeOf (.ref e)) (.ref C) := hc ▸ (Looks.ld ho).andThen .now
  have j1 : Looks (model prog w) s.heap (specialOf (.ref e) "__str__") (some (.builtin "BaseException.__str__")) := t1.andThen (looks_findIn X hs)
  unfold callSpecial?
  refine wpAny_bind (j1.here ?_)
  dsimp only
  refine wpAny_holding ?_
  rw [bexc_slot]
  refine wpAny_bind (wpAny_pure (wpAny_bind (wpAny_call ?_)))
  refine codeAny_call_builtin PySem.F.excStr_ValueError.str.plain PySem.F.entry_bexc_str (check_slot (i := "BaseException.__str__") (owner := "BaseException") (n := "__str__") (by decide +kernel) (by decide +kernel) (t1.andThen (looks_mroIn X hm)) (PySem.F.args_bexc_str _) ?_)
  unfold Builtin.«BaseException.__str__»
  obtain ⟨ot, n, hto, htc, htd⟩ := ht
  repeat (first | with_reducible refine wpAny_bind (wpAny_field ho hd h0 (wpAny_bind (wpAny_seqItems hto htd ?_))) | wp_step)
  exact ⟨_, rfl, h⟩
theorem str_exc_of {Q : Value → Shared → Prop} (hu : A.units < cLine) (X : K.In s.heap) (hs : findIn K (.ref C) "__str__" = some (some (.builtin "BaseException.__str__"))) (hm : mroIn K C (.type "BaseException") = some true)
    (he : ∃ o vs, s.heap.get? e = some o ∧ o.cls = .ref C ∧ o.data = .fields vs ∧ vs[0]? = some (.ref t)) (ht : s.heap.TupAt t [.str msg u]) (h : Q (.str msg u) s) : wpAny (model prog w) A (PySem.Builtin.Str.strOf (.ref e)) Q E s := by
  unfold PySem.Builtin.Str.strOf
  rw [show isExactStr (.ref e) = false from rfl]
  refine wpAny_bind (m := cRoomFor _ _) (wpAny_cRoomFor hu ?_)
  refine wpAny_bind (m := callSpecial? (.ref e) (PySem.Str.ofString "__str__")) (str_exc_call (Q := fun v s' => v = .str msg u ∧ s' = s) X hs hm he ht ⟨rfl, rfl⟩ |> fun z => wpAny_mono z (fun r s' hr => ?_) fun _ _ y => y)
  obtain ⟨v, rfl, rfl, rfl⟩ := hr
  exact wpAny_pure h
theorem str_exc {Q : Value → Shared → Prop} (hu : A.units + 2 < cLine) (X : K.In s.heap) (hs : findIn K (.ref C) "__str__" = some (some (.builtin "BaseException.__str__"))) (hm : mroIn K C (.type "BaseException") = some true)
    (he : ∃ o vs, s.heap.get? e = some o ∧ o.cls = .ref C ∧ o.data = .fields vs ∧ vs[0]? = some (.ref t)) (ht : s.heap.TupAt t [.str msg u]) (h : Q (.str msg u) s) : wpAny (model prog w) A (call (.type "str") [.ref e]) Q E s :=
  callType_new PySem.F.called_str (by decide) (PySem.F.typeCall_str_1 _) (PySem.F.newCall_str_1 _) (fun obj => PySem.F.args_object_init_2 obj _) PySem.F.entry_str_new
    (meets_str_new (S := fun A' R s' => A'.units + 1 < cLine ∧ K.In s'.heap ∧ (∃ o vs, s'.heap.get? e = some o ∧ o.cls = .ref C ∧ o.data = .fields vs ∧ vs[0]? = some (.ref t)) ∧ s'.heap.TupAt t [.str msg u] ∧ R (.ok (.ret (.str msg u))) s')
      fun _ _ A' _ _ hq => str_exc_of (A := A'.in1) hq.1 hq.2.1 hs hm hq.2.2.1 hq.2.2.2.1 hq.2.2.2.2)
    ⟨(show A.units + 1 + 1 < cLine from hu), X, he, ht, typeIs_str _ _ _, h⟩
/-- the text of a caught exception of the program's own class -/
theorem str_got {h₀ : Heap} {L : Addr} {m : PySem.Str → Option Value} {news : List (Addr × Obj)} {Q : Value → Shared → Prop} (F : Fr h₀ L s.heap m) (X : K.In h₀) (N : News h₀ L s.heap news) (G : Got news e t (.ref C) [.str msg u]) (hu : A.units + 2 < cLine)
    (hs : findIn K (.ref C) "__str__" = some (some (.builtin "BaseException.__str__"))) (hm : mroIn K C (.type "BaseException") = some true) (h : Q (.str msg u) s) : wpAny (model prog w) A (call (.type "str") [.ref e]) Q E s := by
  obtain ⟨oe, ot, ws, nt, m1, m2, c1, d1, w0, c2, d2⟩ := G
  exact str_exc hu (X.keeps F.keep) hs hm ⟨oe, ws, (N _ m1).1, c1, d1, w0⟩ ⟨ot, nt, (N _ m2).1, c2, d2⟩ h
end
end Mine
end

section
open PySem PySem.W PySem.Calls PyProof.Rows PySem.Spec PySem.Builtin
set_option maxRecDepth 100000
set_option maxHeartbeats 1000000
namespace Mine
/-- an object that holds a row of values, whatever its class -/
def Holds (h : Heap) (t : Addr) (vs : Array Value) : Prop := ∃ o n, h.get? t = some o ∧ o.data = .seq vs n
def IsIt (h : Heap) (it t : Addr) (i : Nat) : Prop := ∃ o, h.get? it = some o ∧ o.cls = .type "tuple_iterator" ∧ o.data = .fields #[.ref t, .int i 0]
section
variable {prog : Program} {w : World} {A : Around} {E : Value → Shared → Prop} {s : Shared} {K : Frag} {C t it : Addr} {o : Obj} {vs : Array Value} {i : Nat}
theorem own_iter {Q : Value → Shared → Prop} (X : K.In s.heap) (ho : s.heap.get? t = some o) (hc : o.cls = .ref C) (hi : findIn K (.ref C) "__iter__" = some (some (.builtin "tuple.__iter__"))) (hm : mroIn K C (.type "tuple") = some true)
    (hQ : ∀ it h', IsIt h' it t 0 → s.heap.objs.size ≤ it → (∀ b o, s.heap.get? b = some o → h'.get? b = some o) → Q (.ref it) { s with heap := h' }) : wpAny (model prog w) A (pyIter (.ref t)) Q E s := by
  have t1 : Looks (model prog w) s.heap (typeOf (.ref t)) (.ref C) := hc ▸ (Looks.ld ho).andThen .now
  have j1 : Looks (model prog w) s.heap (specialOf (.ref t) "__iter__") (some (.builtin "tuple.__iter__")) := t1.andThen (looks_findIn X hi)
  unfold pyIter
  refine wpAny_bind (j1.here ?_)
  dsimp only
  have core : ∀ (Q : Value → Shared → Prop), (∀ it h', IsIt h' it t 0 → s.heap.objs.size ≤ it → (∀ b o, s.heap.get? b = some o → h'.get? b = some o) → Q (.ref it) { s with heap := h' }) → wpAny (model prog w) A (call (.builtin "tuple.__iter__") [.ref t]) Q E s := fun Q hQ => by
    refine wpAny_call (codeAny_call_builtin PySem.F.slot_tuple_iter.plain PySem.F.entry_tuple_iter (check_slot (i := "tuple.__iter__") (owner := "tuple") (n := "__iter__") (by decide +kernel) (by decide +kernel) (t1.andThen (looks_mroIn X hm)) (PySem.F.args_tuple_iter_1 _) ?_))
    unfold Builtin.«tuple.__iter__»
    refine wpAny_bind (m := slotArgs "__iter__" 0 _) (wpAny_pure ?_)
    refine wpAny_bind ?_
    unfold newFields
    exact wpAny_newObj_type (wpAny_pure (hQ _ _ ⟨_, Heap.get?_push_size _ rfl, rfl, rfl⟩ (Nat.le_refl _) fun b o e => Heap.get?_push_of_some _ e)) (by size_fits)
  unfold callSpecialIfBoundUnlessNone? bindSpecialIfBound?
  refine wpAny_bind (wpAny_holding (wpAny_bind (wpAny_bind (j1.here ?_))))
  refine wpAny_bind (wpAny_askSetting (wpAny_ite ?_))
  have fin : wpAny (model prog w) A (call (.builtin "tuple.__iter__") [.ref t] >>= fun v => pure (some v)) (fun a s' => wpAny (model prog w) A (match a with
      | some it => do
        match ← specialOf it "__next__" with
          | none => do
            rule "iter.non-iterator"
            raiseError "TypeError" s!"iter() returned non-iterator of type '{← typeNameOf it}'"
          | some _ => pure it
      | none => do
        match ← bindSpecialIfBound? (.ref t) "__getitem__" with
          | none => do
            rule "iter.not-iterable"
            raiseError "TypeError" s!"'{← typeNameOf (.ref t)}' object is not iterable"
          | some _ => do
            rule "iter.getitem-fallback"
            newFields "iterator" [.ref t, ← mkInt 0]) Q E s') E s := by
    refine wpAny_bind (core _ fun it h' hI hn hk => wpAny_pure ?_)
    dsimp only
    obtain ⟨oi, h1, h2, h3⟩ := hI
    exact wpAny_bind (wpAny_specialOf (T := "tuple_iterator") ⟨oi, h1, h2⟩ PySem.F.slot_tuple_iterator_next.lookup (wpAny_pure (hQ it h' ⟨oi, h1, h2, h3⟩ hn hk)))
  rw [show bindSpecial (.builtin "tuple.__iter__") (.ref t) = pure (.builtin "tuple.__iter__", [.ref t]) from PySem.F.slot_tuple_iter.bind _]
  split
  · exact wpAny_bind (wpAny_pure (wpAny_pure fin))
  · exact wpAny_tryCatch (wpAny_bind (wpAny_pure (wpAny_pure fin)))
theorem own_next {n : Nat} {x : Value} {Q : Option Value → Shared → Prop} (hI : IsIt s.heap it t i) (ho : s.heap.get? t = some o) (hd : o.data = .seq vs n) (hx : vs[i]? = some x) (hQ : ∀ h', IsIt h' it t (i + 1) → Heap.SameBut it s.heap h' → Q (some x) { s with heap := h' }) :
    wpAny (model prog w) A (pyNext (.ref it)) Q E s := by
  obtain ⟨oi, h1, h2, h3⟩ := hI
  unfold pyNext
  refine wpAny_bind (wpAny_attempt (wpAny_callSpecial?_slot (name := PySem.Str.ofString "__next__") ⟨oi, h1, h2⟩ PySem.F.slot_tuple_iterator_next (wpAny_call_entry PySem.F.slot_tuple_iterator_next ⟨oi, h1, h2⟩ PySem.F.entry_tuple_iterator_next ?_ (PySem.F.args_tuple_iterator_next_1 _))))
  show wpAny _ _ (field (.ref it) 0 >>= _) _ _ s
  refine wpAny_bind (wpAny_field h1 h3 (x := .ref t) rfl ?_)
  show wpAny _ _ (field (.ref it) 1 >>= _) _ _ s
  refine wpAny_bind (wpAny_field h1 h3 (x := .int i 0) rfl ?_)
  show wpAny _ _ (seqItems? (.ref t) >>= _) _ _ s
  refine wpAny_bind (wpAny_seqItems ho hd ?_)
  simp only [Int.toNat_natCast, hx]
  refine wpAny_bind (wpAny_setField h1 h3 (by show 1 < 2; decide) (wpAny_pure ⟨x, rfl, wpAny_pure (hQ _ ?_ (Heap.SameBut.update ..))⟩))
  exact ⟨_, Heap.get?_update_self _ h1 (Obj.isFreed_of_fields (Obj.data_mapFields h3 _)), (Obj.cls_mapFields ..).trans h2, by rw [Obj.data_mapFields h3]; simp [rawInt]⟩
theorem own_last {n : Nat} {Q : Option Value → Shared → Prop} (hh : A.handled = none) (hI : IsIt s.heap it t i) (ho : s.heap.get? t = some o) (hd : o.data = .seq vs n) (hx : vs[i]? = none) (hQ : ∀ h', Heap.ExtBut it s.heap h' → Q none { s with heap := h' }) :
    wpAny (model prog w) A (pyNext (.ref it)) Q E s := by
  obtain ⟨oi, h1, h2, h3⟩ := hI
  unfold pyNext
  refine wpAny_bind (wpAny_attempt (wpAny_callSpecial?_slot (name := PySem.Str.ofString "__next__") ⟨oi, h1, h2⟩ PySem.F.slot_tuple_iterator_next (wpAny_call_entry PySem.F.slot_tuple_iterator_next ⟨oi, h1, h2⟩ PySem.F.entry_tuple_iterator_next ?_ (PySem.F.args_tuple_iterator_next_1 _))))
  show wpAny _ _ (field (.ref it) 0 >>= _) _ _ s
  refine wpAny_bind (wpAny_field h1 h3 (x := .ref t) rfl ?_)
  show wpAny _ _ (field (.ref it) 1 >>= _) _ _ s
  refine wpAny_bind (wpAny_field h1 h3 (x := .int i 0) rfl ?_)
  show wpAny _ _ (seqItems? (.ref t) >>= _) _ _ s
  refine wpAny_bind (wpAny_seqItems ho hd ?_)
  simp only [Int.toNat_natCast, hx]
  refine wpAny_bind (wpAny_rule (wpAny_bind (wpAny_setField h1 h3 (by show 0 < 2; decide) ?_)))
  show wpAny _ _ (newExc (.type "StopIteration") [] >>= _) _ _ _
  simp only [newExc, newTuple]
  refine wpAny_bind (wpAny_bind (wpAny_newObj_type (wpAny_bind (m := firstArgMember _ _) (wpAny_of_eq (a := Value.none) (by first | rfl | (simp only [firstArgMember]; rfl)) (wpAny_newObj_type ?_ (by size_fits)))) (by size_fits)))
  simp only [raiseNew]
  refine wpAny_bind (wpAny_handled ?_)
  rw [show A.in1.handled = none from hh]
  refine wpAny_bind (wpAny_pure (wpAny_throw ?_))
  refine wpAny_bind (wpAny_isInstance (T := "StopIteration") (b := true) ⟨_, Heap.get?_push_size _ rfl, rfl⟩ isSubtype_stop ?_)
  exact wpAny_pure (hQ _ (((Heap.SameBut.update ..).extBut.push _).push _))
end
section
variable {prog : Program} {w : World} {A : Around} {E : Value → Shared → Prop} {s : Shared} {K : Frag} {C t dx : Addr} {v1 v2 : Value} {h₀ : Heap} {L : Addr} {m : PySem.Str → Option Value} {news : List (Addr × Obj)} {o : Obj} {n : Nat}
/-- a pair of the program's own class is unpacked into two names -/
theorem own_pair {Q : List Value → Shared → Prop} (F : Fr h₀ L s.heap m) (N : News h₀ L s.heap news) (X₀ : K.In h₀) (hh : A.handled = none) (hm : (t, o) ∈ news) (hc : o.cls = .ref C) (hd : o.data = .seq #[v1, v2] n)
    (hi : findIn K (.ref C) "__iter__" = some (some (.builtin "tuple.__iter__"))) (ht : mroIn K C (.type "tuple") = some true) (hQ : ∀ h', Fr h₀ L h' m → News h₀ L h' news → Q [v1, v2] { s with heap := h' }) :
    wpAny (model prog w) A (unpackItems (.ref t) 2 none) Q E s := by
  have ho := (N _ hm).1
  have X := X₀.keeps F.keep
  have t1 : Looks (model prog w) s.heap (typeOf (.ref t)) (.ref C) := hc ▸ (Looks.ld ho).andThen .now
  have j1 : Looks (model prog w) s.heap (specialOf (.ref t) "__iter__") (some (.builtin "tuple.__iter__")) := t1.andThen (looks_findIn X hi)
  unfold unpackItems
  refine wpAny_bind ?_
  unfold notIterableAtAll
  refine wpAny_bind (j1.here (wpAny_pure ?_))
  simp only [Bool.false_eq_true, if_false]
  refine wpAny_bind (wpAny_holding (own_iter X ho hc hi ht fun it h₁ hI hn hk => ?_))
  have hne : t ≠ it := Nat.ne_of_lt (Nat.lt_of_lt_of_le (Heap.lt_size ho) hn)
  refine wpAny_bind (wpAny_holding ?_)
  have o1 := hk _ _ ho
  refine wpAny_bind (own_next hI o1 hd (x := v1) rfl fun h₂ hI₂ s₂ => wpAny_bind (wpAny_holding ?_))
  have o2 := s₂.extBut t o hne o1
  refine wpAny_bind (own_next hI₂ o2 hd (x := v2) rfl fun h₃ hI₃ s₃ => wpAny_bind (wpAny_holding (wpAny_pure (wpAny_pure (wpAny_pure ?_)))))
  have o3 := s₃.extBut t o hne o2
  rw [if_neg (by simp)]
  refine wpAny_bind (wpAny_holding (own_last hh hI₃ o3 hd rfl fun h₄ s₄ => ?_))
  simp only [Option.isSome_none, Bool.false_eq_true, if_false]
  have all : Heap.ExtBut it s.heap h₄ := fun b ob hb e => s₄ b ob hb (s₃.extBut b ob hb (s₂.extBut b ob hb (hk _ _ e)))
  exact wpAny_pure (hQ h₄ (F.extBut all hn) (N.extBut all hn))
theorem own_assign {env : Env} {elts : List Expr} {x1} {pos : Pos} {Q : Unit → Shared → Prop} (F : Fr h₀ L s.heap m) (N : News h₀ L s.heap news) (X₀ : K.In h₀) (hh : A.handled = none) (hm : (t, o) ∈ news) (hc : o.cls = .ref C) (hd : o.data = .seq #[v1, v2] n)
    (hi : findIn K (.ref C) "__iter__" = some (some (.builtin "tuple.__iter__"))) (ht : mroIn K C (.type "tuple") = some true) (hn : (assignEach elts env).length = 2) (hstar : (assignEach elts env).findIdx? (·.1) = none)
    (h : ∀ h', Fr h₀ L h' m → News h₀ L h' news → wpAny (model prog w) A (assignInOrder ((assignEach elts env).map (·.2)) [v1, v2]) Q E { s with heap := h' }) :
    wpAny (model prog w) A (assign (.Tuple elts x1 pos) env (.ref t)) Q E s := by
  rw [arm_assign_Tuple]
  refine wpAny_bind (wpAny_standAt ?_)
  unfold unpack
  rw [hn, hstar]
  exact wpAny_bind (wpAny_holding (own_pair F N X₀ hh hm hc hd hi ht h))
end
end Mine
end

section
open PySem PySem.W PySem.Calls PyProof.Rows PySem.Spec
set_option maxRecDepth 100000
set_option maxHeartbeats 1000000
namespace Mine
section
variable {prog : Program} {w : World} {A : Around} {E : Value → Shared → Prop} {s : Shared} {h₀ : Heap} {L a b : Addr} {news : List (Addr × Obj)}
theorem eqB_same (v : Value) (hv : (v == v) = true) : MeetsSeq.EqGives v v true := fun prog w A E s Q h => by
  unfold eqBool
  refine wpAny_holding ?_
  show wpAny _ _ (if (v == v) = true then _ else _) Q E s
  rw [if_pos hv]
  exact wpAny_bind (wpAny_rule (wpAny_pure h))
theorem eq_same {vs : List Value} {c d : Nat} {Q : Value → Shared → Prop} (N : News h₀ L s.heap news) (hu : A.units < cLine) (ha : (a, listOf vs.toArray c) ∈ news) (hb : (b, listOf vs.toArray d) ∈ news) (hs : ∀ v ∈ vs, (v == v) = true) (h : Q (.bool true) s) :
    wpAny (model prog w) A (compareOp .Eq (.ref a) (.ref b)) Q E s := by
  refine SeqAt.eq_listAt (e := fun _ => true) (N.isList ha) (N.isList hb) rfl hu (fun j h1 h2 => (eqB_same _ (hs _ ?_)).at _ _) ?_
  · simp
  · have e : ((List.range vs.toArray.size).all fun _ => true) = true := by rw [List.all_eq_true]; intros; rfl
    rw [e]; exact h
theorem ne_same {vs : List Value} {c d : Nat} {Q : Value → Shared → Prop} (N : News h₀ L s.heap news) (hu : A.units < cLine) (ha : (a, listOf vs.toArray c) ∈ news) (hb : (b, listOf vs.toArray d) ∈ news) (hs : ∀ v ∈ vs, (v == v) = true) (h : Q (.bool false) s) :
    wpAny (model prog w) A (compareOp .NotEq (.ref a) (.ref b)) Q E s := by
  refine SeqAt.RcNeAt.lists (e := fun _ => true) (N.isList ha) (N.isList hb) rfl hu (fun j h1 h2 => (eqB_same _ (hs _ ?_)).at _ _) prog w E Q ?_
  · simp
  · have e : ((List.range vs.toArray.size).all fun _ => true) = true := by rw [List.all_eq_true]; intros; rfl
    rw [e]; exact h
end
end Mine
end

section
open PySem PySem.W PySem.Calls PyProof.Rows PySem.Spec PySem.Builtin PySem.Builtin.ObjectAttr
set_option maxRecDepth 100000
set_option maxHeartbeats 1000000
namespace Mine
section
variable {prog : Program} {w : World} {A : Around} {E : Value → Shared → Prop} {s : Shared} {K : Frag} {C x : Addr} {ox : Obj} {od : Option Obj} {name : PySem.Str}
/-- an attribute of an object of a subclass of tuple, held by a descriptor that the program defines itself -/
theorem own_attr {g a : Addr} {expr : Bool} {Q : Value → Shared → Prop} (X : K.In s.heap) (I : InstAt s.heap x ox C od) (hga : findIn K (.ref C) "__getattribute__" = some (some (.builtin "tuple.__getattribute__"))) (hk : findIn K (.ref C) "__getattr__" = some none)
    (hf : findObj K C od name = some (.bind (.ref g) (.ref a))) (hm : mroIn K C (.type "tuple") = some true)
    (h : wpAny (model prog w) A.in1 (call (.ref g) [.ref a, .ref x, .ref C]) (fun v s' => wpAny (model prog w) A (handedOut v) Q E s') (fun _ _ => False) { s with toks := s.toks + 1 }) :
    wpAny (model prog w) A (getAttr (.ref x) name expr) Q E s := by
  have L0 := I.type (M := model prog w)
  have L1 := looks_findIn (M := model prog w) X hga
  have L2 := looks_findIn (M := model prog w) X hk
  have L3 := looks_find (M := model prog w) X I hf
  have L4 := looks_mroIn (M := model prog w) X hm
  obtain ⟨hp, gg, d, tk, os⟩ := s
  unfold getAttr getAttrBy
  refine wpAny_bind (wpAny_mkText (wpAny_holding (wpAny_bind (L0.at (wpAny_bind (L1.at ?_))))))
  show wpAny _ _ (getAttrByItsOwn _ _ _ _ _ _) _ _ _
  unfold getAttrByItsOwn
  refine wpAny_bind (m := hookBefore (.ref C)) (L2.at ?_)
  refine wpAny_bind (wpAny_attempt (wpAny_holding ?_))
  have e1 : callGetattribute (.ref x) (.str name tk) (.builtin "tuple.__getattribute__") expr = boundAndCalled (.builtin "tuple.__getattribute__") (.ref x) (.str name tk) := by
    unfold callGetattribute
    rw [if_neg (by cases expr <;> decide)]
  rw [e1]
  unfold boundAndCalled
  rw [show bindSpecial (.builtin "tuple.__getattribute__") (.ref x) = pure (.builtin "tuple.__getattribute__", [.ref x]) from PySem.F.slot_tuple_getattribute.bind _]
  refine wpAny_bind (wpAny_pure (wpAny_call ?_))
  refine codeAny_call_builtin PySem.F.slot_tuple_getattribute.plain am_entry_tuple_getattribute (check_slot (i := "tuple.__getattribute__") (owner := "tuple") (n := "__getattribute__") (by decide +kernel) (by decide +kernel) (L0.andThen L4) (PySem.F.args_tuple_getattribute_2 _ _) ?_)
  unfold Builtin.«object.__getattribute__»
  refine wpAny_bind (m := slotArgs "__getattribute__" 1 _) (wpAny_pure ?_)
  refine wpAny_bind (m := attrName _) (wpAny_pure ?_)
  refine wpAny_bind (L0.at (wpAny_bind (L3.at ?_)))
  dsimp only
  unfold bindTo
  dsimp only
  refine wpAny_bind (wpAny_holding (wpAny_mono h (fun v s' z => ?_) fun _ _ z => z.elim))
  exact wpAny_pure z
end
end Mine
end

section
open PySem PySem.W PySem.Calls PyProof.Rows
set_option maxRecDepth 100000
set_option maxHeartbeats 400000
namespace Mine
theorem cls_some {K : Frag} {C : Addr} {c : Value} {d : Option Addr} {cd : ClassData} {sl : Array (Option Value)} (e : K.lookup C = some ⟨c, d, .cls cd, sl⟩) : (clsIn K C).isSome = true := by
  unfold clsIn; rw [e]; rfl
section
variable {prog : Program} {w : World} {A : Around} {E : Value → Shared → Prop} {s : Shared} {h₀ : Heap} {L t C : Addr} {o : Obj} {news : List (Addr × Obj)}
theorem type_own {Q : Value → Shared → Prop} (N : News h₀ L s.heap news) (hm : (t, o) ∈ news) (hc : o.cls = .ref C) (h : Q (.ref C) s) : wpAny (model prog w) A (call (.type "type") [.ref t]) Q E s := by
  obtain ⟨hp, g, d, tk, os⟩ := s
  refine call_type_obj (N _ hm).1 (by rw [hc]; rfl) ?_
  rw [hc]; exact h
end
section
variable {prog : Program} {w : World} {A : Around} {E : Value → Shared → Prop} {s : Shared} {K : Frag} {C : Addr} {c : Value} {d : Option Addr} {cd : ClassData} {sl : Array (Option Value)} {T : String}
theorem sub_nested {k : Value} {dep : Int} {tk : Tok} {Q : Fin → Shared → Prop} (hk : k = .int dep tk) (X : K.In s.heap) (e : K.lookup C = some ⟨c, d, .cls cd, sl⟩) (hm : mroIn K C (.type T) = some true) (ht : typeOf (.type T) = pure (.type "type")) (hq : Q (.done (.ret (.bool true))) s) :
    wpAny (model prog w) A (Builtin.«issubclass.nested» ⟨[.ref C, .type T, k], []⟩) Q E s := by
  subst hk
  have L1 : Looks (model prog w) s.heap (isType (.ref C)) true := (Looks.ld (X _ _ e)).andThen .now
  have L2 := looks_mroIn (M := model prog w) X hm
  have L3 : Looks (model prog w) s.heap (typeOf (.type T)) (.type "type") := Looks.of_pure ht
  obtain ⟨hp, g, dr, t, os⟩ := s
  unfold Builtin.«issubclass.nested»
  repeat lk
  exact hq
theorem sub_own {Q : Value → Shared → Prop} (X : K.In s.heap) (e : K.lookup C = some ⟨c, d, .cls cd, sl⟩) (hm : mroIn K C (.type T) = some true) (ht : typeOf (.type T) = pure (.type "type")) (h : Q (.bool true) s) : wpAny (model prog w) A (call (.builtin "issubclass") [.ref C, .type T]) Q E s :=
  call_issubclass (S := fun _ R s => K.In s.heap ∧ R (.ok (.ret (.bool true))) s) (fun _ _ _ _ _ hs => issubclass_outer (sub_nested rfl hs.1 e hm ht hs.2)) ⟨X, h⟩
end
section
variable {prog : Program} {w : World} {A : Around} {E : Value → Shared → Prop} {s : Shared} {K : Frag} {C t : Addr} {o : Obj} {vs : Array Value} {n : Nat} {i : Int} {tk : Tok} {v : Value}
theorem item_own {h₀ : Heap} {L : Addr} {news : List (Addr × Obj)} {Q : Value → Shared → Prop} (X : K.In s.heap) (N : News h₀ L s.heap news) (hmem : (t, o) ∈ news) (hc : o.cls = .ref C) (hd : o.data = .seq vs n) (hm : mroIn K C (.type "tuple") = some true) (h0 : i = 0 ∨ i = 1) (hz : vs.size = 2) (hv : vs[i.toNat]? = some v) (h : Q v s) :
    wpAny (model prog w) A (call (.builtin "tuple.__getitem__") [.ref t, .int i tk]) Q E s := by
  have ho := (N _ hmem).1
  have t1 : Looks (model prog w) s.heap (typeOf (.ref t)) (.ref C) := hc ▸ (Looks.ld ho).andThen .now
  refine wpAny_call (codeAny_call_builtin slot_tuple_getitem.plain entry_tuple_getitem (check_slot (i := "tuple.__getitem__") (owner := "tuple") (n := "__getitem__") (by decide +kernel) (by decide +kernel) (t1.andThen (looks_mroIn X hm)) (args_tuple_getitem _ _) ?_))
  unfold Builtin.«tuple.__getitem__»
  refine wpAny_bind (m := slotArgs "__getitem__" 1 _) (wpAny_pure ?_)
  dsimp only
  unfold Builtin.Tuple.tupleItemsOf
  refine wpAny_bind (wpAny_bind (wpAny_seqItems ho hd (wpAny_pure ?_)))
  have hr : (seqIndex? i vs.size).bind (vs[·]?) = some v := by
    have e : seqIndex? i vs.size = some i.toNat := by rw [hz]; rcases h0 with rfl | rfl <;> rfl
    rw [e]; exact hv
  have hb : (decide (i < -(2 ^ 63)) || decide (i ≥ 2 ^ 63)) = false := by rcases h0 with rfl | rfl <;> decide
  refine wpAny_bind (wpAny_typeOf (typeIs_int s i tk) ?_)
  rw [if_neg (by decide)]
  refine wpAny_bind (wpAny_specialOf (T := "int") (typeIs_int s i tk) int_index ?_)
  rw [if_neg (by simp)]
  refine wpAny_bind (wpAny_of_eq (a := i) rfl ?_)
  rw [if_neg (by rw [hb]; decide), hr]
  exact wpAny_pure (a := Fin.done (.ret v)) h
end
theorem meta_tup : typeOf (.type "tuple") = pure (.type "type") := by kernel_rfl
local macro_rules | `(tactic| walk_at "call builtin:issubclass") => `(tactic| (k_here; k_dflt (refine' sub_own ?X ?e ?m ?t ?_; (case X => k_in); (case e => k_is); (case m => k_is); (case t => exact meta_tup); k_whole)))
local macro_rules | `(tactic| walk_at "getMethod type:tuple") => `(tactic| (k_here; refine' method_type ?F ?X ?m (by decide +kernel) ?e ?h ?_; (case F => k_asm); (case X => k_asm); (case m => exact meta_tup); (case e => k_dflt k_is); (case h => k_handed)))
local macro_rules | `(tactic| walk_at "call type:type") => `(tactic| (k_here; k_dflt (refine' type_own ?N ?m ?c ?_; (case N => k_asm); (case m => assumption); (case c => exact rfl); k_whole)))
local macro_rules | `(tactic| walk_at "call builtin:tuple.__getitem__") => `(tactic| (k_here; k_dflt (refine' item_own ?X ?N ?o ?c ?d ?m ?z ?sz ?v ?_; (case X => k_in); (case N => k_asm); (case o => assumption); (case c => exact rfl); (case d => exact rfl); (case m => k_is); (case z => decide); (case sz => exact rfl); (case v => exact rfl); k_whole)))
theorem get_slope {w : World} {dp un : Nat} {gd : Option (List Code)} {cn : Str} {cs : Scope} {a : Addr} {ccd : Value} {cl : List (Str × Addr)} {outer : List Env} {A₀ : Around} {base h₀ : Heap} {L : Addr} {m : Str → Option Value} {s : Shared} {Q E : Value → Shared → Prop}
    {mean : ExcName → Option Value} {mg mb : Str → Option Value} {news : List (Addr × Obj)} {t dx : Addr} {v1 v2 : Value}
    (B : Below A₀ base outer h₀) (F : Fr h₀ L s.heap m) (N : News h₀ L s.heap news) (T : Top Mine.vw (looseW Mine.vw [Str.ofString "_tuplegetter", Str.ofString "LinearRegression", Str.ofString "linear_regression"]) mean mg mb h₀) (hk : cs.kind = .function) (hd : dp + 5 < recursionLimit) (hu : un + 40 < cLine)
    (ht : (t, lrObj 173 dx v1 v2) ∈ news) (hdx : (dx, emptyDict) ∈ news) (hv : handedOut v1 = pure v1)
    (h : ∀ h' tk, Fr h₀ L h' m → News h₀ L h' news → Q v1 { s with heap := h', toks := tk }) :
    (Mine.hd.heap_39 w.params).In h₀ → wpAny (model PySem.Challenge.rw_kq0023_02.row.prog w) (ktrTop dp un gd cn cs L a ccd cl outer) (getAttr (.ref t) (Str.ofString "slope") true) Q E s := by
  k_fill
  intro X
  have I : InstAt s.heap t (lrObj 173 dx v1 v2) 173 (some emptyDict) := ⟨(N _ ht).1, rfl, rfl, (N _ hdx).1⟩
  refine' own_attr (g := 71) (a := 165) (X.keeps F.keep) I ?k1 ?k2 ?k3 ?k4 ?_
  case k1 => k_is
  case k2 => k_is
  case k3 =>
    refine' findObj_data ?a ?b ?c ?d
    case a => (refine' have_eq (x := (Mine.hd.heap_39 w.params).lookup 173) ?e ?k; (case e => k_is); exact cls_some)
    case b => k_is
    case c => k_is
    case d => k_is
  case k4 => k_is
  refine wpAny_call ?_
  refine' code_def ?k1 ?k2 ?k3 ?k4 ?k5 ?kA ?kF ?kK ?k6 ?k7 ?k8 ?k9 ?kB ?_ ?c2 ?c3 ?c4 ?c5; (case kA => exact rfl); (case kF => exact rfl); (case kK => exact hk); (case k1 => k_asm); (case k2 => k_asm); (case k3 => k_asm); (case k4 => k_asm); (case k5 => k_asm); (case k6 => k_is); (case k7 => k_is); (case k8 => ktr_room); (case k9 => first | exact binds_K (by k_in) rfl (by k_is) rfl rfl rfl | exact BindsTo.of_eq rfl); (case kB => exact locs rfl); (case c2 => exact rfl); (case c3 => exact rfl); (case c4 => exact rfl); (case c5 => decide)
  intro g' L' h' FG' F' N' B' X' T'
  (try dsimp only)
  (try k_fold)
  k_steps
  all_goals (try k_data)
  show wpAny _ _ (handedOut v1) _ _ _
  rw [hv]
  refine wpAny_pure (h _ _ ?_ ?_)
  · assumption
  · assumption
theorem get_intercept {w : World} {dp un : Nat} {gd : Option (List Code)} {cn : Str} {cs : Scope} {a : Addr} {ccd : Value} {cl : List (Str × Addr)} {outer : List Env} {A₀ : Around} {base h₀ : Heap} {L : Addr} {m : Str → Option Value} {s : Shared} {Q E : Value → Shared → Prop}
    {mean : ExcName → Option Value} {mg mb : Str → Option Value} {news : List (Addr × Obj)} {t dx : Addr} {v1 v2 : Value}
    (B : Below A₀ base outer h₀) (F : Fr h₀ L s.heap m) (N : News h₀ L s.heap news) (T : Top Mine.vw (looseW Mine.vw [Str.ofString "_tuplegetter", Str.ofString "LinearRegression", Str.ofString "linear_regression"]) mean mg mb h₀) (hk : cs.kind = .function) (hd : dp + 5 < recursionLimit) (hu : un + 40 < cLine)
    (ht : (t, lrObj 173 dx v1 v2) ∈ news) (hdx : (dx, emptyDict) ∈ news) (hv : handedOut v2 = pure v2)
    (h : ∀ h' tk, Fr h₀ L h' m → News h₀ L h' news → Q v2 { s with heap := h', toks := tk }) :
    (Mine.hd.heap_39 w.params).In h₀ → wpAny (model PySem.Challenge.rw_kq0023_02.row.prog w) (ktrTop dp un gd cn cs L a ccd cl outer) (getAttr (.ref t) (Str.ofString "intercept") true) Q E s := by
  k_fill
  intro X
  have I : InstAt s.heap t (lrObj 173 dx v1 v2) 173 (some emptyDict) := ⟨(N _ ht).1, rfl, rfl, (N _ hdx).1⟩
  refine' own_attr (g := 71) (a := 168) (X.keeps F.keep) I ?k1 ?k2 ?k3 ?k4 ?_
  case k1 => k_is
  case k2 => k_is
  case k3 =>
    refine' findObj_data ?a ?b ?c ?d
    case a => (refine' have_eq (x := (Mine.hd.heap_39 w.params).lookup 173) ?e ?k; (case e => k_is); exact cls_some)
    case b => k_is
    case c => k_is
    case d => k_is
  case k4 => k_is
  refine wpAny_call ?_
  refine' code_def ?k1 ?k2 ?k3 ?k4 ?k5 ?kA ?kF ?kK ?k6 ?k7 ?k8 ?k9 ?kB ?_ ?c2 ?c3 ?c4 ?c5; (case kA => exact rfl); (case kF => exact rfl); (case kK => exact hk); (case k1 => k_asm); (case k2 => k_asm); (case k3 => k_asm); (case k4 => k_asm); (case k5 => k_asm); (case k6 => k_is); (case k7 => k_is); (case k8 => ktr_room); (case k9 => first | exact binds_K (by k_in) rfl (by k_is) rfl rfl rfl | exact BindsTo.of_eq rfl); (case kB => exact locs rfl); (case c2 => exact rfl); (case c3 => exact rfl); (case c4 => exact rfl); (case c5 => decide)
  intro g' L' h' FG' F' N' B' X' T'
  (try dsimp only)
  (try k_fold)
  k_steps
  all_goals (try k_data)
  show wpAny _ _ (handedOut v2) _ _ _
  rw [hv]
  refine wpAny_pure (h _ _ ?_ ?_)
  · assumption
  · assumption
end Mine
end

section
open PySem PySem.W PySem.Calls PyProof.Rows
set_option maxRecDepth 100000
set_option maxHeartbeats 400000
namespace Mine
section
variable {prog : Program} {w : World} {A : Around} {E : Value → Shared → Prop} {s : Shared} {h₀ : Heap} {L a : Addr} {news : List (Addr × Obj)} {xs : List Value} {c : Nat}
theorem my_len {Q : Value → Shared → Prop} (N : News h₀ L s.heap news) (hm : (a, W.listOf xs.toArray c) ∈ news) (hf : xs.length < 200) (h : Q (.int xs.length (s.toks + 1)) { s with toks := s.toks + 1 + 1 }) :
    wpAny (model prog w) A (call (.builtin "len") [.ref a]) Q E s := by
  refine len_list (N.isList hm) (by simp; omega) ?_
  simpa using h
end
local macro_rules | `(tactic| walk_at "call builtin:len") => `(tactic| (k_here; (with_reducible show wpAny _ _ (call (Value.builtin _) [Value.ref _]) _ _ _); (refine' my_len ?k1 ?k2 ?k3 ?_; (case k1 => k_asm); (case k2 => k_ownIn); (case k3 => assumption); k_whole)))
def SumIs (xs ys : List Value) (S : Int) : Prop := ∀ (prog : Program) (w : World) (A : Around) (E : Value → Shared → Prop) (s : Shared) (ax ay : Addr) (Q : Value → Shared → Prop), A.handled = none → s.heap.IsList ax xs.toArray → s.heap.IsList ay ys.toArray →
  (∀ h' tk v, Kept s.heap h' → s.toks ≤ tk → NumV v S → Q v { s with heap := h', toks := tk }) → wpAny (model prog w) A (call (.builtin "math.sumprod") [.ref ax, .ref ay]) Q E s
section
variable {prog : Program} {w : World} {A : Around} {E : Value → Shared → Prop} {s : Shared} {h₀ : Heap} {L a b : Addr} {m : Str → Option Value} {news : List (Addr × Obj)} {xs ys : List Value} {c d : Nat} {S : Int}
theorem my_sumprod {Q : Value → Shared → Prop} (hs : SumIs xs ys S) (hA : A.handled = none) (F : Fr h₀ L s.heap m) (N : News h₀ L s.heap news) (hm : (a, W.listOf xs.toArray c) ∈ news) (hm2 : (b, W.listOf ys.toArray d) ∈ news)
    (h : ∀ h' tk v, Fr h₀ L h' m → News h₀ L h' news → NumV v S → Q v { s with heap := h', toks := tk }) :
    wpAny (model prog w) A (call (.builtin "math.sumprod") [.ref a, .ref b]) Q E s :=
  hs prog w A E s a b Q hA (N.isList hm) (N.isList hm2) fun h' tk v hk _ hv => h h' tk v (F.keeps hk) (N.grown hk) hv
end
local macro_rules | `(tactic| walk_at "call builtin:math.sumprod") => `(tactic| (k_here; (refine' my_sumprod ?ks ?ka ?k1 ?k2 ?k3 ?k4 ?_; (case k1 => k_asm); (case k2 => k_asm); (case k3 => k_ownIn); (case k4 => k_ownIn); (case ks => assumption); (case ka => rfl); k_whole); intro h' tk' v' F' N' v1'))
local macro_rules | `(tactic| walk_at "binaryOp Add float") => `(tactic| (k_here; (refine' num_add_zero ?k1 ?k2 ?_; (case k1 => assumption); (case k2 => exact ex_lit0)); intro r' t' r1'))
local macro_rules | `(tactic| walk_at "binaryOp Div float") => `(tactic| (k_here; (refine' num_div ?k1 ?k2 ?k3 ?_; (case k1 => assumption); (case k2 => assumption); (case k3 => assumption)); intro r' t' r1'))
local macro_rules | `(tactic| walk_at "exec Try cons cons nil nil") => `(tactic| (k_here; (refine wpAny_Try_except ?_); (try dsimp only)))
local macro_rules | `(tactic| walk_at "ite") => `(tactic| (k_here; first | (refine ite_pos (by (simp only [bne_iff_ne, beq_iff_eq, ne_eq, decide_eq_true_eq]; omega)) ?_) | (refine ite_neg (by (simp only [bne_iff_ne, beq_iff_eq, ne_eq, decide_eq_true_eq]; omega)) ?_)))
local macro_rules | `(tactic| walk_at "call ref nil") => `(tactic| (k_here; (refine' lr_make ?k1 ?k2 ?_ ?k4; (case k1 => k_asm); (case k2 => k_asm); (case k4 => k_asm); k_whole)))
local macro_rules | `(tactic| walk_at "call ref cons cons") => `(tactic| (k_here; (refine wpAny_call ?_); (refine' code_def ?k1 ?k2 ?k3 ?k4 ?k5 ?kA ?kF ?kK ?k6 ?k7 ?k8 ?k9 ?kB ?_ ?c2 ?c3 ?c4 ?c5; (case kA => exact rfl); (case kF => exact rfl); (case kK => exact rfl); (case k1 => k_asm); (case k2 => k_asm); (case k3 => k_asm); (case k4 => k_asm); (case k5 => k_asm); (case k6 => k_is); (case k7 => k_is); (case k8 => ktr_room); (case k9 => exact BindsTo.of_eq rfl); (case c5 => decide); (case kB => exact locs rfl); (case c2 => exact rfl); (case c3 => exact rfl); (case c4 => exact rfl); k_whole; intro g' L' h' FG' F' N' B' X' T'; (try dsimp only); (try k_lift B'); (try k_fold))))
theorem meta_tuple : typeOf (.type "tuple") = pure (.type "type") := by kernel_rfl
local macro_rules | `(tactic| walk_at "getMethod type:tuple") => `(tactic| (k_here; refine' method_type ?F ?X ?m (by decide +kernel) ?e ?h ?_; (case F => k_asm); (case X => k_asm); (case m => exact meta_tuple); (case e => k_dflt k_is); (case h => k_handed)))
local macro_rules | `(tactic| walk_at "call builtin:tuple.__new__") => `(tactic| (k_here; (refine' lr_new ?k1 ?k2 ?k3 ?_ ?k4; (case k1 => k_asm); (case k2 => k_asm); (case k3 => k_mem); (case k4 => k_asm); k_whole; intro t' dx' h' tk' F' N' hk' l1 l2; (try k_lt l1); (try k_lt2 l2))))
local macro_rules | `(tactic| walk_at "exec Raise some none") => `(tactic| (k_here; (with_reducible show wpAny _ _ (exec (Stmt.Raise (some (Expr.Call (Expr.Name _ _) (_ :: _) [] _)) none _) (envOfC _ _ _ _ _)) _ _ _); k_dflt (refine' raise_any ?O PySem.F.excBase_ValueError ?h ?n ?_ ?a ?b; (case O => exact own_of_in (by k_asm) (by k_asm) (by k_is) (by k_exc)); (case h => rfl); (case n => (intro Q hQ; exact nameX_K (by k_asm) (by k_asm) (by k_asm) (by k_is) hQ)); (case a => rfl); (case b => rfl); k_whole)))
local macro_rules | `(tactic| walk_at "leaving ref") => `(tactic| (k_here; (with_reducible show wpAny _ _ (leaving (envOfC _ _ _ _ _) _) _ _ _); (refine' leave_raise_any ?k1 ?k0 ?k2 ?k3 ?kf ?kk ?_; (case k0 => assumption); (case k1 => assumption); (case k2 => assumption); (case k3 => k_asm); (case kf => rfl); (case kk => (show ScopeKind.function ≠ ScopeKind.module; decide)); k_whole; intro h' t' R' U'; (try dsimp only at R' U' ⊢))))
theorem raised_tail {base G h : Heap} {l : List Env} {e t : Addr} {cls : Value} {vs : List Value} {p q : Addr × Obj} {news : List (Addr × Obj)} (R : RaisedS base G l e cls t vs (p :: q :: news) h) : RaisedS base G l e cls t vs news h := raised_sub R fun _ h => .tail _ (.tail _ h)
theorem lr_len {w : World} {dp un : Nat} {gd : Option (List Code)} {cn : Str} {cs : Scope} {a : Addr} {ccd : Value} {cl : List (Str × Addr)} {outer : List Env} {A₀ : Around} {base h₀ : Heap} {L : Addr} {m : Str → Option Value} {s : Shared} {Q E : Value → Shared → Prop}
    {mean : ExcName → Option Value} {mg mb : Str → Option Value} {news : List (Addr × Obj)} {ax ay : Addr} {xs ys : List Value} {cx cy : Nat}
    (B : Below A₀ base outer h₀) (F : Fr h₀ L s.heap m) (N : News h₀ L s.heap news) (T : Top Mine.vw (looseW Mine.vw [Str.ofString "_tuplegetter", Str.ofString "LinearRegression", Str.ofString "linear_regression"]) mean mg mb h₀) (hk : cs.kind = .function) (hd : dp + 5 < recursionLimit) (hu : un + 40 < cLine)
    (hx : (ax, listOf xs.toArray cx) ∈ news) (hy : (ay, listOf ys.toArray cy) ∈ news) (hxl : xs.length < 200) (hyl : ys.length < 200)
    (hlen : xs.length ≠ ys.length) (hE : ∀ e t g' h' tk tk', Fr h₀ L g' m → RaisedS base g' (envX cn cs L a ccd cl :: outer) e (.ref 102) t [.str (Str.ofString "linear regression requires that both inputs have same number of data points") tk] news h' → g'.UpToSlots h' → E (.ref e) { s with heap := h', toks := tk' }) :
    (Mine.hd.heap_39 w.params).In h₀ → wpAny (model PySem.Challenge.rw_kq0023_02.row.prog w) (ktrTop dp un gd cn cs L a ccd cl outer) (call (.ref 182) [.ref ax, .ref ay] [(Str.ofString "proportional", .bool true)]) Q E s := by
  k_fill
  intro X
  refine wpAny_call ?_
  refine' code_defC ?k1 ?k2 ?k3 ?k4 ?k5 ?kA ?kF ?kK ?k6 ?k7 ?k8 ?k9 ?kB ?kD ?_ ?c2 ?c3 ?c4; (case kA => exact rfl); (case kF => exact rfl); (case kK => exact hk); (case k1 => k_asm); (case k2 => k_asm); (case k3 => k_asm); (case k4 => k_asm); (case k5 => k_asm); (case k6 => k_is); (case k7 => k_is); (case k8 => ktr_room)
  case k9 => first | exact BindsTo.of_eq rfl | exact binds_K (by k_in) rfl (by k_is) rfl rfl rfl | (refine' kp_binds ?kx ?ke; (case kx => k_in); (case ke => exact fun _ => rfl))
  case kB => exact rfl
  case kD => decide +kernel
  case c2 => exact rfl
  case c3 => exact rfl
  case c4 => exact rfl
  intro g' L' h' tk' cells' FG' F' N' Y' B' X' T' l1
  k_cells Y'
  (try simp only [List.cons_append, List.nil_append] at N')
  (try dsimp only)
  (try k_fold)
  k_steps
  all_goals (try k_data)
  exact hE _ _ _ _ _ _ FG' (raised_tail (by assumption)) (by assumption)
theorem lr_few {w : World} {dp un : Nat} {gd : Option (List Code)} {cn : Str} {cs : Scope} {a : Addr} {ccd : Value} {cl : List (Str × Addr)} {outer : List Env} {A₀ : Around} {base h₀ : Heap} {L : Addr} {m : Str → Option Value} {s : Shared} {Q E : Value → Shared → Prop}
    {mean : ExcName → Option Value} {mg mb : Str → Option Value} {news : List (Addr × Obj)} {ax ay : Addr} {xs ys : List Value} {cx cy : Nat}
    (B : Below A₀ base outer h₀) (F : Fr h₀ L s.heap m) (N : News h₀ L s.heap news) (T : Top Mine.vw (looseW Mine.vw [Str.ofString "_tuplegetter", Str.ofString "LinearRegression", Str.ofString "linear_regression"]) mean mg mb h₀) (hk : cs.kind = .function) (hd : dp + 5 < recursionLimit) (hu : un + 40 < cLine)
    (hx : (ax, listOf xs.toArray cx) ∈ news) (hy : (ay, listOf ys.toArray cy) ∈ news) (hxl : xs.length < 200) (hyl : ys.length < 200)
    (hlen : xs.length = ys.length) (hn : xs.length < 2) (hE : ∀ e t g' h' tk tk', Fr h₀ L g' m → RaisedS base g' (envX cn cs L a ccd cl :: outer) e (.ref 102) t [.str (Str.ofString "linear regression requires at least two data points") tk] news h' → g'.UpToSlots h' → E (.ref e) { s with heap := h', toks := tk' }) :
    (Mine.hd.heap_39 w.params).In h₀ → wpAny (model PySem.Challenge.rw_kq0023_02.row.prog w) (ktrTop dp un gd cn cs L a ccd cl outer) (call (.ref 182) [.ref ax, .ref ay] [(Str.ofString "proportional", .bool true)]) Q E s := by
  k_fill
  intro X
  refine wpAny_call ?_
  refine' code_defC ?k1 ?k2 ?k3 ?k4 ?k5 ?kA ?kF ?kK ?k6 ?k7 ?k8 ?k9 ?kB ?kD ?_ ?c2 ?c3 ?c4; (case kA => exact rfl); (case kF => exact rfl); (case kK => exact hk); (case k1 => k_asm); (case k2 => k_asm); (case k3 => k_asm); (case k4 => k_asm); (case k5 => k_asm); (case k6 => k_is); (case k7 => k_is); (case k8 => ktr_room)
  case k9 => first | exact BindsTo.of_eq rfl | exact binds_K (by k_in) rfl (by k_is) rfl rfl rfl | (refine' kp_binds ?kx ?ke; (case kx => k_in); (case ke => exact fun _ => rfl))
  case kB => exact rfl
  case kD => decide +kernel
  case c2 => exact rfl
  case c3 => exact rfl
  case c4 => exact rfl
  intro g' L' h' tk' cells' FG' F' N' Y' B' X' T' l1
  k_cells Y'
  (try simp only [List.cons_append, List.nil_append] at N')
  (try dsimp only)
  (try k_fold)
  k_steps
  all_goals (try k_data)
  exact hE _ _ _ _ _ _ FG' (raised_tail (by assumption)) (by assumption)
theorem is_lr {h₀ h : Heap} {L t dx : Addr} {v1 v2 : Value} {rest : List (Addr × Obj)} (N : News h₀ L h ((t, lrObj 173 dx v1 v2) :: rest)) : IsLR h t := ⟨_, _, _, (N _ (.head _)).1⟩
theorem news_drop3 {h₀ h : Heap} {L : Addr} {p p' a b c : Addr × Obj} {news : List (Addr × Obj)} (N : News h₀ L h (p :: p' :: a :: b :: c :: news)) : News h₀ L h (p :: p' :: news) := fun q hq => (List.mem_cons.mp hq).elim (fun e => N q (e ▸ .head _)) fun hq => (List.mem_cons.mp hq).elim (fun e => N q (e ▸ .tail _ (.head _))) fun hq => N q (.tail _ (.tail _ (.tail _ (.tail _ (.tail _ hq)))))
theorem lt_of_all {d : Addr} : ∀ {l : List (Addr × Obj)}, AllLt d l → ∀ p ∈ l, p.1 < d
  | [], _, _, hm => by cases hm
  | q :: r, h, p, hm => by
    rcases List.mem_cons.mp hm with rfl | hm
    · exact h.1
    · exact lt_of_all h.2 p hm
theorem lt4 {a b c t : Addr} {news : List (Addr × Obj)} (h : a < t ∧ b < t ∧ c < t ∧ AllLt t news) : ∀ p ∈ news, p.1 < t := lt_of_all h.2.2.2
theorem lr_t {w : World} {dp un : Nat} {gd : Option (List Code)} {cn : Str} {cs : Scope} {a : Addr} {ccd : Value} {cl : List (Str × Addr)} {outer : List Env} {A₀ : Around} {base h₀ : Heap} {L : Addr} {m : Str → Option Value} {s : Shared} {Q E : Value → Shared → Prop}
    {mean : ExcName → Option Value} {mg mb : Str → Option Value} {news : List (Addr × Obj)} {ax ay : Addr} {xs ys : List Value} {cx cy : Nat}
    (B : Below A₀ base outer h₀) (F : Fr h₀ L s.heap m) (N : News h₀ L s.heap news) (T : Top Mine.vw (looseW Mine.vw [Str.ofString "_tuplegetter", Str.ofString "LinearRegression", Str.ofString "linear_regression"]) mean mg mb h₀) (hk : cs.kind = .function) (hd : dp + 5 < recursionLimit) (hu : un + 40 < cLine)
    (hx : (ax, listOf xs.toArray cx) ∈ news) (hy : (ay, listOf ys.toArray cy) ∈ news) (hxl : xs.length < 200) (hyl : ys.length < 200)
    (hlen : xs.length = ys.length) (hn : 2 ≤ xs.length) {Sxy Sxx : Int} (hxy : SumIs xs ys Sxy) (hxx : SumIs xs xs Sxx) (hne : Sxx ≠ 0) (hQ : ∀ t dx h' tk r t1 t2, Fr h₀ L h' m → News h₀ L h' ((t, lrObj 173 dx (.float r t1) (.float 0 t2)) :: (dx, emptyDict) :: news) → (∀ p ∈ news, p.1 < dx) → dx < t → Quo r Sxy Sxx → Q (.ref t) { s with heap := h', toks := tk }) :
    (Mine.hd.heap_39 w.params).In h₀ → wpAny (model PySem.Challenge.rw_kq0023_02.row.prog w) (ktrTop dp un gd cn cs L a ccd cl outer) (call (.ref 182) [.ref ax, .ref ay] [(Str.ofString "proportional", .bool true)]) Q E s := by
  k_fill
  intro X
  refine wpAny_call ?_
  refine' code_defC ?k1 ?k2 ?k3 ?k4 ?k5 ?kA ?kF ?kK ?k6 ?k7 ?k8 ?k9 ?kB ?kD ?_ ?c2 ?c3 ?c4; (case kA => exact rfl); (case kF => exact rfl); (case kK => exact hk); (case k1 => k_asm); (case k2 => k_asm); (case k3 => k_asm); (case k4 => k_asm); (case k5 => k_asm); (case k6 => k_is); (case k7 => k_is); (case k8 => ktr_room)
  case k9 => first | exact BindsTo.of_eq rfl | exact binds_K (by k_in) rfl (by k_is) rfl rfl rfl | (refine' kp_binds ?kx ?ke; (case kx => k_in); (case ke => exact fun _ => rfl))
  case kB => exact rfl
  case kD => decide +kernel
  case c2 => exact rfl
  case c3 => exact rfl
  case c4 => exact rfl
  intro g' L' h' tk' cells' FG' F' N' Y' B' X' T' l1
  k_cells Y'
  (try simp only [List.cons_append, List.nil_append] at N')
  (try dsimp only)
  (try k_fold)
  k_steps
  all_goals (try k_data)
  · exact is_lr (by assumption)
  · refine' hQ _ _ _ _ _ _ _ ?f ?n ?l ?l2 ?r
    case l2 => assumption
    case f => assumption
    case n => exact news_drop3 (by assumption)
    case l => exact lt4 (by assumption)
    case r => assumption
local macro_rules | `(tactic| walk_at "binaryOp Div float") => `(tactic| (k_here; (refine' num_div_zero ?k1 ?k2 ?_; (case k1 => rfl); (case k2 => assumption)); intro h' tk' z' hz'))
local macro_rules | `(tactic| walk_at "noteFrame ref") => `(tactic| (k_here; (with_reducible show wpAny _ _ (noteFrame _ (envOfC _ _ _ _ _)) _ _ _); k_dflt (refine' flat_any ?K ?F ?N ?hx ?hf ?hk ?XB ?TB ?ex ?q PySem.F.excBase_ValueError ?hz ?hs ?hm ?he ?_; (case K => assumption); (case hx => assumption); (case F => assumption); (case N => k_asm); (case hf => rfl); (case hk => (show ScopeKind.function ≠ ScopeKind.module; decide)); (case XB => assumption); (case TB => assumption); (case ex => k_is); (case q => k_exc); (case hz => (intro g A s E Q F X T h; exact nameX_B F X T (by k_is) (by boot_by_name) (by decide) h)); (case hs => (intro g A s E Q F X T h; exact nameX_K F X T (by k_is) h)); (case hm => (intro A s E Q h; exact spliced_more (Calls.Constant_str (spliced_none (h _ _))))); (case he => rfl); k_whole)))
theorem lr_flat {w : World} {dp un : Nat} {gd : Option (List Code)} {cn : Str} {cs : Scope} {a : Addr} {ccd : Value} {cl : List (Str × Addr)} {outer : List Env} {A₀ : Around} {base h₀ : Heap} {L : Addr} {m : Str → Option Value} {s : Shared} {Q E : Value → Shared → Prop}
    {mean : ExcName → Option Value} {mg mb : Str → Option Value} {news : List (Addr × Obj)} {ax ay : Addr} {xs ys : List Value} {cx cy : Nat}
    (B : Below A₀ base outer h₀) (F : Fr h₀ L s.heap m) (N : News h₀ L s.heap news) (T : Top Mine.vw (looseW Mine.vw [Str.ofString "_tuplegetter", Str.ofString "LinearRegression", Str.ofString "linear_regression"]) mean mg mb h₀) (hk : cs.kind = .function) (hd : dp + 5 < recursionLimit) (hu : un + 40 < cLine)
    (hx : (ax, listOf xs.toArray cx) ∈ news) (hy : (ay, listOf ys.toArray cy) ∈ news) (hxl : xs.length < 200) (hyl : ys.length < 200)
    (XB : (Mine.hd.heap_39 w.params).In base) (TB : Top Mine.vw (looseW Mine.vw [Str.ofString "_tuplegetter", Str.ofString "LinearRegression", Str.ofString "linear_regression"]) mean mg mb base)
    (hlen : xs.length = ys.length) (hn : 2 ≤ xs.length) {Sxy : Int} (hxy : SumIs xs ys Sxy) (hxx : SumIs xs xs 0) (hE : ∀ e t g' h' tk tk', Fr h₀ L g' m → RaisedS base g' (envX cn cs L a ccd cl :: outer) e (.ref 102) t [.str (Str.ofString "x is constant") tk] news h' → g'.UpToSlots h' → E (.ref e) { s with heap := h', toks := tk' }) :
    (Mine.hd.heap_39 w.params).In h₀ → wpAny (model PySem.Challenge.rw_kq0023_02.row.prog w) (ktrTop dp un gd cn cs L a ccd cl outer) (call (.ref 182) [.ref ax, .ref ay] [(Str.ofString "proportional", .bool true)]) Q E s := by
  k_fill
  intro X
  refine wpAny_call ?_
  refine' code_defC ?k1 ?k2 ?k3 ?k4 ?k5 ?kA ?kF ?kK ?k6 ?k7 ?k8 ?k9 ?kB ?kD ?_ ?c2 ?c3 ?c4; (case kA => exact rfl); (case kF => exact rfl); (case kK => exact hk); (case k1 => k_asm); (case k2 => k_asm); (case k3 => k_asm); (case k4 => k_asm); (case k5 => k_asm); (case k6 => k_is); (case k7 => k_is); (case k8 => ktr_room)
  case k9 => first | exact BindsTo.of_eq rfl | exact binds_K (by k_in) rfl (by k_is) rfl rfl rfl | (refine' kp_binds ?kx ?ke; (case kx => k_in); (case ke => exact fun _ => rfl))
  case kB => exact rfl
  case kD => decide +kernel
  case c2 => exact rfl
  case c3 => exact rfl
  case c4 => exact rfl
  intro g' L' h' tk' cells' FG' F' N' Y' B' X' T' l1
  k_cells Y'
  (try simp only [List.cons_append, List.nil_append] at N')
  (try dsimp only)
  (try k_fold)
  k_steps
  all_goals (try k_data)
  exact hE _ _ _ _ _ _ FG' (raised_tail (by assumption)) (by assumption)
end Mine
end

section
open PySem PySem.W PySem.Calls PyProof.Rows
set_option maxRecDepth 100000
set_option maxHeartbeats 400000
namespace Mine
local macro_rules | `(tactic| walk_at "exec Try cons cons nil nil") => `(tactic| (k_here; (refine wpAny_Try_except ?_); (try dsimp only)))
local macro_rules | `(tactic| walk_at "call ref cons") => `(tactic| (k_here; k_dflt (first
  | (refine' lr_len ?B ?F ?N ?T ?hk ?hd ?hu ?hx ?hy ?hxl ?hyl ?hlen ?_ ?X; (case X => k_asm); (case B => assumption); (case F => k_asm); (case N => k_asm); (case T => assumption); (case hk => rfl); (case hd => ktr_room); (case hu => ktr_units); (case hx => k_ownIn); (case hy => k_ownIn); (case hxl => assumption); (case hyl => assumption); (case hlen => assumption); k_whole; intro e t g' h' tk tk' FG' R' U')
  | (refine' lr_few ?B ?F ?N ?T ?hk ?hd ?hu ?hx ?hy ?hxl ?hyl ?hlen ?hn ?_ ?X; (case X => k_asm); (case B => assumption); (case F => k_asm); (case N => k_asm); (case T => assumption); (case hk => rfl); (case hd => ktr_room); (case hu => ktr_units); (case hx => k_ownIn); (case hy => k_ownIn); (case hxl => assumption); (case hyl => assumption); (case hlen => assumption); (case hn => assumption); k_whole; intro e t g' h' tk tk' FG' R' U')
  | (refine' lr_flat ?B ?F ?N ?T ?hk ?hd ?hu ?hx ?hy ?hxl ?hyl ?XB ?TB ?hlen ?hn ?hxy ?hxx ?_ ?X; (case X => k_asm); (case B => assumption); (case F => k_asm); (case N => k_asm); (case T => assumption); (case hk => rfl); (case hd => ktr_room); (case hu => ktr_units); (case hx => k_ownIn); (case hy => k_ownIn); (case hxl => assumption); (case hyl => assumption); (case hlen => assumption); (case XB => assumption); (case TB => assumption); (case hn => assumption); (case hxy => assumption); (case hxx => assumption); k_whole; intro e t g' h' tk tk' FG' R' U')
  | (refine' lr_t ?B ?F ?N ?T ?hk ?hd ?hu ?hx ?hy ?hxl ?hyl ?hlen ?hn ?hxy ?hxx ?hne ?_ ?X; (case X => k_asm); (case B => assumption); (case F => k_asm); (case N => k_asm); (case T => assumption); (case hk => rfl); (case hd => ktr_room); (case hu => ktr_units); (case hx => k_ownIn); (case hy => k_ownIn); (case hxl => assumption); (case hyl => assumption); (case hlen => assumption); (case hn => assumption); (case hxy => assumption); (case hxx => assumption); (case hne => assumption); k_whole; intro t' dx' h' tk' r' t1' t2' F' N' l1 l2 q1; (try k_lt l1); (try k_lt2 l2)))))
local macro_rules | `(tactic| walk_at "call type:str") => `(tactic| (k_here; (with_reducible show wpAny _ _ (call (Value.type "str") [Value.ref _]) _ _ _); k_dflt (refine' str_got ?F ?X ?N ?G ?U ?hs ?hm ?_; (case G => assumption); (case N => assumption); (case F => k_asm); (case X => k_asm); (case hs => k_is); (case hm => k_is); (case U => ktr_units); k_whole)))
theorem line_len {w : World} {dp un : Nat} {gd : Option (List Code)} {cn : Str} {cs : Scope} {a : Addr} {ccd : Value} {A₀ : Around} {base h₀ : Heap} {L : Addr} {m : Str → Option Value} {s : Shared} {Q E : Value → Shared → Prop}
    {mean : ExcName → Option Value} {mg mb : Str → Option Value} {news : List (Addr × Obj)} {ax ay : Addr} {xs ys : List Value} {cx cy : Nat}
    (B : Below A₀ base [] h₀) (F : Fr h₀ L s.heap m) (N : News h₀ L s.heap news) (T : Top Mine.vw (looseW Mine.vw [Str.ofString "_tuplegetter", Str.ofString "LinearRegression", Str.ofString "linear_regression"]) mean mg mb h₀) (hk : cs.kind = .function) (hd : dp + 9 < recursionLimit) (hu : un + 60 < cLine)
    (hx : (ax, listOf xs.toArray cx) ∈ news) (hy : (ay, listOf ys.toArray cy) ∈ news) (hxl : xs.length < 200) (hyl : ys.length < 200)
    (XB : (Mine.hd.heap_39 w.params).In base) (TB : Top Mine.vw (looseW Mine.vw [Str.ofString "_tuplegetter", Str.ofString "LinearRegression", Str.ofString "linear_regression"]) mean mg mb base)
    (hlen : xs.length ≠ ys.length) (hQ : ∀ h' tk a c tk', Fr h₀ L h' m → News h₀ L h' ((a, listOf #[.str (Str.ofString "linear regression requires that both inputs have same number of data points") tk'] c) :: news) → Q (.ref a) { s with heap := h', toks := tk }) :
    (Mine.hd.heap_39 w.params).In h₀ → wpAny (model PySem.Challenge.rw_kq0023_02.row.prog w) (ktrTop dp un gd cn cs L a ccd [] []) (call (.ref 189) [.ref ax, .ref ay]) Q E s := by
  k_fill
  intro X
  refine wpAny_call ?_
  refine' code_defS0 ?k1 ?k2 ?k3 ?k4 ?k5 ?kA ?k6 ?k7 ?k8 ?k9 ?kB ?_ ?cK ?c2 ?c3 ?c4 ?c5; (case kA => exact rfl); (case k2 => k_asm); (case k1 => k_asm); (case k3 => k_asm); (case k4 => k_asm); (case k5 => k_asm); (case k6 => k_is); (case k7 => k_is); (case k8 => ktr_room); (case k9 => exact BindsTo.of_eq rfl); (case kB => exact locs rfl); (case cK => exact hk); (case c2 => exact rfl); (case c3 => exact rfl); (case c4 => exact rfl); (case c5 => decide)
  intro g' L' h' FG' F' N' B' X' T' D'
  (try dsimp only)
  (try k_fold)
  k_steps
  all_goals (try k_data)
  refine' hQ _ _ _ _ _ ?f ?n
  case f => assumption
  case n => assumption
theorem line_few {w : World} {dp un : Nat} {gd : Option (List Code)} {cn : Str} {cs : Scope} {a : Addr} {ccd : Value} {A₀ : Around} {base h₀ : Heap} {L : Addr} {m : Str → Option Value} {s : Shared} {Q E : Value → Shared → Prop}
    {mean : ExcName → Option Value} {mg mb : Str → Option Value} {news : List (Addr × Obj)} {ax ay : Addr} {xs ys : List Value} {cx cy : Nat}
    (B : Below A₀ base [] h₀) (F : Fr h₀ L s.heap m) (N : News h₀ L s.heap news) (T : Top Mine.vw (looseW Mine.vw [Str.ofString "_tuplegetter", Str.ofString "LinearRegression", Str.ofString "linear_regression"]) mean mg mb h₀) (hk : cs.kind = .function) (hd : dp + 9 < recursionLimit) (hu : un + 60 < cLine)
    (hx : (ax, listOf xs.toArray cx) ∈ news) (hy : (ay, listOf ys.toArray cy) ∈ news) (hxl : xs.length < 200) (hyl : ys.length < 200)
    (XB : (Mine.hd.heap_39 w.params).In base) (TB : Top Mine.vw (looseW Mine.vw [Str.ofString "_tuplegetter", Str.ofString "LinearRegression", Str.ofString "linear_regression"]) mean mg mb base)
    (hlen : xs.length = ys.length) (hn : xs.length < 2) (hQ : ∀ h' tk a c tk', Fr h₀ L h' m → News h₀ L h' ((a, listOf #[.str (Str.ofString "linear regression requires at least two data points") tk'] c) :: news) → Q (.ref a) { s with heap := h', toks := tk }) :
    (Mine.hd.heap_39 w.params).In h₀ → wpAny (model PySem.Challenge.rw_kq0023_02.row.prog w) (ktrTop dp un gd cn cs L a ccd [] []) (call (.ref 189) [.ref ax, .ref ay]) Q E s := by
  k_fill
  intro X
  refine wpAny_call ?_
  refine' code_defS0 ?k1 ?k2 ?k3 ?k4 ?k5 ?kA ?k6 ?k7 ?k8 ?k9 ?kB ?_ ?cK ?c2 ?c3 ?c4 ?c5; (case kA => exact rfl); (case k2 => k_asm); (case k1 => k_asm); (case k3 => k_asm); (case k4 => k_asm); (case k5 => k_asm); (case k6 => k_is); (case k7 => k_is); (case k8 => ktr_room); (case k9 => exact BindsTo.of_eq rfl); (case kB => exact locs rfl); (case cK => exact hk); (case c2 => exact rfl); (case c3 => exact rfl); (case c4 => exact rfl); (case c5 => decide)
  intro g' L' h' FG' F' N' B' X' T' D'
  (try dsimp only)
  (try k_fold)
  k_steps
  all_goals (try k_data)
  refine' hQ _ _ _ _ _ ?f ?n
  case f => assumption
  case n => assumption
theorem line_flat {w : World} {dp un : Nat} {gd : Option (List Code)} {cn : Str} {cs : Scope} {a : Addr} {ccd : Value} {A₀ : Around} {base h₀ : Heap} {L : Addr} {m : Str → Option Value} {s : Shared} {Q E : Value → Shared → Prop}
    {mean : ExcName → Option Value} {mg mb : Str → Option Value} {news : List (Addr × Obj)} {ax ay : Addr} {xs ys : List Value} {cx cy : Nat}
    (B : Below A₀ base [] h₀) (F : Fr h₀ L s.heap m) (N : News h₀ L s.heap news) (T : Top Mine.vw (looseW Mine.vw [Str.ofString "_tuplegetter", Str.ofString "LinearRegression", Str.ofString "linear_regression"]) mean mg mb h₀) (hk : cs.kind = .function) (hd : dp + 9 < recursionLimit) (hu : un + 60 < cLine)
    (hx : (ax, listOf xs.toArray cx) ∈ news) (hy : (ay, listOf ys.toArray cy) ∈ news) (hxl : xs.length < 200) (hyl : ys.length < 200)
    (XB : (Mine.hd.heap_39 w.params).In base) (TB : Top Mine.vw (looseW Mine.vw [Str.ofString "_tuplegetter", Str.ofString "LinearRegression", Str.ofString "linear_regression"]) mean mg mb base)
    (hlen : xs.length = ys.length) (hn : 2 ≤ xs.length) {Sxy : Int} (hxy : SumIs xs ys Sxy) (hxx : SumIs xs xs 0) (hQ : ∀ h' tk a c tk', Fr h₀ L h' m → News h₀ L h' ((a, listOf #[.str (Str.ofString "x is constant") tk'] c) :: news) → Q (.ref a) { s with heap := h', toks := tk }) :
    (Mine.hd.heap_39 w.params).In h₀ → wpAny (model PySem.Challenge.rw_kq0023_02.row.prog w) (ktrTop dp un gd cn cs L a ccd [] []) (call (.ref 189) [.ref ax, .ref ay]) Q E s := by
  k_fill
  intro X
  refine wpAny_call ?_
  refine' code_defS0 ?k1 ?k2 ?k3 ?k4 ?k5 ?kA ?k6 ?k7 ?k8 ?k9 ?kB ?_ ?cK ?c2 ?c3 ?c4 ?c5; (case kA => exact rfl); (case k2 => k_asm); (case k1 => k_asm); (case k3 => k_asm); (case k4 => k_asm); (case k5 => k_asm); (case k6 => k_is); (case k7 => k_is); (case k8 => ktr_room); (case k9 => exact BindsTo.of_eq rfl); (case kB => exact locs rfl); (case cK => exact hk); (case c2 => exact rfl); (case c3 => exact rfl); (case c4 => exact rfl); (case c5 => decide)
  intro g' L' h' FG' F' N' B' X' T' D'
  (try dsimp only)
  (try k_fold)
  k_steps
  all_goals (try k_data)
  refine' hQ _ _ _ _ _ ?f ?n
  case f => assumption
  case n => assumption
local macro_rules | `(tactic| walk_at "assign Tuple") => `(tactic| (k_here; k_dflt (refine' own_assign ?F ?N ?X ?hh ?hm ?hc ?hd ?hi ?ht ?hn ?hs ?_; (case F => k_asm); (case N => k_asm); (case X => k_asm); (case hm => k_mem); (case hh => rfl); (case hc => rfl); (case hd => rfl); (case hi => k_is); (case ht => k_is); (case hn => rfl); (case hs => rfl); k_whole); intro h' F' N'))
local macro_rules | `(tactic| walk_at "getAttr ref") => `(tactic| (k_here; (first | ((with_reducible show wpAny _ _ (getAttr (Value.ref _) (PySem.Str.ofString "slope") _) _ _ _); k_dflt (refine' get_slope ?B ?F ?N ?T ?hk ?hd ?hu ?ht ?hdx ?hv ?_ ?X; (case X => k_asm); (case B => assumption); (case F => k_asm); (case N => k_asm); (case T => assumption); (case hk => rfl); (case hd => ktr_room); (case hu => ktr_units); (case ht => k_mem); (case hdx => k_mem); (case hv => exact rfl); k_whole; intro h' tk' F' N')) | ((with_reducible show wpAny _ _ (getAttr (Value.ref _) (PySem.Str.ofString "intercept") _) _ _ _); k_dflt (refine' get_intercept ?B ?F ?N ?T ?hk ?hd ?hu ?ht ?hdx ?hv ?_ ?X; (case X => k_asm); (case B => assumption); (case F => k_asm); (case N => k_asm); (case T => assumption); (case hk => rfl); (case hd => ktr_room); (case hu => ktr_units); (case ht => k_mem); (case hdx => k_mem); (case hv => exact rfl); k_whole; intro h' tk' F' N')))))
local macro_rules | `(tactic| walk_at "compareOp Eq ref ref") => `(tactic| (k_here; k_dflt (refine' eq_same ?N ?u ?a ?b ?s ?_; (case N => k_asm); (case a => k_mem); (case b => k_mem); (case u => ktr_units); (case s => (intro v hv; simp at hv; rcases hv with rfl | rfl <;> simp)); k_whole)))
theorem news_of {h₀ h : Heap} {L : Addr} {n₁ n₂ : List (Addr × Obj)} (N : News h₀ L h n₁) (hs : ∀ q ∈ n₂, q ∈ n₁) : News h₀ L h n₂ := fun q hq => N q (hs q hq)
theorem line_ok {w : World} {dp un : Nat} {gd : Option (List Code)} {cn : Str} {cs : Scope} {a : Addr} {ccd : Value} {A₀ : Around} {base h₀ : Heap} {L : Addr} {m : Str → Option Value} {s : Shared} {Q E : Value → Shared → Prop}
    {mean : ExcName → Option Value} {mg mb : Str → Option Value} {news : List (Addr × Obj)} {ax ay : Addr} {xs ys : List Value} {cx cy : Nat}
    (B : Below A₀ base [] h₀) (F : Fr h₀ L s.heap m) (N : News h₀ L s.heap news) (T : Top Mine.vw (looseW Mine.vw [Str.ofString "_tuplegetter", Str.ofString "LinearRegression", Str.ofString "linear_regression"]) mean mg mb h₀) (hk : cs.kind = .function) (hd : dp + 9 < recursionLimit) (hu : un + 60 < cLine)
    (hx : (ax, listOf xs.toArray cx) ∈ news) (hy : (ay, listOf ys.toArray cy) ∈ news) (hxl : xs.length < 200) (hyl : ys.length < 200)
    (XB : (Mine.hd.heap_39 w.params).In base) (TB : Top Mine.vw (looseW Mine.vw [Str.ofString "_tuplegetter", Str.ofString "LinearRegression", Str.ofString "linear_regression"]) mean mg mb base)
    (hlen : xs.length = ys.length) (hn : 2 ≤ xs.length) {Sxy Sxx : Int} (hxy : SumIs xs ys Sxy) (hxx : SumIs xs xs Sxx) (hne : Sxx ≠ 0) (hQ : ∀ h' tk a c r t1 t2, Fr h₀ L h' m → News h₀ L h' ((a, listOf #[.float r t1, .float 0 t2] c) :: news) → Quo r Sxy Sxx → Q (.ref a) { s with heap := h', toks := tk }) :
    (Mine.hd.heap_39 w.params).In h₀ → wpAny (model PySem.Challenge.rw_kq0023_02.row.prog w) (ktrTop dp un gd cn cs L a ccd [] []) (call (.ref 189) [.ref ax, .ref ay]) Q E s := by
  k_fill
  intro X
  refine wpAny_call ?_
  refine' code_defS0 ?k1 ?k2 ?k3 ?k4 ?k5 ?kA ?k6 ?k7 ?k8 ?k9 ?kB ?_ ?cK ?c2 ?c3 ?c4 ?c5; (case kA => exact rfl); (case k2 => k_asm); (case k1 => k_asm); (case k3 => k_asm); (case k4 => k_asm); (case k5 => k_asm); (case k6 => k_is); (case k7 => k_is); (case k8 => ktr_room); (case k9 => exact BindsTo.of_eq rfl); (case kB => exact locs rfl); (case cK => exact hk); (case c2 => exact rfl); (case c3 => exact rfl); (case c4 => exact rfl); (case c5 => decide)
  intro g' L' h' FG' F' N' B' X' T' D'
  (try dsimp only)
  (try k_fold)
  k_steps
  all_goals (try k_data)
  refine' hQ _ _ _ _ _ _ _ ?f ?n ?q
  case f => assumption
  case q => assumption
  case n =>
    refine' news_of ?N ?s
    case N => assumption
    case s =>
      intro q hq
      rcases List.mem_cons.mp hq with rfl | hq
      · exact List.Mem.head _
      · k_ownIn
end Mine
end

section
open PySem PySem.W PySem.Calls PyProof.Rows PySem.Spec
set_option maxRecDepth 100000
set_option maxHeartbeats 1000000
namespace Mine
section
variable {prog : Program} {w : World} {A : Around} {E : Value → Shared → Prop} {s : Shared} {h₀ : Heap} {L : Addr} {m : Str → Option Value} {news : List (Addr × Obj)} {xs : List Value} {l : Addr} {c : Nat} {value slice : Expr}
theorem fits200 {xs : List Value} (h : xs.length < 200) : xs.toArray.size ≤ sizeLine := by
  have z : 200 ≤ sizeLine := by decide
  rw [List.size_toArray]; omega
theorem cut_from {k : Nat} {t : Tok} {Q : Value → Shared → Prop} (F : Fr h₀ L s.heap m) (N : News h₀ L s.heap news) (hm : (l, listOf xs.toArray c) ∈ news) (hf : xs.length < 200)
    (hs : subscripted slice false (.ref l) (.ref s.heap.objs.size) = operate [.ref s.heap.objs.size, .ref l] (getItem (.ref l) (.ref s.heap.objs.size))) (ht : ∀ r, letTemporaryGo value (.ref l) r = pure ())
    (h : ∀ a h', Fr h₀ L h' m → News h₀ L h' ((a, listOf (xs.drop k).toArray 0) :: news) → (∀ p ∈ news, p.1 < a) → Q (.ref a) { s with heap := h' }) :
    wpAny (model prog w) A (subscriptTail value slice (.ref l) (.ref s.heap.objs.size)) Q E { s with heap := s.heap.push { cls := .type "slice", data := .fields #[.int (k : Int) t, .none, .none] } } := by
  refine slice_list F N (N.isList hm) (.int _ _) .none (fun h' F' N' => h _ h' F' ?_ fun p hp => Nat.lt_succ_of_lt (Heap.lt_size (N p hp).1)) hs ht (fits200 hf)
  rw [slicePick_from' xs.toArray k] at N'
  exact N'
theorem cut_upto {k : Nat} {t : Tok} {Q : Value → Shared → Prop} (F : Fr h₀ L s.heap m) (N : News h₀ L s.heap news) (hm : (l, listOf xs.toArray c) ∈ news) (hf : xs.length < 200)
    (hs : subscripted slice false (.ref l) (.ref s.heap.objs.size) = operate [.ref s.heap.objs.size, .ref l] (getItem (.ref l) (.ref s.heap.objs.size))) (ht : ∀ r, letTemporaryGo value (.ref l) r = pure ())
    (h : ∀ a h', Fr h₀ L h' m → News h₀ L h' ((a, listOf (xs.take k).toArray 0) :: news) → (∀ p ∈ news, p.1 < a) → Q (.ref a) { s with heap := h' }) :
    wpAny (model prog w) A (subscriptTail value slice (.ref l) (.ref s.heap.objs.size)) Q E { s with heap := s.heap.push { cls := .type "slice", data := .fields #[.none, .int (k : Int) t, .none] } } := by
  refine slice_list F N (N.isList hm) .none (.int _ _) (fun h' F' N' => h _ h' F' ?_ fun p hp => Nat.lt_succ_of_lt (Heap.lt_size (N p hp).1)) hs ht (fits200 hf)
  rw [slicePick_upto' xs.toArray k] at N'
  exact N'
theorem item_at {k : Int} {t : Tok} {v : Value} {Q : Value → Shared → Prop} (N : News h₀ L s.heap news) (hm : (l, listOf xs.toArray c) ∈ news) (h0 : 0 ≤ k) (hf : k < 2 ^ 63) (hv : xs[k.toNat]? = some v)
    (hs : subscripted slice false (.ref l) (.int k t) = operate [.ref l, .int k t] (getItem (.ref l) (.int k t))) (ht : ∀ r, letTemporaryGo value (.ref l) r = pure ()) (h : Q v s) :
    wpAny (model prog w) A (subscriptTail value slice (.ref l) (.int k t)) Q E s :=
  subscriptTail_ops (Heap.IsList.typeIs (N.isList hm)) list_getitem_lookup (wpAny_getItem_list (N.isList hm) h0 hf (by simpa using hv) h) hs ht
end
end Mine
end

section
open PySem PySem.W PySem.Calls PyProof.Rows
set_option maxRecDepth 100000
namespace Mine
def fnBody : Stmt → List Stmt
  | .FunctionDef _ _ body _ _ _ _ _ _ _ => body
  | _ => []
def fnScope : Stmt → Scope
  | .FunctionDef _ _ _ _ _ _ sc _ _ _ => sc
  | _ => default
def lawFn : Stmt := PySem.Challenge.pw_kq0023_02.main.body.getLastD (.Pass default)
def lawRest (k : Nat) : List Stmt := (fnBody lawFn).drop k
def lawScope : Scope := fnScope lawFn
end Mine
end

section
open PySem PySem.W PySem.Calls PyProof.Rows PySem.Spec
set_option maxRecDepth 100000
set_option maxHeartbeats 1000000
namespace Mine
inductive RelI (R : Int → Value → Prop) : List Int → List Value → Prop
  | nil : RelI R [] []
  | cons {k : Int} {y : Value} {us : List Int} {ys : List Value} (h : R k y) (t : RelI R us ys) : RelI R (k :: us) (y :: ys)
theorem RelI.snoc {R : Int → Value → Prop} {k : Int} {y : Value} (h : R k y) : ∀ {us : List Int} {ys : List Value}, RelI R us ys → RelI R (us ++ [k]) (ys ++ [y])
  | _, _, .nil => .cons h .nil
  | _, _, .cons a t => .cons a (t.snoc h)
theorem RelI.length {R : Int → Value → Prop} : ∀ {us : List Int} {ys : List Value}, RelI R us ys → ys.length = us.length
  | _, _, .nil => rfl
  | _, _, .cons _ t => by simp [t.length]
theorem RelI.at {R : Int → Value → Prop} : ∀ {us : List Int} {ys : List Value}, RelI R us ys → ∀ (i : Nat) v, ys[i]? = some v → R (us.getD i 0) v
  | _, _, .nil, _, _, e => by simp at e
  | _, _, .cons h _, 0, v, e => by simp at e; subst e; simpa using h
  | _, _, .cons _ t, i + 1, v, e => by simpa using t.at i v (by simpa using e)
def CompEl (news : List (Addr × Obj)) (P : Value → Prop) (y : Value) (news' : List (Addr × Obj)) : Prop := news' = news ∧ P y
section
variable {prog : Program} {w : World} {A : Around} {h₀ : Heap} {L : Addr} {m : Str → Option Value} {env : Env} {elt : Expr} {x : Str} {scope : Scope} {cl : List (Str × Addr)} {s : Shared} {S : List (Addr × Obj) → Prop} {P : Nat → Value → Prop} {Fin : List Value → List (Addr × Obj) → Prop} {news : List (Addr × Obj)}
theorem comp_rel {n : Nat} {ks : List Int} (R : Int → Value → Prop) (hks : ks.length = n) (hP : ∀ i v, i < n → P i v → ∃ k t, ks[i]? = some k ∧ v = .int k t)
    (turn : ∀ k t I oI C oC D m₂ ys h tk (E' : Value → Shared → Prop), k ∈ ks → LCg.NsObj oC m₂ → m₂ x = some (.int k t) → Fr h₀ L h m → News h₀ L h ((I, oI) :: (C, oC) :: (D, LCg.lst ys) :: news) → LCg.Off3 I C D news → ((@Ne Nat I C) ∧ (@Ne Nat I D) ∧ (@Ne Nat C D)) →
      wpAny (model prog w) A (eval elt (compEnvC scope cl C env)) (LCg.CompEnd h₀ L m { s with heap := h, toks := tk } I oI C oC D (LCg.lst ys) S (fun y news' => CompEl news (R k) y news')) E' { s with heap := h, toks := tk })
    (fin : ∀ ys, RelI R ks ys → Fin ys news) : LCg.CompRest prog w A h₀ L m env elt x scope cl s S P Fin n 0 [] news := by
  suffices key : ∀ (j i : Nat) (ys : List Value), i + j = n → RelI R (ks.take i) ys → LCg.CompRest prog w A h₀ L m env elt x scope cl s S P Fin j i ys news from key n 0 [] (by omega) .nil
  intro j
  induction j with
  | zero => intro i ys hi hy; rw [List.take_of_length_le (by omega)] at hy; exact LCg.CompRest.zero (fin ys hy)
  | succ j ih =>
    intro i ys hi hy
    refine LCg.CompRest.succ fun v I oI C oC D m₂ h tk E' hv hC hx F N off ne => ?_
    obtain ⟨k, t, hk, rfl⟩ := hP i v (by omega) hv
    refine wpAny_mono (turn k t I oI C oC D m₂ ys h tk E' (List.mem_of_getElem? hk) hC hx F N off ne) (fun y s₂ hq => ?_) fun _ _ e => e
    obtain ⟨h', tk', nw, e, F', N', off', hS, rfl, hy'⟩ := hq
    refine ⟨h', tk', nw, e, F', N', off', hS, ih (i + 1) _ (by omega) ?_⟩
    rw [List.take_add_one, hk]
    exact hy.snoc hy'
theorem comp_ints {vs : List Value} {ns : List Int} (R : Int → Value → Prop) (hi : IntsAre vs ns)
    (turn : ∀ k t I oI C oC D m₂ ys h tk (E' : Value → Shared → Prop), k ∈ ns → LCg.NsObj oC m₂ → m₂ x = some (.int k t) → Fr h₀ L h m → News h₀ L h ((I, oI) :: (C, oC) :: (D, LCg.lst ys) :: news) → LCg.Off3 I C D news → ((@Ne Nat I C) ∧ (@Ne Nat I D) ∧ (@Ne Nat C D)) →
      wpAny (model prog w) A (eval elt (compEnvC scope cl C env)) (LCg.CompEnd h₀ L m { s with heap := h, toks := tk } I oI C oC D (LCg.lst ys) S (fun y news' => CompEl news (R k) y news')) E' { s with heap := h, toks := tk })
    (fin : ∀ ys, RelI R ns ys → Fin ys news) : LCg.CompRest prog w A h₀ L m env elt x scope cl s S (fun i v => vs.toArray[i]? = some v) Fin vs.toArray.size 0 [] news :=
  comp_rel R (by rw [List.size_toArray]; exact hi.length.symm) (fun i v _ hv => by
    obtain ⟨k, t, e, hk⟩ := IntsAre.at hi i v (by simpa using hv)
    exact ⟨k, t, hk, e⟩) turn fin
inductive RelV (R : Value → Value → Prop) : List Value → List Value → Prop
  | nil : RelV R [] []
  | cons {v y : Value} {us ys : List Value} (h : R v y) (t : RelV R us ys) : RelV R (v :: us) (y :: ys)
theorem RelV.snoc {R : Value → Value → Prop} {k y : Value} (h : R k y) : ∀ {us ys : List Value}, RelV R us ys → RelV R (us ++ [k]) (ys ++ [y])
  | _, _, .nil => .cons h .nil
  | _, _, .cons a t => .cons a (t.snoc h)
theorem RelV.length {R : Value → Value → Prop} : ∀ {us ys : List Value}, RelV R us ys → ys.length = us.length
  | _, _, .nil => rfl
  | _, _, .cons _ t => by simp [t.length]
theorem comp_vals {vs : List Value} (R : Value → Value → Prop)
    (turn : ∀ v I oI C oC D m₂ ys h tk (E' : Value → Shared → Prop), v ∈ vs → LCg.NsObj oC m₂ → m₂ x = some v → Fr h₀ L h m → News h₀ L h ((I, oI) :: (C, oC) :: (D, LCg.lst ys) :: news) → LCg.Off3 I C D news → ((@Ne Nat I C) ∧ (@Ne Nat I D) ∧ (@Ne Nat C D)) →
      wpAny (model prog w) A (eval elt (compEnvC scope cl C env)) (LCg.CompEnd h₀ L m { s with heap := h, toks := tk } I oI C oC D (LCg.lst ys) S (fun y news' => CompEl news (R v) y news')) E' { s with heap := h, toks := tk })
    (fin : ∀ ys, RelV R vs ys → Fin ys news) : LCg.CompRest prog w A h₀ L m env elt x scope cl s S (fun i v => vs.toArray[i]? = some v) Fin vs.toArray.size 0 [] news := by
  rw [List.size_toArray]
  suffices key : ∀ (j i : Nat) (ys : List Value), i + j = vs.length → RelV R (vs.take i) ys → LCg.CompRest prog w A h₀ L m env elt x scope cl s S (fun i v => vs.toArray[i]? = some v) Fin j i ys news from key vs.length 0 [] (by omega) .nil
  intro j
  induction j with
  | zero => intro i ys hi hy; rw [List.take_of_length_le (by omega)] at hy; exact LCg.CompRest.zero (fin ys hy)
  | succ j ih =>
    intro i ys hi hy
    refine LCg.CompRest.succ fun v I oI C oC D m₂ h tk E' hv hC hx F N off ne => ?_
    have hk : vs[i]? = some v := by simpa using hv
    refine wpAny_mono (turn v I oI C oC D m₂ ys h tk E' (List.mem_of_getElem? hk) hC hx F N off ne) (fun y s₂ hq => ?_) fun _ _ e => e
    obtain ⟨h', tk', nw, e, F', N', off', hS, rfl, hy'⟩ := hq
    refine ⟨h', tk', nw, e, F', N', off', hS, ih (i + 1) _ (by omega) ?_⟩
    rw [List.take_add_one, hk]
    exact hy.snoc hy'
theorem comp_floats {a b : UInt64} {t1 t2 : Tok} (R : Value → Prop)
    (turn : ∀ r t I oI C oC D m₂ ys h tk (E' : Value → Shared → Prop), LCg.NsObj oC m₂ → m₂ x = some (.float r t) → Fr h₀ L h m → News h₀ L h ((I, oI) :: (C, oC) :: (D, LCg.lst ys) :: news) → LCg.Off3 I C D news → ((@Ne Nat I C) ∧ (@Ne Nat I D) ∧ (@Ne Nat C D)) →
      wpAny (model prog w) A (eval elt (compEnvC scope cl C env)) (LCg.CompEnd h₀ L m { s with heap := h, toks := tk } I oI C oC D (LCg.lst ys) S (fun y news' => CompEl news R y news')) E' { s with heap := h, toks := tk })
    (hR : ∀ y, R y → y = .type "float") (fin : Fin [.type "float", .type "float"] news) : LCg.CompRest prog w A h₀ L m env elt x scope cl s S (fun i v => #[Value.float a t1, Value.float b t2][i]? = some v) Fin 2 0 [] news :=
  comp_vals (vs := [.float a t1, .float b t2]) (fun _ => R) (fun v I oI C oC D m₂ ys h tk E' hv hC hx => by
    simp at hv
    rcases hv with rfl | rfl
    · exact turn _ _ I oI C oC D m₂ ys h tk E' hC hx
    · exact turn _ _ I oI C oC D m₂ ys h tk E' hC hx) fun ys hR => by
      cases hR with
      | cons h1 t => cases t with
        | cons h2 t => cases t with
          | nil => rw [hR _ h1, hR _ h2]; exact fin
theorem compEnd_el {h₀ : Heap} {L I C D : Addr} {m : Str → Option Value} {s₁ : Shared} {oI oC oD : Obj} {S : List (Addr × Obj) → Prop} {P : Value → Prop} {y : Value} {h' : Heap} {tk : Nat} {all news : List (Addr × Obj)}
    (F : Fr h₀ L h' m) (N : News h₀ L h' all) (sub : ∀ p ∈ (I, oI) :: (C, oC) :: (D, oD) :: news, p ∈ all) (off : LCg.Off3 I C D news) (hS : S news) (r : P y) :
    LCg.CompEnd h₀ L m s₁ I oI C oC D oD S (fun y news' => CompEl news P y news') y { s₁ with heap := h', toks := tk } := LCg.CompEnd.intro F N news sub off hS ⟨rfl, r⟩
def IsFloatT (y : Value) : Prop := y = .type "float"
end
end Mine
end

section
open PySem PySem.W PySem.Calls PyProof.Rows Float64
set_option maxRecDepth 100000
namespace Mine
section
variable {prog : Program} {w : World} {A : Around} {E : Value → Shared → Prop} {s : Shared} {x : UInt64} {V : Int} {t u : Tok} {Q : Value → Shared → Prop}
theorem lt0_f (hx : Ex x V) (h : Q (.bool (decide (V < 0))) s) : wpAny (model prog w) A (compareOp .Lt (.float x t) (.int 0 u)) Q E s := by
  refine lt_fi ?_
  rw [hx.cmpInt, Int.zero_mul]
  have e : (some (compare V 0) == some Ordering.lt) = decide (V < 0) := by
    by_cases c : V < 0
    · rw [Int.compare_eq_lt.mpr c]; simp [c]
    · have : compare V 0 ≠ .lt := fun q => c (Int.compare_eq_lt.mp q)
      simp [c, this]
  rw [e]; exact h
theorem eq0_f (hx : Ex x V) (h : Q (.bool (decide (V = 0))) s) : wpAny (model prog w) A (compareOp .Eq (.float x t) (.int 0 u)) Q E s := by
  refine eq_fi ?_
  rw [hx.cmpInt, Int.zero_mul]
  have e : (some (compare V 0) == some Ordering.eq) = decide (V = 0) := by
    by_cases c : V = 0
    · rw [Int.compare_eq_eq.mpr c]; simp [c]
    · have : compare V 0 ≠ .eq := fun q => c (Int.compare_eq_eq.mp q)
      simp [c, this]
  rw [e]; exact h
theorem ne00_f (h : Q (.bool false) s) : wpAny (model prog w) A (compareOp .NotEq (.float 0 t) (.int 0 u)) Q E s := by
  refine ne_fi ?_
  rw [ex_lit0.cmpInt, Int.zero_mul]
  exact h
theorem lt0_pos (hx : Ex x V) (hV : 0 < V) (h : Q (.bool false) s) : wpAny (model prog w) A (compareOp .Lt (.float x t) (.int 0 u)) Q E s := lt0_f hx (by rw [decide_eq_false (by omega)]; exact h)
theorem eq0_pos (hx : Ex x V) (hV : 0 < V) (h : Q (.bool false) s) : wpAny (model prog w) A (compareOp .Eq (.float x t) (.int 0 u)) Q E s := eq0_f hx (by rw [decide_eq_false (by omega)]; exact h)
theorem lt0_neg (hx : Ex x V) (hV : V < 0) (h : Q (.bool true) s) : wpAny (model prog w) A (compareOp .Lt (.float x t) (.int 0 u)) Q E s := lt0_f hx (by rw [decide_eq_true hV]; exact h)
theorem lt0_zero (hx : Ex x 0) (h : Q (.bool false) s) : wpAny (model prog w) A (compareOp .Lt (.float x t) (.int 0 u)) Q E s := lt0_f hx (by rw [decide_eq_false (by omega)]; exact h)
theorem eq0_zero (hx : Ex x 0) (h : Q (.bool true) s) : wpAny (model prog w) A (compareOp .Eq (.float x t) (.int 0 u)) Q E s := eq0_f hx (by rw [decide_eq_true rfl]; exact h)
end
end Mine
end

section
open PySem PySem.W PySem.Calls PyProof.Rows PySem.Spec Float64
set_option maxRecDepth 100000
set_option maxHeartbeats 1000000
set_option exponentiation.threshold 3000
namespace Mine
theorem two_pow_of_dvd : ∀ (k a b : Nat), a * b = 2 ^ k → ∃ j, a = 2 ^ j
  | 0, a, b, h => ⟨0, by simpa using Nat.eq_one_of_mul_eq_one_right (by simpa using h)⟩
  | k + 1, a, b, h => by
    rcases Nat.mod_two_eq_zero_or_one a with ha | ha
    · have h2 : (a / 2) * b = 2 ^ k := by
        have : a = 2 * (a / 2) := by omega
        rw [this, Nat.mul_assoc, Nat.pow_succ, Nat.mul_comm (2 ^ k) 2] at h
        exact Nat.eq_of_mul_eq_mul_left (by decide) h
      obtain ⟨j, hj⟩ := two_pow_of_dvd k _ _ h2
      exact ⟨j + 1, by rw [Nat.pow_succ]; omega⟩
    · rcases Nat.mod_two_eq_zero_or_one b with hb | hb
      · have h2 : a * (b / 2) = 2 ^ k := by
          have : b = 2 * (b / 2) := by omega
          rw [this, Nat.mul_left_comm, Nat.pow_succ, Nat.mul_comm (2 ^ k) 2] at h
          exact Nat.eq_of_mul_eq_mul_left (by decide) h
        exact two_pow_of_dvd k _ _ h2
      · exfalso
        have : (a * b) % 2 = 1 := by rw [Nat.mul_mod, ha, hb]
        rw [h, Nat.pow_succ] at this
        omega
/-- the fraction that a positive double is: its bottom is a power of two -/
theorem ratio_pos {x : UInt64} {V : Int} (hx : Ex x V) (hV : 0 < V) : ∃ (a : Bool) (m : Nat) (e : Int) (p q : Nat), decode x = .fin a m e ∧ sgn a (ratio m e).1 = (p : Int) ∧ (ratio m e).2 = 2 ^ q ∧ 0 < p ∧ (p : Int) * 2 ^ 1074 = V * 2 ^ q := by
  obtain ⟨a, m, e, hd, hv⟩ := hx
  have he := decode_ge hd
  rw [val_eq hd] at hv
  have ha : a = false := by
    cases a with
    | false => rfl
    | true => unfold sgn at hv; rw [if_pos rfl] at hv; have := Int.natCast_nonneg (m * 2 ^ (e + 1074).toNat); omega
  subst ha
  have hv' : ((m * 2 ^ (e + 1074).toNat : Nat) : Int) = V := hv
  have hm : 0 < m := by
    rcases Nat.eq_zero_or_pos m with h | h
    · rw [h, Nat.zero_mul] at hv'; omega
    · exact h
  by_cases h0 : 0 ≤ e
  · refine ⟨false, m, e, m * 2 ^ e.toNat, 0, hd, ?_, ?_, Nat.mul_pos hm (Nat.pow_pos (by decide)), ?_⟩
    · simp [ratio, shift, h0, sgn]
    · simp [ratio, shift, h0]
    · have : (e + 1074).toNat = e.toNat + 1074 := by omega
      rw [this, Nat.pow_add, ← Nat.mul_assoc] at hv'
      rw [← hv', Int.pow_zero, Int.mul_one, Int.natCast_mul (m * 2 ^ e.toNat)]
      rfl
  · have hg : 0 < m.gcd (2 ^ (-e).toNat) := Nat.gcd_pos_of_pos_left _ hm
    have d1 := Nat.gcd_dvd_left m (2 ^ (-e).toNat)
    have d2 := Nat.gcd_dvd_right m (2 ^ (-e).toNat)
    obtain ⟨q, hq⟩ := two_pow_of_dvd (-e).toNat (2 ^ (-e).toNat / m.gcd (2 ^ (-e).toNat)) _ (Nat.div_mul_cancel d2)
    refine ⟨false, m, e, m / m.gcd (2 ^ (-e).toNat), q, hd, ?_, ?_, Nat.div_pos (Nat.le_of_dvd hm d1) hg, ?_⟩
    · simp [ratio, shift, h0, sgn]
    · simp [ratio, shift, h0]; exact hq
    · have key : m / m.gcd (2 ^ (-e).toNat) * 2 ^ 1074 = m * 2 ^ (e + 1074).toNat * 2 ^ q := by
        rw [← hq]
        refine Nat.eq_of_mul_eq_mul_left hg ?_
        have e1 : m.gcd (2 ^ (-e).toNat) * (m / m.gcd (2 ^ (-e).toNat)) = m := Nat.mul_div_cancel' d1
        have e2 : m.gcd (2 ^ (-e).toNat) * (2 ^ (-e).toNat / m.gcd (2 ^ (-e).toNat)) = 2 ^ (-e).toNat := Nat.mul_div_cancel' d2
        have e3 : 1074 = (e + 1074).toNat + (-e).toNat := by omega
        generalize hG : m.gcd (2 ^ (-e).toNat) = G at *
        rw [← Nat.mul_assoc, e1, Nat.mul_left_comm, e2, Nat.mul_assoc, ← Nat.pow_add, ← e3]
      rw [← hv']
      exact_mod_cast key
/-- `V / 2^1074 = p / d`, and d is a power of two -/
structure Frac (p d : Nat) (V : Int) : Prop where
  top : 0 < p
  eq : (p : Int) * 2 ^ 1074 = V * (d : Int)
  pow : ∃ q, d = 2 ^ q
section
variable {prog : Program} {w : World} {A : Around} {E : Value → Shared → Prop} {s : Shared} {h₀ : Heap} {L : Addr} {m : Str → Option Value} {news : List (Addr × Obj)} {x : UInt64} {t : Tok} {V : Int}
theorem get_ratio {M : Model} {pl : Sem Bool} {Q : Value × List Value → Shared → Prop} (h : Q (.builtin "float.as_integer_ratio", [.float x t]) s) : wpAny M A (getMethod (.float x t) "as_integer_ratio" pl) Q E s := by
  with_reducible exact getMethod_builtin (typeIs_float _ _ _) PySem.F.plainAttrs_float PySem.F.slot_float_as_integer_ratio PySem.F.type_float_as_integer_ratio (fun _ e => nomatch e) h
theorem call_ratio {Q : Value → Shared → Prop} (F : Fr h₀ L s.heap m) (N : News h₀ L s.heap news) (hx : Ex x V) (hV : 0 < V)
    (h : ∀ a h' tk t1 t2 (p d : Nat), Fr h₀ L h' m → News h₀ L h' ((a, { cls := .type "tuple", data := .seq #[.int p t1, .int d t2] }) :: news) → (∀ p ∈ news, p.1 < a) → Frac p d V → Q (.ref a) { s with heap := h', toks := tk }) :
    wpAny (model prog w) A (call (.builtin "float.as_integer_ratio") [.float x t]) Q E s := by
  obtain ⟨a, mm, e, p, q, hd, h1, h2, h3, h4⟩ := ratio_pos hx hV
  refine wpAny_call_entry PySem.F.slot_float_as_integer_ratio (typeIs_float _ _ _) PySem.F.entry_float_as_integer_ratio ?_ (PySem.F.args_float_as_integer_ratio_1 _)
  unfold Builtin.«float.as_integer_ratio»
  refine wpAny_bind (m := Builtin.Float.floatMethod0 _ _) ?_
  unfold Builtin.Float.floatMethod0
  refine wpAny_bind (m := selfOnly _ _) (wpAny_pure ?_)
  refine wpAny_bind (m := Builtin.Float.selfBits _) (wpAny_pure (wpAny_pure ?_))
  dsimp only
  rw [hd]
  dsimp only
  rw [h1, h2]
  refine wpAny_bind (wpAny_mkInt (wpAny_bind (wpAny_mkInt (wpAny_bind ?_))))
  refine newTuple_N (s := { s with toks := s.toks + 1 + 1 }) F N (fun h' F' N' => wpAny_pure ⟨_, rfl, ?_⟩) (by show 2 ≤ sizeLine; decide)
  exact h _ _ _ _ _ p (2 ^ q) F' N' (fun p hp => Heap.lt_size (N p hp).1) ⟨h3, by rw [h4]; norm_cast, q, rfl⟩
end
end Mine
end

section
open PySem PySem.W PySem.Calls PyProof.Rows PySem.Spec
set_option maxRecDepth 100000
namespace Mine
section
variable {prog : Program} {w : World} {A : Around} {E : Value → Shared → Prop} {s : Shared} {env : Env} {test : Expr} {body : List Stmt} {pos : Pos} {Q : Flow → Shared → Prop}
/-- what a turn of a while leaves: the invariant at a lesser measure -/
def TurnEnd (J : Nat → Shared → Prop) (n : Nat) (Q : Flow → Shared → Prop) (f : Flow) (s : Shared) : Prop := match f with
  | .next | .cont => ∃ m, m < n ∧ J m s
  | .brk => Q .next s
  | .ret v => Q (.ret v) s
theorem while_inv (hE : PassesOwn (model prog w) A env E) (J : Nat → Shared → Prop) (n : Nat) (h0 : J n s)
    (turn : ∀ n s, J n s → wpAny (model prog w) A (isTrue test env (eval test env)) (fun b s₂ => if b then wpAny (model prog w) A (execs body env) (TurnEnd J n Q) E s₂ else Q .next s₂) E s) :
    wpAny (model prog w) A (exec (.While test body [] pos) env) Q E s := by
  refine wpAny_While (codeAny_whileLoop J (fun n s hJ => ?_) n h0)
  refine wpAny_mono (turn n s hJ) (fun b s₂ h₂ => ?_) hE
  cases b with
  | true =>
    simp only [if_true] at h₂ ⊢
    refine wpAny_mono h₂ (fun f s₃ h₃ => ?_) hE
    cases f <;> exact h₃
  | false =>
    simp only [Bool.false_eq_true, if_false] at h₂ ⊢
    exact wpAny_execs_nil h₂
/-- `half` so far: a power of two, not yet (or just now) past the bound -/
def HalfAt (P H : Int) : Prop := ∃ j : Nat, H = 2 ^ j ∧ (j = 0 ∨ (2 ^ (j - 1) : Int) * 2 ^ 54 ≤ P)
def HalfEnd (g : Heap) (L : Addr) (m : Str → Option Value) (s : Shared) (f : Obj → List (Addr × Obj)) (P H : Int) (Q : Flow → Shared → Prop) (fl : Flow) (s' : Shared) : Prop := match fl with
  | .next | .cont => H * 2 ^ 54 ≤ P ∧ ∃ h tk o t, s' = { s with heap := h, toks := tk } ∧ Fr g L h m ∧ News g L h (f o) ∧ o.data = .cell (some (.int (H * 2) t))
  | .brk => Q .next s'
  | .ret v => Q (.ret v) s'
theorem while_half {g : Heap} {L c : Addr} {m : Str → Option Value} {o : Obj} {all : List (Addr × Obj)} {f : Obj → List (Addr × Obj)} {t : Tok} {P : Int} {cp : Addr} {op : Obj} {tp : Tok} (hE : PassesOwn (model prog w) A env E) (_hc : env.cells.lookup (Str.ofString "half") = some c) (_hcp : env.cells.lookup (Str.ofString "p") = some cp) (_hm : (cp, op) ∈ all) (_hdp : op.data = .cell (some (.int P tp)))
    (F : Fr g L s.heap m) (N : News g L s.heap all) (U : UpdF c o all f) (hd : o.data = .cell (some (.int 1 t)))
    (turn : ∀ H h tk o t, HalfAt P H → Fr g L h m → News g L h (f o) → o.data = .cell (some (.int H t)) →
      wpAny (model prog w) A (isTrue test env (eval test env)) (fun b s₂ => if b then wpAny (model prog w) A (execs body env) (HalfEnd g L m s f P H Q) E s₂ else Q .next s₂) E { s with heap := h, toks := tk }) :
    wpAny (model prog w) A (exec (.While test body [] pos) env) Q E s := by
  refine while_inv hE (fun n s' => ∃ h tk o t j, s' = { s with heap := h, toks := tk } ∧ (j = 0 ∨ (2 ^ (j - 1) : Int) * 2 ^ 54 ≤ P) ∧ Fr g L h m ∧ News g L h (f o) ∧ o.data = .cell (some (.int (2 ^ j : Int) t)) ∧ n = P.toNat + 2 - j) (P.toNat + 2) ?_ ?_
  · refine ⟨s.heap, s.toks, o, t, 0, rfl, .inl rfl, F, ?_, hd, rfl⟩
    obtain ⟨pre, post, e, hf, _, _⟩ := U.split
    rw [hf, ← e]; exact N
  · rintro n s' ⟨h, tk, o', t', j, rfl, hj, F', N', hd', rfl⟩
    refine wpAny_mono (turn (2 ^ j) h tk o' t' ⟨j, rfl, hj⟩ F' N' hd') (fun b s₂ h₂ => ?_) fun _ _ e => e
    cases b with
    | false => exact h₂
    | true =>
      simp only [if_true] at h₂ ⊢
      refine wpAny_mono h₂ (fun fl s₃ h₃ => ?_) fun _ _ e => e
      have step : ∀ {s₃ : Shared}, ((2 ^ j : Int) * 2 ^ 54 ≤ P ∧ ∃ h tk o t, s₃ = { s with heap := h, toks := tk } ∧ Fr g L h m ∧ News g L h (f o) ∧ o.data = .cell (some (.int ((2 ^ j : Int) * 2) t))) →
          ∃ k, k < P.toNat + 2 - j ∧ ∃ h tk o t j', s₃ = { s with heap := h, toks := tk } ∧ (j' = 0 ∨ (2 ^ (j' - 1) : Int) * 2 ^ 54 ≤ P) ∧ Fr g L h m ∧ News g L h (f o) ∧ o.data = .cell (some (.int (2 ^ j' : Int) t)) ∧ k = P.toNat + 2 - j' := by
        rintro s₃ ⟨hle, h₁, tk₁, o₁, t₁, rfl, F₁, N₁, hd₁⟩
        have hpow : (j : Int) < 2 ^ j := by exact_mod_cast Nat.lt_two_pow_self
        have hP : (2 ^ j : Int) ≤ P := by
          have : (0 : Int) ≤ 2 ^ j := Int.le_of_lt (Int.pow_pos (by decide))
          omega
        exact ⟨P.toNat + 2 - (j + 1), by omega, h₁, tk₁, o₁, t₁, j + 1, rfl, .inr (by simpa using hle), F₁, N₁, by rw [hd₁, Int.pow_succ], rfl⟩
      cases fl with
      | next => exact step h₃
      | cont => exact step h₃
      | brk => exact h₃
      | ret v => exact h₃
end
end Mine
end

section
open PySem PySem.W PySem.Calls PyProof.Rows PySem.Spec Float64
set_option maxRecDepth 100000
set_option maxHeartbeats 1000000
set_option exponentiation.threshold 3000
namespace Mine
theorem odd_dvd_two_pow {o N m : Nat} (ho : o % 2 = 1) (h : o ∣ N * 2 ^ m) : o ∣ N := by
  refine Nat.Coprime.dvd_of_dvd_mul_right ?_ h
  refine Nat.Coprime.pow_right m ?_
  rw [Nat.coprime_comm]
  unfold Nat.Coprime
  have hg := Nat.gcd_dvd_left 2 o
  have hg2 := Nat.gcd_dvd_right 2 o
  have : Nat.gcd 2 o ≤ 2 := Nat.le_of_dvd (by decide) hg
  have hp : 0 < Nat.gcd 2 o := Nat.gcd_pos_of_pos_left _ (by decide)
  rcases Nat.lt_or_ge (Nat.gcd 2 o) 2 with c | c
  · omega
  · have e : Nat.gcd 2 o = 2 := by omega
    rw [e] at hg2
    omega
/-- the double q * 2 ^ k nearest to W / D lies within half a place, and never at its end -/
theorem near_half {W D t k q : Nat} (hV : V t = q * 2 ^ k) (ht : t = k * 2 ^ 52 + q) (hq : q < 2 ^ 53) (hq2 : 2 ^ 52 ≤ q) (hk : 0 < k) (hD : 0 < D)
    (h : ∀ t', dist W (D * V t) ≤ dist W (D * V t')) : D * ((2 * q - 1) * 2 ^ k) ≤ 2 * W ∧ 2 * W ≤ D * ((2 * q + 1) * 2 ^ k) := by
  have up : V (t + 1) = (q + 1) * 2 ^ k := by
    rw [ht, Nat.add_assoc]
    exact V_at (by omega) (.inl (by omega))
  have lo : (q - 1) * 2 ^ k ≤ V (t - 1) := by
    rcases Nat.lt_or_ge (2 ^ 52) q with c | c
    · have e : t - 1 = k * 2 ^ 52 + (q - 1) := by omega
      rw [e, V_at (by omega) (.inl (by omega))]
      exact Nat.le_refl _
    · have e : t - 1 = (k - 1) * 2 ^ 52 + (2 ^ 53 - 1) := by
        have : k * 2 ^ 52 = (k - 1) * 2 ^ 52 + 2 ^ 52 := by
          have e1 : k = (k - 1) + 1 := by omega
          rw [e1, Nat.add_mul]; omega
        omega
      rw [e, V_at (by omega) (.inl (by omega))]
      have e2 : 2 ^ k = 2 * 2 ^ (k - 1) := by
        have e1 : k = (k - 1) + 1 := by omega
        rw [e1, Nat.pow_succ, Nat.add_sub_cancel, Nat.mul_comm]
      rw [e2, ← Nat.mul_assoc]
      exact Nat.mul_le_mul_right _ (by omega)
  have lt : V (t - 1) < V t := V_lt (by omega)
  have a := h (t + 1)
  have b := h (t - 1)
  rw [up, hV] at a
  rw [hV] at b lt
  have p1 : D * ((2 * q - 1) * 2 ^ k) ≤ D * (q * 2 ^ k) + D * V (t - 1) := by
    rw [← Nat.mul_add]
    refine Nat.mul_le_mul_left _ ?_
    have e : 2 * q - 1 = q + (q - 1) := by omega
    rw [e, Nat.add_mul]
    exact Nat.add_le_add_left lo _
  have p2 : D * ((2 * q + 1) * 2 ^ k) = D * (q * 2 ^ k) + D * ((q + 1) * 2 ^ k) := by
    rw [← Nat.mul_add, ← Nat.add_mul]
    have e : 2 * q + 1 = q + (q + 1) := by omega
    rw [e]
  have m1 : D * V (t - 1) < D * (q * 2 ^ k) := Nat.mul_lt_mul_of_pos_left lt hD
  have m2 : D * (q * 2 ^ k) < D * ((q + 1) * 2 ^ k) := Nat.mul_lt_mul_of_pos_left (Nat.mul_lt_mul_of_pos_right (by omega) (Nat.two_pow_pos k)) hD
  rw [p2]
  refine ⟨Nat.le_trans p1 ?_, ?_⟩
  · generalize D * (q * 2 ^ k) = A at *
    generalize D * V (t - 1) = B at *
    generalize D * ((q + 1) * 2 ^ k) = C at *
    unfold dist at *
    omega
  · generalize D * (q * 2 ^ k) = A at *
    generalize D * V (t - 1) = B at *
    generalize D * ((q + 1) * 2 ^ k) = C at *
    unfold dist at *
    omega
theorem no_tie {N D o k K : Nat} (hN : 0 < N) (ho : o % 2 = 1) (hbig : N < o) (h : 2 * (N * 2 ^ K) = D * (o * 2 ^ k)) : False := by
  have : o ∣ N * 2 ^ (K + 1) := ⟨D * 2 ^ k, by rw [Nat.pow_succ]; rw [← Nat.mul_assoc, Nat.mul_comm _ 2, h]; ac_rfl⟩
  exact absurd (Nat.le_of_dvd hN (odd_dvd_two_pow ho this)) (by omega)
/-- the bracket: p = 2 H q, and the half place is H -/
theorem bracket {p d q k e j K : Nat} (hq : q < 2 ^ 53) (hq2 : 2 ^ 52 ≤ q) (hp : p * 2 ^ K = q * 2 ^ k * d) (hd : d = 2 ^ e) (hj : 2 ^ (j + 53) ≤ p) (hj2 : p < 2 ^ (j + 54)) : p = 2 * 2 ^ j * q ∧ 2 ^ (j + 1) * 2 ^ K = 2 ^ k * d := by
  have e0 : q * 2 ^ k * d = q * 2 ^ (k + e) := by rw [hd, Nat.mul_assoc, ← Nat.pow_add]
  rw [e0] at hp
  have b1 : 2 ^ (j + 53 + K) < 2 ^ (53 + (k + e)) := by
    have a : 2 ^ (j + 53 + K) ≤ p * 2 ^ K := by rw [Nat.pow_add]; exact Nat.mul_le_mul_right _ hj
    rw [hp] at a
    exact Nat.lt_of_le_of_lt a (by rw [Nat.pow_add 2 53]; exact Nat.mul_lt_mul_of_pos_right hq (Nat.two_pow_pos _))
  have b2 : 2 ^ (52 + (k + e)) < 2 ^ (j + 54 + K) := by
    have a : p * 2 ^ K < 2 ^ (j + 54 + K) := by rw [Nat.pow_add 2 (j + 54)]; exact Nat.mul_lt_mul_of_pos_right hj2 (Nat.two_pow_pos _)
    rw [hp] at a
    exact Nat.lt_of_le_of_lt (by rw [Nat.pow_add 2 52]; exact Nat.mul_le_mul_right _ hq2) a
  have c1 := (Nat.pow_lt_pow_iff_right (by decide : 1 < 2)).mp b1
  have c2 := (Nat.pow_lt_pow_iff_right (by decide : 1 < 2)).mp b2
  have c : k + e = j + 1 + K := by omega
  rw [c, Nat.pow_add, ← Nat.mul_assoc] at hp
  have r := Nat.eq_of_mul_eq_mul_right (Nat.two_pow_pos K) hp
  refine ⟨by rw [r, Nat.pow_succ, Nat.mul_comm (2 ^ j) 2, Nat.mul_comm], ?_⟩
  rw [hd, ← Nat.pow_add, ← Nat.pow_add, c]
theorem sides {N D p d q k j K : Nat} (hN : 0 < N) (hN2 : N < 2 ^ 52) (hq : q < 2 ^ 53) (hq2 : 2 ^ 52 ≤ q)
    (h1 : D * ((2 * q - 1) * 2 ^ k) ≤ 2 * (N * 2 ^ K)) (h2 : 2 * (N * 2 ^ K) ≤ D * ((2 * q + 1) * 2 ^ k)) (hp : p = 2 * 2 ^ j * q) (hd : 2 ^ (j + 1) * 2 ^ K = 2 ^ k * d) :
    (p - 2 ^ j) * D < N * d ∧ N * d < (p + 2 ^ j) * D := by
  have n1 : D * ((2 * q - 1) * 2 ^ k) ≠ 2 * (N * 2 ^ K) := fun e => no_tie hN (by omega) (by omega) e.symm
  have n2 : 2 * (N * 2 ^ K) ≠ D * ((2 * q + 1) * 2 ^ k) := fun e => no_tie hN (by omega) (by omega) e
  have h1 := Nat.lt_of_le_of_ne h1 n1
  have h2 := Nat.lt_of_le_of_ne h2 n2
  have e1 : p - 2 ^ j = 2 ^ j * (2 * q - 1) := by rw [hp, Nat.mul_sub, Nat.mul_one, Nat.mul_comm 2 (2 ^ j), Nat.mul_assoc]
  have e2 : p + 2 ^ j = 2 ^ j * (2 * q + 1) := by rw [hp, Nat.mul_add, Nat.mul_one, Nat.mul_comm 2 (2 ^ j), Nat.mul_assoc]
  have key : (N * d) * 2 ^ k = 2 ^ j * (2 * (N * 2 ^ K)) := by
    have : (N * d) * 2 ^ k = N * (2 ^ k * d) := by ac_rfl
    rw [this, ← hd, Nat.pow_succ]; ac_rfl
  have pj := Nat.two_pow_pos j
  constructor
  · refine Nat.lt_of_mul_lt_mul_right (a := 2 ^ k) ?_
    rw [key, e1]
    have : 2 ^ j * (2 * q - 1) * D * 2 ^ k = 2 ^ j * (D * ((2 * q - 1) * 2 ^ k)) := by ac_rfl
    rw [this]
    exact Nat.mul_lt_mul_of_pos_left h1 pj
  · refine Nat.lt_of_mul_lt_mul_right (a := 2 ^ k) ?_
    rw [key, e2]
    have : 2 ^ j * (2 * q + 1) * D * 2 ^ k = 2 ^ j * (D * ((2 * q + 1) * 2 ^ k)) := by ac_rfl
    rw [this]
    exact Nat.mul_lt_mul_of_pos_left h2 pj
theorem near_scale {n1 d1 N D t K : Nat} (hd : 0 < d1) (e : n1 * D = N * d1) (h : ∀ t', dist (n1 * K) (d1 * V t) ≤ dist (n1 * K) (d1 * V t')) : ∀ t', dist (N * K) (D * V t) ≤ dist (N * K) (D * V t') := by
  intro t'
  have f : ∀ v, D * dist (n1 * K) (d1 * v) = d1 * dist (N * K) (D * v) := fun v => by
    rw [← dist_mul, ← dist_mul]
    congr 1
    · calc D * (n1 * K) = (n1 * D) * K := by ac_rfl
        _ = d1 * (N * K) := by rw [e]; ac_rfl
    · ac_rfl
  have := Nat.mul_le_mul_left D (h t')
  rw [f, f] at this
  exact Nat.le_of_mul_le_mul_left this hd
theorem not_small {N D t k q K : Nat} (hV : V t = q * 2 ^ k) (hq : q < 2 ^ 53) (hN : 0 < N) (hD : 0 < D) (hD2 : D < 2 ^ 53) (hK : 2 ^ 106 ≤ K)
    (h : ∀ t', dist (N * K) (D * V t) ≤ dist (N * K) (D * V t')) : 0 < k := by
  rcases Nat.eq_zero_or_pos k with rfl | hk
  · exfalso
    have e : V (1 * 2 ^ 52 + 2 ^ 52) = 2 ^ 52 * 2 ^ 1 := V_at (by decide) (.inl (Nat.le_refl _))
    have a := h (1 * 2 ^ 52 + 2 ^ 52)
    rw [e, hV, Nat.pow_zero, Nat.mul_one] at a
    have b1 : K ≤ N * K := by
      have := Nat.mul_le_mul_right K hN
      omega
    have b2 : D * q < D * (2 ^ 52 * 2 ^ 1) := Nat.mul_lt_mul_of_pos_left (by omega) hD
    generalize D * q = A at *
    generalize N * K = B at *
    unfold dist at a
    omega
  · exact hk
theorem half_core {t n1 d1 : Nat} {N D H : Int} {p d : Nat} (near0 : ∀ t', dist (n1 * 2 ^ 1074) (d1 * V t) ≤ dist (n1 * 2 ^ 1074) (d1 * V t')) (e : (n1 : Int) * D = N * (d1 : Int)) (hd' : 0 < d1) (hN : 0 < N) (hN2 : N < 2 ^ 52) (hD : 0 < D) (hD2 : D < 2 ^ 53) (hf : Frac p d (V t : Int))
    (hH : HalfAt ((p : Int) * 2 ^ 60) H) (hlt : (p : Int) * 2 ^ 60 < H * 2 ^ 54) : 0 < N * ((d : Int) * 2 ^ 60) - ((p : Int) * 2 ^ 60 - H) * D ∧ N * ((d : Int) * 2 ^ 60) - ((p : Int) * 2 ^ 60 + H) * D < 0 := by
  obtain ⟨N1, rfl⟩ := Int.eq_ofNat_of_zero_le (Int.le_of_lt hN)
  obtain ⟨D1, rfl⟩ := Int.eq_ofNat_of_zero_le (Int.le_of_lt hD)
  have e' : n1 * D1 = N1 * d1 := by exact_mod_cast e
  have near := near_scale (K := 2 ^ 1074) hd' e' near0
  obtain ⟨k, q, h1, h2, h3, h4⟩ := V_form t
  have hk := not_small h4 h2 (by omega : 0 < N1) (by omega : 0 < D1) (by omega) (Nat.pow_le_pow_right (by decide) (by decide)) near
  have hq2 : 2 ^ 52 ≤ q := by omega
  have ⟨g1, g2⟩ := near_half h4 h1 h2 hq2 hk (by omega) near
  obtain ⟨_, heq, w, hw⟩ := hf
  obtain ⟨j, rfl, hj⟩ := hH
  have hp : (p * 2 ^ 60) * 2 ^ 1074 = q * 2 ^ k * (d * 2 ^ 60) := by
    have : p * 2 ^ 1074 = q * 2 ^ k * d := by rw [← h4]; exact_mod_cast heq
    calc (p * 2 ^ 60) * 2 ^ 1074 = (p * 2 ^ 1074) * 2 ^ 60 := by rw [Nat.mul_assoc, Nat.mul_comm (2 ^ 60), ← Nat.mul_assoc]
      _ = _ := by rw [this, Nat.mul_assoc]
  have hj' : 2 ^ (j + 53) ≤ p * 2 ^ 60 ∧ p * 2 ^ 60 < 2 ^ (j + 54) := by
    have l2 : p * 2 ^ 60 < 2 ^ (j + 54) := by rw [Nat.pow_add]; exact_mod_cast hlt
    refine ⟨?_, l2⟩
    rcases hj with rfl | hj
    · exfalso
      rename_i hp0
      rw [Nat.zero_add] at l2
      have : 1 ≤ p := hp0
      omega
    · rcases Nat.eq_zero_or_pos j with rfl | hj0
      · exfalso
        rename_i hp0
        rw [Nat.zero_add] at l2
        have : 1 ≤ p := hp0
        omega
      · have e1 : j + 53 = (j - 1) + 54 := by omega
        rw [e1, Nat.pow_add]
        exact_mod_cast hj
  have ⟨b1, b2⟩ := bracket (K := 1074) (e := w + 60) h2 hq2 hp (by rw [hw, Nat.pow_add]) hj'.1 hj'.2
  have ⟨s1, s2⟩ := sides (N := N1) (D := D1) (p := p * 2 ^ 60) (d := d * 2 ^ 60) (by omega) (by omega) h2 hq2 g1 g2 b1 b2
  have hsub : 2 ^ j ≤ p * 2 ^ 60 := by
    rw [b1]
    calc 2 ^ j = 2 ^ j * 1 := (Nat.mul_one _).symm
      _ ≤ 2 * 2 ^ j * q := by rw [Nat.mul_comm 2, Nat.mul_assoc]; exact Nat.mul_le_mul_left _ (by omega)
  have t1 : ((p * 2 ^ 60 - 2 ^ j : Nat) : Int) = (p : Int) * 2 ^ 60 - 2 ^ j := by rw [Int.ofNat_sub hsub, Int.natCast_mul, Int.natCast_pow, Int.natCast_pow]; rfl
  have c1 : ((p : Int) * 2 ^ 60 - 2 ^ j) * D1 < N1 * (d * 2 ^ 60) := by rw [← t1]; exact_mod_cast s1
  have c2 : (N1 : Int) * (d * 2 ^ 60) < (p * 2 ^ 60 + 2 ^ j) * D1 := by exact_mod_cast s2
  constructor
  · generalize ((p : Int) * 2 ^ 60 - 2 ^ j) * D1 = A at *
    generalize (N1 : Int) * (d * 2 ^ 60) = B at *
    omega
  · generalize ((p : Int) * 2 ^ 60 + 2 ^ j) * D1 = A at *
    generalize (N1 : Int) * (d * 2 ^ 60) = B at *
    omega
def SidesFor (v N D : Int) : Prop := ∀ (p d : Nat) (H : Int), Frac p d v → HalfAt ((p : Int) * 2 ^ 60) H → ¬ H * 2 ^ 54 ≤ (p : Int) * 2 ^ 60 →
  0 < N * ((d : Int) * 2 ^ 60) - ((p : Int) * 2 ^ 60 - H) * D ∧ N * ((d : Int) * 2 ^ 60) - ((p : Int) * 2 ^ 60 + H) * D < 0
theorem near_pos {N D t K : Nat} (hN : 0 < N) (hD : 0 < D) (hD2 : D < 2 ^ 53) (hK : 2 ^ 106 ≤ K) (h : ∀ t', dist (N * K) (D * V t) ≤ dist (N * K) (D * V t')) : 0 < V t := by
  obtain ⟨k, q, h1, h2, h3, h4⟩ := V_form t
  have hk := not_small h4 h2 hN hD hD2 hK h
  have hq2 : 2 ^ 52 ≤ q := by omega
  rw [h4]
  exact Nat.mul_pos (by omega) (Nat.two_pow_pos k)
theorem inf_not {n1 d1 N1 D1 : Nat} (e : n1 * D1 = N1 * d1) (hd : 0 < d1) (hD : 0 < D1) (hN2 : N1 < 2 ^ 52) : ¬ d1 * ((2 ^ 54 - 1) * 2 ^ 2045) ≤ 2 * (n1 * 2 ^ 1074) := by
  intro h
  have h2 := Nat.mul_le_mul_left D1 h
  have e2 : D1 * (2 * (n1 * 2 ^ 1074)) = d1 * (2 * (N1 * 2 ^ 1074)) := by
    calc D1 * (2 * (n1 * 2 ^ 1074)) = (n1 * D1) * (2 * 2 ^ 1074) := by generalize (2 : Nat) ^ 1074 = K; ac_rfl
      _ = _ := by rw [e]; generalize (2 : Nat) ^ 1074 = K; ac_rfl
  have e3 : D1 * (d1 * ((2 ^ 54 - 1) * 2 ^ 2045)) = d1 * (D1 * ((2 ^ 54 - 1) * 2 ^ 2045)) := Nat.mul_left_comm _ _ _
  rw [e2, e3] at h2
  have h3 := Nat.le_of_mul_le_mul_left h2 hd
  have h4 : (2 ^ 54 - 1) * 2 ^ 2045 ≤ D1 * ((2 ^ 54 - 1) * 2 ^ 2045) := Nat.le_mul_of_pos_left _ hD
  have h5 : 2 * (N1 * 2 ^ 1074) ≤ 2 * (2 ^ 52 * 2 ^ 1074) := Nat.mul_le_mul_left _ (Nat.mul_le_mul_right _ (Nat.le_of_lt hN2))
  exact absurd (Nat.le_trans h4 (Nat.le_trans h3 h5)) (by decide)
theorem slope_cases {r : UInt64} {n' d' N D : Int} (hq : Quo r n' d') (e : n' * D = N * d') (hd' : 0 < d') (hD : 0 < D) (hD2 : D < 2 ^ 53) (hN2 : N.natAbs < 2 ^ 52) :
    (N = 0 ∧ Ex r 0) ∨ (0 < N ∧ ∃ v, Ex r v ∧ 0 < v ∧ SidesFor v N D) ∨ (N < 0 ∧ ∃ v, Ex r v ∧ v < 0 ∧ SidesFor (-v) (-N) D) := by
  rcases Int.lt_trichotomy N 0 with hN | hN | hN
  · right; right
    refine ⟨hN, ?_⟩
    have hn' : n' < 0 := by
      have : n' * D < 0 := by rw [e]; exact Int.mul_neg_of_neg_of_pos hN hd'
      by_cases c : n' < 0
      · exact c
      · have := Int.mul_nonneg (by omega : 0 ≤ n') (Int.le_of_lt hD); omega
    obtain ⟨d1, rfl⟩ := Int.eq_ofNat_of_zero_le (Int.le_of_lt hd')
    obtain ⟨D1, rfl⟩ := Int.eq_ofNat_of_zero_le (Int.le_of_lt hD)
    obtain ⟨n1, hn1⟩ := Int.eq_ofNat_of_zero_le (by omega : 0 ≤ -n')
    obtain ⟨N1, hN1⟩ := Int.eq_ofNat_of_zero_le (by omega : 0 ≤ -N)
    have e0 : (n1 : Int) * (D1 : Int) = (N1 : Int) * (d1 : Int) := by rw [← hn1, ← hN1, Int.neg_mul, Int.neg_mul, e]
    have e' : n1 * D1 = N1 * d1 := by exact_mod_cast e0
    have hR := hq.2.2 (by omega)
    have hneg : (decide (n' < 0) != decide ((d1 : Int) < 0)) = true := by rw [decide_eq_true hn', decide_eq_false (by omega)]; rfl
    rw [hneg, Int.natAbs_natCast, show n'.natAbs = n1 by omega] at hR
    obtain ⟨t, rfl, hle, hov, hn⟩ := hR
    have ht : t < infMag := by
      rcases Nat.lt_or_ge t infMag with c | c
      · exact c
      · exact absurd (hov.mp (by omega)) (inf_not e' (by omega) (by omega) (by omega))
    have near0 := fun t' => (hn ht t').1
    have hp := near_pos (K := 2 ^ 1074) (by omega : 0 < N1) (by omega : 0 < D1) (by omega) (Nat.pow_le_pow_right (by decide) (by decide)) (near_scale (by omega) e' near0)
    have hx := Ex.pack true ht
    refine ⟨-(V t : Int), hx.to rfl, by omega, fun p d H hf hH hlt => ?_⟩
    rw [Int.neg_neg] at hf
    rw [hN1]
    exact half_core near0 e0 (by omega) (by omega) (by omega) hD hD2 hf hH (by omega)
  · left
    refine ⟨hN, hq.2.1 ?_⟩
    rw [hN, Int.zero_mul] at e
    rcases Int.mul_eq_zero.mp e with h | h
    · exact h
    · omega
  · right; left
    refine ⟨hN, ?_⟩
    have hn' : 0 < n' := by
      have : 0 < n' * D := by rw [e]; exact Int.mul_pos hN hd'
      rcases Int.lt_trichotomy n' 0 with c | c | c
      · have := Int.mul_neg_of_neg_of_pos c hD; omega
      · rw [c, Int.zero_mul] at this; omega
      · exact c
    obtain ⟨d1, rfl⟩ := Int.eq_ofNat_of_zero_le (Int.le_of_lt hd')
    obtain ⟨D1, rfl⟩ := Int.eq_ofNat_of_zero_le (Int.le_of_lt hD)
    obtain ⟨n1, rfl⟩ := Int.eq_ofNat_of_zero_le (Int.le_of_lt hn')
    obtain ⟨N1, rfl⟩ := Int.eq_ofNat_of_zero_le (Int.le_of_lt hN)
    have e' : n1 * D1 = N1 * d1 := by exact_mod_cast e
    have hR := hq.2.2 (by omega)
    have hneg : (decide ((n1 : Int) < 0) != decide ((d1 : Int) < 0)) = false := by rw [decide_eq_false (by omega), decide_eq_false (by omega)]; rfl
    rw [hneg, Int.natAbs_natCast, Int.natAbs_natCast] at hR
    obtain ⟨t, rfl, hle, hov, hn⟩ := hR
    have ht : t < infMag := by
      rcases Nat.lt_or_ge t infMag with c | c
      · exact c
      · exact absurd (hov.mp (by omega)) (inf_not e' (by omega) (by omega) (by omega))
    have near0 := fun t' => (hn ht t').1
    have hp := near_pos (K := 2 ^ 1074) (by omega : 0 < N1) (by omega : 0 < D1) (by omega) (Nat.pow_le_pow_right (by decide) (by decide)) (near_scale (by omega) e' near0)
    have hx := Ex.pack false ht
    refine ⟨(V t : Int), hx.to rfl, by omega, fun p d H hf hH hlt => ?_⟩
    exact half_core near0 e (by omega) (by omega) (by omega) hD hD2 hf hH (by omega)
end Mine
end

section
open PySem PySem.W PySem.Calls PyProof.Rows
set_option maxRecDepth 100000
set_option maxHeartbeats 8000000
namespace Mine
local macro_rules | `(tactic| walk_at "eval ListComp") => `(tactic| (k_here; k_dflt (refine LCg.ListComp_U (F₀ := by k_asm) (by with_unfolding_all rfl) (by decide) (by rfl) (by decide) (by rfl) ?_)))
local macro_rules | `(tactic| walk_at "CompSrc") => `(tactic| (k_here; k_dflt (refine LCg.CompSrc.ledger (by rfl) (by k_asm) (by k_asm) (by k_ownIn) (by first | decide | (show 2 ≤ sizeLine; decide)) ?_; intro g'; (refine' comp_floats IsFloatT (fun r' t' I' oI' C' oC' D' m' ys' h' tk' E' hC' hx' F' N' off' ne' => ?_) (fun _ h => h) ?_); (all_goals (try (simp only [LCg.Off3, and_true] at off'))))))
local macro_rules | `(tactic| walk_at "compareOp NotEq ref ref") => `(tactic| (k_here; k_dflt (refine' ne_same (vs := [.type "float", .type "float"]) ?N ?u ?a ?b ?s ?_; (case N => k_asm); (case a => k_mem); (case b => k_mem); (case u => ktr_units); (case s => (intro v hv; simp at hv; rcases hv with rfl | rfl <;> simp)); k_whole)))
local macro_rules | `(tactic| walk_at "subscriptTail Name Constant ref int") => `(tactic| (k_here; with_unfolding_all (refine' item_at (xs := [_, _]) ?N ?m ?z ?f ?v ?hs ?ht ?_; (case N => k_asm); (case m => k_ownIn); (case z => decide); (case f => decide); (case v => exact rfl); (case hs => rfl); (case ht => (intro _; rfl)); k_whole)))
local macro_rules | `(tactic| walk_at "compareOp NotEq float int") => `(tactic| (k_here; refine ne00_f ?_))
local macro_rules | `(tactic| walk_at "compareOp Lt float int") => `(tactic| (k_here; refine lt0_pos (by assumption) (by assumption) ?_))
local macro_rules | `(tactic| walk_at "compareOp Eq float int") => `(tactic| (k_here; refine eq0_pos (by assumption) (by assumption) ?_))
local macro_rules | `(tactic| walk_at "getMethod float") => `(tactic| (k_here; refine get_ratio ?_))
local macro_rules | `(tactic| walk_at "call builtin:float.as_integer_ratio") => `(tactic| (k_here; (refine' call_ratio ?F ?N ?x ?v ?_; (case F => k_asm); (case N => k_asm); (case x => assumption); (case v => assumption)); intro a' h' tk' t1' t2' p' d' F' N' l1 fr'; (try k_lt l1)))
local macro_rules | `(tactic| walk_at "exec While") => `(tactic| (k_here; k_dflt (refine' while_half ?E ?c ?cp ?m ?dp ?F ?N ?U ?d ?_; (case E => passes_own); (case c => rfl); (case cp => rfl); (case F => k_asm); (case N => k_asm); (case m => k_mem); (case dp => assumption); (case d => assumption); (case U => k_updF)); intro j' h' tk' o' t' hj' F' N' d'; (try dsimp only at N')))
theorem below_ne {news : List (Addr × Obj)} {L c : Addr} (h : ∀ p ∈ news, p.1 < L) (hle : @LE.le Nat _ L c) : ∀ p ∈ news, p.1 ≠ c := fun p hp => Nat.ne_of_lt (Nat.lt_of_lt_of_le (h p hp) hle)
local macro_rules | `(tactic| k_all) => `(tactic| exact below_ne (by assumption) (by first | exact Nat.le_refl _ | exact Nat.le_add_right _ _ | omega))
section
variable {M : Model} {prog : Program} {w : World} {A : Around} {E : Value → Shared → Prop} {s : Shared} {h₀ : Heap} {L a c : Addr} {cn : Str} {cs : Scope} {ccd : Value} {cl : List (Str × Addr)} {news : List (Addr × Obj)} {o : Obj} {v : Value} {x : Str}
theorem load_cell {Q : Value → Shared → Prop} (N : News h₀ L s.heap news) (hc : cl.lookup x = some c) (hm : (c, o) ∈ news) (hd : o.data = .cell (some v)) (h : Q v s) (hk : cs.kind = .function) (hx : (envX cn cs L a ccd cl).kindOf x = some .cell) :
    wpAny M A (loadName (envX cn cs L a ccd cl) x) Q E s := wpAny_loadName_cell hk hx hc ⟨o, N.get hm, hd⟩ h
theorem len_at {xs : List Value} {k : Nat} {Q : Value → Shared → Prop} (N : News h₀ L s.heap news) (hm : (a, listOf xs.toArray k) ∈ news) (hf : xs.length < 200) (h : Q (.int xs.length (s.toks + 1)) { s with toks := s.toks + 1 + 1 }) :
    wpAny (model prog w) A (call (.builtin "len") [.ref a]) Q E s := by
  refine len_list (N.isList hm) (by simp; omega) ?_
  simpa using h
end
local macro_rules | `(tactic| walk_at "loadName") => `(tactic| (k_here; k_dflt (refine' load_cell ?N ?c ?m ?d ?_ ?k ?x; (case k => rfl); (case x => rfl); (case N => k_asm); (case c => rfl); (case m => k_mem); (case d => assumption); k_whole)))
local macro_rules | `(tactic| walk_at "HalfEnd") => `(tactic| exact ⟨by assumption, _, _, _, _, rfl, by assumption, by assumption, by assumption⟩)
local macro_rules | `(tactic| walk_at "call builtin:len") => `(tactic| (k_here; (with_reducible show wpAny _ _ (call (Value.builtin _) [Value.ref _]) _ _ _); (refine' len_at ?k1 ?k2 ?k3 ?_; (case k1 => k_asm); (case k2 => k_ownIn); (case k3 => omega); k_whole)))
section
variable {prog : Program} {w : World} {A : Around} {E : Value → Shared → Prop} {s : Shared} {h₀ : Heap} {L l : Addr} {news : List (Addr × Obj)} {xs : List Value} {us : List Int} {value slice : Expr} {c : Nat}
theorem item_int {k : Int} {u : Tok} {Q : Value → Shared → Prop} (N : News h₀ L s.heap news) (hm : (l, listOf xs.toArray c) ∈ news) (hi : IntsAre xs us) (h0 : 0 ≤ k) (h1 : k < us.length) (hf : us.length < 200)
    (hs : subscripted slice false (.ref l) (.int k u) = operate [.ref l, .int k u] (getItem (.ref l) (.int k u))) (hg : ∀ r, letTemporaryGo value (.ref l) r = pure ()) (h : ∀ t, Q (.int (us.getD k.toNat 0) t) s) :
    wpAny (model prog w) A (subscriptTail value slice (.ref l) (.int k u)) Q E s := item_list_ints (N.isList hm) hi h0 h1 (by omega) h hs hg
end
local macro_rules | `(tactic| walk_at "subscriptTail Name Name ref int") => `(tactic| (k_here; with_unfolding_all (refine' item_int ?N ?m ?i ?a ?b ?f ?hs ?ht ?_; (case N => k_asm); (case m => k_ownIn); (case i => assumption); (case a => omega); (case b => omega); (case f => omega); (case hs => rfl); (case ht => (intro _; rfl)); k_whole; intro t')))
/-- every one of these ints is a short factor -/
structure SmAll (us : List Int) : Prop where
  small : ∀ k ∈ us, k.natAbs < 2 ^ 40
structure Sm (n : Int) : Prop where
  bits : Builtin.Int.intBits n ≤ 64
theorem SmAll.at {us : List Int} (h : SmAll us) (i : Nat) : Builtin.Int.intBits (us.getD i 0) ≤ 64 := by
  have hb : (us.getD i 0).natAbs < 2 ^ 40 := by
    rcases Nat.lt_or_ge i us.length with c | c
    · rw [List.getD_eq_getElem?_getD, List.getElem?_eq_getElem c]; exact h.small _ (List.getElem_mem c)
    · rw [List.getD_eq_getElem?_getD, List.getElem?_eq_none c]; decide
  exact PySem.intBits_le_64 (by omega) (by omega)
section
variable {prog : Program} {w : World} {A : Around} {E : Value → Shared → Prop} {s : Shared} {x y : Int} {t u : Tok} {Q : Value → Shared → Prop}
theorem mul_l (h : Builtin.Int.intBits x ≤ 64) (hQ : Q (.int (x * y) s.toks) { s with toks := s.toks + 1 }) : wpAny (model prog w) A (binaryOp .Mult (.int x t) (.int y u)) Q E s := PyProof.Rows.mul_int hQ (IntMulOk.of_left h)
theorem mul_r (h : Builtin.Int.intBits y ≤ 64) (hQ : Q (.int (x * y) s.toks) { s with toks := s.toks + 1 }) : wpAny (model prog w) A (binaryOp .Mult (.int x t) (.int y u)) Q E s := PyProof.Rows.mul_int hQ (IntMulOk.of_right h)
end
theorem rng_small {n : Nat} (h : n < 200) : Builtin.Range.small 0 (n : Int) 1 = true := small_one (by decide) (by decide) (by omega) (by omega)
theorem rng_size (n : Nat) : Builtin.Range.rangeSize 0 (n : Int) 1 = ((n : Nat) : Int) := by rw [rangeSize_nat]; omega
theorem rng_line {n : Nat} (h : n < 200) : n ≤ sizeLine := by
  have z : 200 ≤ sizeLine := by decide
  omega
def elV (us vs : List Int) (D P pp : Int) (k : Nat) : Int := us.getD k 0 * (vs.getD k 0 * D - us.getD k 0 * P * pp)
structure SidesOk (us vs : List Int) (pp V : Int) : Prop where
  ok : ∀ (p d : Nat) (H : Int), Frac p d V → HalfAt ((p : Int) * 2 ^ 60) H → ¬ H * 2 ^ 54 ≤ (p : Int) * 2 ^ 60 →
    0 < ((List.range us.length).map (elV us vs ((d : Int) * 2 ^ 60) ((p : Int) * 2 ^ 60 - H) pp)).sum ∧ ((List.range us.length).map (elV us vs ((d : Int) * 2 ^ 60) ((p : Int) * 2 ^ 60 + H) pp)).sum < 0
structure ElOk (us vs : List Int) (D P pp : Int) (k : Int) (y : Value) : Prop where
  is : ∃ t, y = .int (elV us vs D P pp k.toNat) t
theorem elOk {us vs : List Int} {D P pp k : Int} {t : Tok} : ElOk us vs D P pp k (.int (us.getD k.toNat 0 * (vs.getD k.toNat 0 * D - us.getD k.toNat 0 * P * pp)) t) := ⟨_, rfl⟩
theorem ints_of_rel {R : Int → Value → Prop} {f : Nat → Int} (hR : ∀ k y, R k y → ∃ t, y = .int (f k.toNat) t) : ∀ {ks : List Int} {ys : List Value}, RelI R ks ys → IntsAre ys (ks.map fun k => f k.toNat)
  | _, _, .nil => .nil
  | _, _, .cons h t => by
    obtain ⟨u, rfl⟩ := hR _ _ h
    exact .cons _ _ (ints_of_rel hR t)
section
variable {prog : Program} {w : World} {A : Around} {h₀ : Heap} {L : Addr} {m : Str → Option Value} {env : Env} {elt : Expr} {x : Str} {scope : Scope} {cl : List (Str × Addr)} {s₁ : Shared} {Fin : Shared → List Value → List (Addr × Obj) → Prop} {news : List (Addr × Obj)} {us vs : List Int} {D P pp : Int} {xs : List Value} {r : Addr} {t u v : Tok}
theorem src_el (hh : A.handled = none) (F : Fr h₀ L s₁.heap m) (N : News h₀ L s₁.heap news) (hr : IsRange s₁.heap r 0 (xs.length : Int) 1 t u v) (hl : IntsAre xs us) (h2 : us.length < 200)
    (turn : ∀ (k : Int) t I oI C oC D' m₂ ys h tk (E' : Value → Shared → Prop), 0 ≤ k → k < us.length → LCg.NsObj oC m₂ → m₂ x = some (.int k t) → Fr h₀ L h m → News h₀ L h ((I, oI) :: (C, oC) :: (D', LCg.lst ys) :: news) → LCg.Off3 I C D' news → ((@Ne Nat I C) ∧ (@Ne Nat I D') ∧ (@Ne Nat C D')) →
      wpAny (model prog w) A (eval elt (compEnvC scope cl C env)) (LCg.CompEnd h₀ L m ⟨h, s₁.gens, s₁.drawn, tk, s₁.os⟩ I oI C oC D' (LCg.lst ys) (fun _ => True) (fun y news' => CompEl news (ElOk us vs D P pp k) y news')) E' ⟨h, s₁.gens, s₁.drawn, tk, s₁.os⟩)
    (fin : ∀ g ys, ys.length < 200 → IntsAre ys ((List.range us.length).map (elV us vs D P pp)) → Fin ⟨g, s₁.gens, s₁.drawn, s₁.toks, s₁.os⟩ ys news) :
    LCg.CompSrc prog w A h₀ L m env elt x scope cl Fin (.ref r) s₁ := by
  have e : xs.length = us.length := IntsAre.length hl
  rw [e] at hr
  refine LCg.CompSrc.range hh F N hr (rng_small h2) (rng_size _) (rng_line h2) fun g => ?_
  refine comp_rel (ks := (List.range us.length).map fun i => ((i : Nat) : Int)) (ElOk us vs D P pp) (by simp) (fun i v hi hv => ?_) (fun k t I oI C oC D' m₂ ys h tk E' hk => ?_) fun ys hR => ?_
  · obtain ⟨t, rfl⟩ := hv
    exact ⟨(i : Int), t, by simp [hi], by simp⟩
  · obtain ⟨i, hi, rfl⟩ := List.mem_map.mp hk
    exact turn _ t I oI C oC D' m₂ ys h tk E' (by omega) (by have := List.mem_range.mp hi; omega)
  · have q := ints_of_rel (f := elV us vs D P pp) (fun k y h => h.is) hR
    rw [List.map_map] at q
    exact fin g ys (by rw [RelI.length hR]; simpa using h2) (by simpa [Function.comp_def] using q)

variable {e1 e2 e3 e4 e5 e6 : Expr} {q1 q2 q3 q4 q5 : Pos} {p d : Nat} {V H : Int}
theorem src_under (fr : Frac p d V) (hj : HalfAt ((p : Int) * 2 ^ 60) H) (hx : ¬ H * 2 ^ 54 ≤ (p : Int) * 2 ^ 60) (hs : SidesOk us vs pp V) (hh : A.handled = none) (F : Fr h₀ L s₁.heap m) (N : News h₀ L s₁.heap news) (hr : IsRange s₁.heap r 0 (xs.length : Int) 1 t u v) (hl : IntsAre xs us) (h2 : us.length < 200)
    (turn : ∀ (k : Int) t I oI C oC D' m₂ ys h tk (E' : Value → Shared → Prop), 0 ≤ k → k < us.length → LCg.NsObj oC m₂ → m₂ x = some (.int k t) → Fr h₀ L h m → News h₀ L h ((I, oI) :: (C, oC) :: (D', LCg.lst ys) :: news) → LCg.Off3 I C D' news → ((@Ne Nat I C) ∧ (@Ne Nat I D') ∧ (@Ne Nat C D')) →
      wpAny (model prog w) A (eval (.BinOp e1 .Mult (.BinOp e2 .Sub (.BinOp (.BinOp e3 .Mult (.BinOp e4 .Sub e5 q1) q2) .Mult e6 q3) q4) q5) (compEnvC scope cl C env)) (LCg.CompEnd h₀ L m ⟨h, s₁.gens, s₁.drawn, tk, s₁.os⟩ I oI C oC D' (LCg.lst ys) (fun _ => True) (fun y news' => CompEl news (ElOk us vs ((d : Int) * 2 ^ 60) ((p : Int) * 2 ^ 60 - H) pp k) y news')) E' ⟨h, s₁.gens, s₁.drawn, tk, s₁.os⟩)
    (fin : ∀ g ys, ys.length < 200 → IntsAre ys ((List.range us.length).map (elV us vs ((d : Int) * 2 ^ 60) ((p : Int) * 2 ^ 60 - H) pp)) → 0 < ((List.range us.length).map (elV us vs ((d : Int) * 2 ^ 60) ((p : Int) * 2 ^ 60 - H) pp)).sum → Fin ⟨g, s₁.gens, s₁.drawn, s₁.toks, s₁.os⟩ ys news) :
    LCg.CompSrc prog w A h₀ L m env (.BinOp e1 .Mult (.BinOp e2 .Sub (.BinOp (.BinOp e3 .Mult (.BinOp e4 .Sub e5 q1) q2) .Mult e6 q3) q4) q5) x scope cl Fin (.ref r) s₁ :=
  src_el hh F N hr hl h2 turn fun g ys hy hi => fin g ys hy hi (hs.ok p d H fr hj hx).1
theorem src_over (fr : Frac p d V) (hj : HalfAt ((p : Int) * 2 ^ 60) H) (hx : ¬ H * 2 ^ 54 ≤ (p : Int) * 2 ^ 60) (hs : SidesOk us vs pp V) (hh : A.handled = none) (F : Fr h₀ L s₁.heap m) (N : News h₀ L s₁.heap news) (hr : IsRange s₁.heap r 0 (xs.length : Int) 1 t u v) (hl : IntsAre xs us) (h2 : us.length < 200)
    (turn : ∀ (k : Int) t I oI C oC D' m₂ ys h tk (E' : Value → Shared → Prop), 0 ≤ k → k < us.length → LCg.NsObj oC m₂ → m₂ x = some (.int k t) → Fr h₀ L h m → News h₀ L h ((I, oI) :: (C, oC) :: (D', LCg.lst ys) :: news) → LCg.Off3 I C D' news → ((@Ne Nat I C) ∧ (@Ne Nat I D') ∧ (@Ne Nat C D')) →
      wpAny (model prog w) A (eval (.BinOp e1 .Mult (.BinOp e2 .Sub (.BinOp (.BinOp e3 .Mult (.BinOp e4 .Add e5 q1) q2) .Mult e6 q3) q4) q5) (compEnvC scope cl C env)) (LCg.CompEnd h₀ L m ⟨h, s₁.gens, s₁.drawn, tk, s₁.os⟩ I oI C oC D' (LCg.lst ys) (fun _ => True) (fun y news' => CompEl news (ElOk us vs ((d : Int) * 2 ^ 60) ((p : Int) * 2 ^ 60 + H) pp k) y news')) E' ⟨h, s₁.gens, s₁.drawn, tk, s₁.os⟩)
    (fin : ∀ g ys, ys.length < 200 → IntsAre ys ((List.range us.length).map (elV us vs ((d : Int) * 2 ^ 60) ((p : Int) * 2 ^ 60 + H) pp)) → ((List.range us.length).map (elV us vs ((d : Int) * 2 ^ 60) ((p : Int) * 2 ^ 60 + H) pp)).sum < 0 → Fin ⟨g, s₁.gens, s₁.drawn, s₁.toks, s₁.os⟩ ys news) :
    LCg.CompSrc prog w A h₀ L m env (.BinOp e1 .Mult (.BinOp e2 .Sub (.BinOp (.BinOp e3 .Mult (.BinOp e4 .Add e5 q1) q2) .Mult e6 q3) q4) q5) x scope cl Fin (.ref r) s₁ :=
  src_el hh F N hr hl h2 turn fun g ys hy hi => fin g ys hy hi (hs.ok p d H fr hj hx).2
end
local macro_rules | `(tactic| walk_at "binaryOp Mult int int") => `(tactic| (k_here; first | (refine mul_l (SmAll.at (by assumption) _) ?_) | (refine mul_r (Sm.bits (by assumption)) ?_)))
local macro_rules | `(tactic| walk_at "CompSrc") => `(tactic| (k_here; k_dflt (first
  | (refine' src_under ?fr ?hj ?hx ?hs ?hh ?F ?N ?hr ?hl ?h2 (fun k' t' I' oI' C' oC' D' m' ys' h' tk' E' hlo' hhi' hC' hx' F' N' off' ne' => ?_) (fun g' ys' hl' hI' hS' => ?_); (case fr => assumption); (case hj => assumption); (case hx => assumption); (case hs => assumption); (case hh => rfl); (case F => k_asm); (case N => k_asm); (case hr => assumption); (case hl => assumption); (case h2 => omega); (all_goals (try (simp only [LCg.Off3, and_true] at off'))))
  | (refine' src_over ?fr ?hj ?hx ?hs ?hh ?F ?N ?hr ?hl ?h2 (fun k' t' I' oI' C' oC' D' m' ys' h' tk' E' hlo' hhi' hC' hx' F' N' off' ne' => ?_) (fun g' ys' hl' hI' hS' => ?_); (case fr => assumption); (case hj => assumption); (case hx => assumption); (case hs => assumption); (case hh => rfl); (case F => k_asm); (case N => k_asm); (case hr => assumption); (case hl => assumption); (case h2 => omega); (all_goals (try (simp only [LCg.Off3, and_true] at off')))))))
section
variable {prog : Program} {w : World} {A : Around} {E : Value → Shared → Prop} {s : Shared} {h₀ : Heap} {L a : Addr} {m : Str → Option Value} {news : List (Addr × Obj)} {ys : List Value} {ks : List Int}
theorem sum_made {Q : Value → Shared → Prop} (hh : A.handled = none) (F : Fr h₀ L s.heap m) (N : News h₀ L s.heap news) (hm : (a, LCg.lst ys) ∈ news) (hi : IntsAre ys ks)
    (h : ∀ h' tk t', Fr h₀ L h' m → News h₀ L h' news → Q (.int ks.sum t') { s with heap := h', toks := tk }) : wpAny (model prog w) A (call (.builtin "sum") [.ref a]) Q E s :=
  sumK hh F N ⟨_, (N _ hm).1, rfl, _, rfl⟩ hi h
end
local macro_rules | `(tactic| walk_at "call builtin:sum") => `(tactic| (k_here; (refine' sum_made ?h ?F ?N ?m ?i ?_; (case h => rfl); (case F => k_asm); (case N => k_asm); (case m => k_mem); (case i => assumption)); intro h' tk' t' F' N'))
local macro_rules | `(tactic| walk_at "CompEnd") => `(tactic| (refine' compEnd_el ?F ?N ?sub ?off ?S ?r; (case r => first | exact ElOk.mk ⟨_, rfl⟩ | exact (rfl : _ = _) | assumption); (case F => assumption); (case N => assumption); (case sub => kcf_all); (case off => first | assumption | (simp only [LCg.Off3, and_true]; done) | (simp only [LCg.Off3, and_true]; assumption)); (case S => first | exact trivial | lcg_src | assumption | exact Or.inr ⟨_, by k_ownIn, rfl, _, rfl⟩)))
theorem fin_true {Q : Value → Shared → Prop} {b : Prop} [Decidable b] {s : Shared} (hb : b) (h : Q (.bool true) s) : Q (.bool (decide b)) s := by rw [decide_eq_true hb]; exact h
theorem news_sub {h₀ h : Heap} {L : Addr} {n₁ n₂ : List (Addr × Obj)} (N : News h₀ L h n₁) (hs : ∀ q ∈ n₂, q ∈ n₁) : News h₀ L h n₂ := fun q hq => N q (hs q hq)
theorem is_line_pos {w : World} {dp un : Nat} {gd : Option (List Code)} {cn : Str} {cs : Scope} {a : Addr} {ccd : Value} {cl : List (Str × Addr)} {outer : List Env} {A₀ : Around} {base h₀ : Heap} {L : Addr} {m : Str → Option Value} {s : Shared} {Q E : Value → Shared → Prop}
    {mean : ExcName → Option Value} {mg mb : Str → Option Value} {news : List (Addr × Obj)} {ato ax ay : Addr} {xs ys : List Value} {us vs : List Int} {n ct cx cy : Nat} {r : UInt64} {t1 t2 tp : Tok} {p : Int}
    (B : Below A₀ base outer h₀) (F : Fr h₀ L s.heap m) (N : News h₀ L s.heap news) (T : Top Mine.vw (looseW Mine.vw [Str.ofString "_tuplegetter", Str.ofString "LinearRegression", Str.ofString "linear_regression"]) mean mg mb h₀) (hk : cs.kind = .function) (hd : dp + 5 < recursionLimit) (hu : un + 40 < cLine)
    (ht : (ato, listOf #[.float r t1, .float 0 t2] ct) ∈ news) (hx : (ax, listOf xs.toArray cx) ∈ news) (hy : (ay, listOf ys.toArray cy) ∈ news) (hix : IntsAre xs us) (hiy : IntsAre ys vs) (hlx : xs.length = n) (hly : ys.length = n) (hlu : us.length = n) (hlv : vs.length = n) (h22 : n ≤ 22) {V : Int} (hEx : Ex r V) (hV : 0 < V) (hS : SidesOk us vs p V) (hsx : SmAll us) (hsy : SmAll vs) (hsp : Sm p)
    (h : ∀ h' tk, Fr h₀ L h' m → News h₀ L h' news → Q (.bool true) { s with heap := h', toks := tk }) :
    (Mine.hd.heap_39 w.params).In h₀ → wpAny (model PySem.Challenge.rw_kq0023_02.row.prog w) (ktrTop dp un gd cn cs L a ccd cl outer) (call (.ref 194) [.ref ato, .ref ax, .ref ay, .int p tp]) Q E s := by
  k_fill
  intro X
  refine wpAny_call ?_
  refine' code_defC ?k1 ?k2 ?k3 ?k4 ?k5 ?kA ?kF ?kK ?k6 ?k7 ?k8 ?k9 ?kB ?kD ?_ ?c2 ?c3 ?c4; (case kA => exact rfl); (case kF => exact rfl); (case kK => exact hk); (case k1 => k_asm); (case k2 => k_asm); (case k3 => k_asm); (case k4 => k_asm); (case k5 => k_asm); (case k6 => k_is); (case k7 => k_is); (case k8 => ktr_room); (case k9 => first | exact BindsTo.of_eq rfl | exact binds_K (by k_in) rfl (by k_is) rfl rfl rfl); (case kB => exact rfl); (case kD => decide +kernel); (case c2 => exact rfl); (case c3 => exact rfl); (case c4 => exact rfl)
  intro g' L' h' tk' cells' FG' F' N' Y' B' X' T' l1
  (try k_lt l1)
  k_cells Y'
  (try simp only [List.cons_append, List.nil_append] at N')
  (try dsimp only)
  (try k_fold)
  k_steps
  all_goals (try k_data)
  refine fin_true (by assumption) (h _ _ ?f ?n)
  case f => assumption
  case n =>
    refine' news_sub ?N ?s
    case N => assumption
    case s => intro q hq; k_ownIn
end Mine
end

section
open PySem PySem.W PySem.Calls PyProof.Rows
set_option maxRecDepth 100000
set_option maxHeartbeats 8000000
namespace Mine
structure NegOk (k : Int) (y : Value) : Prop where
  is : ∃ t, y = .int (-k) t
theorem neg_of_rel : ∀ {ks : List Int} {ys : List Value}, RelI NegOk ks ys → IntsAre ys (ks.map fun k => -k)
  | _, _, .nil => .nil
  | _, _, .cons h t => by
    obtain ⟨u, rfl⟩ := h.is
    exact .cons _ _ (neg_of_rel t)
section
variable {prog : Program} {w : World} {A : Around} {h₀ : Heap} {L : Addr} {m : Str → Option Value} {env : Env} {x : Str} {scope : Scope} {cl : List (Str × Addr)} {s₁ : Shared} {Fin : Shared → List Value → List (Addr × Obj) → Prop} {news : List (Addr × Obj)} {vs : List Int} {ys : List Value} {ay : Addr} {c : Nat} {e1 : Expr} {q1 : Pos}
theorem src_neg (hh : A.handled = none) (F : Fr h₀ L s₁.heap m) (N : News h₀ L s₁.heap news) (hm : (ay, listOf ys.toArray c) ∈ news) (hl : IntsAre ys vs) (h2 : vs.length < 200)
    (turn : ∀ (k : Int) t I oI C oC D' m₂ zs h tk (E' : Value → Shared → Prop), LCg.NsObj oC m₂ → m₂ x = some (.int k t) → Fr h₀ L h m → News h₀ L h ((I, oI) :: (C, oC) :: (D', LCg.lst zs) :: news) → LCg.Off3 I C D' news → ((@Ne Nat I C) ∧ (@Ne Nat I D') ∧ (@Ne Nat C D')) →
      wpAny (model prog w) A (eval (.UnaryOp .USub e1 q1) (compEnvC scope cl C env)) (LCg.CompEnd h₀ L m ⟨h, s₁.gens, s₁.drawn, tk, s₁.os⟩ I oI C oC D' (LCg.lst zs) (LCg.SrcAt h₀ ay ys.toArray) (fun y news' => CompEl news (NegOk k) y news')) E' ⟨h, s₁.gens, s₁.drawn, tk, s₁.os⟩)
    (fin : ∀ g zs, zs.length = vs.length → IntsAre zs (vs.map fun b => -b) → Fin ⟨g, s₁.gens, s₁.drawn, s₁.toks, s₁.os⟩ zs news) :
    LCg.CompSrc prog w A h₀ L m env (.UnaryOp .USub e1 q1) x scope cl Fin (.ref ay) s₁ := by
  have e : ys.length = vs.length := IntsAre.length hl
  refine LCg.CompSrc.ledger hh F N hm (by rw [List.size_toArray, e]; exact rng_line h2) fun g => ?_
  refine comp_ints NegOk hl (fun k t I oI C oC D' m₂ zs h tk E' hk => turn k t I oI C oC D' m₂ zs h tk E') fun zs hR => ?_
  exact fin g zs (RelI.length hR) (neg_of_rel hR)
end
section
variable {prog : Program} {w : World} {A : Around} {E : Value → Shared → Prop} {s : Shared} {r : UInt64} {t : Tok} {V : Int}
theorem neg_ex {Q : Value → Shared → Prop} (hx : Ex r V) (h : Ex (Float64.neg r) (-V) → 0 < 1 → Q (.float (Float64.neg r) s.toks) { s with toks := s.toks + 1 }) : wpAny (model prog w) A (unaryOp .USub (.float r t)) Q E s :=
  neg_float (h hx.neg (by decide))
end
local macro_rules | `(tactic| walk_at "eval ListComp") => `(tactic| (k_here; k_dflt (refine LCg.ListComp_U (F₀ := by k_asm) (by with_unfolding_all rfl) (by decide) (by rfl) (by decide) (by rfl) ?_)))
local macro_rules | `(tactic| walk_at "CompSrc") => `(tactic| (k_here; k_dflt (refine LCg.CompSrc.ledger (by rfl) (by k_asm) (by k_asm) (by k_ownIn) (by first | decide | (show 2 ≤ sizeLine; decide)) ?_; intro g'; (refine' comp_floats IsFloatT (fun r' t' I' oI' C' oC' D' m' ys' h' tk' E' hC' hx' F' N' off' ne' => ?_) (fun _ h => h) ?_); (all_goals (try (simp only [LCg.Off3, and_true] at off'))))))
local macro_rules | `(tactic| walk_at "compareOp NotEq ref ref") => `(tactic| (k_here; k_dflt (refine' ne_same (vs := [.type "float", .type "float"]) ?N ?u ?a ?b ?s ?_; (case N => k_asm); (case a => k_mem); (case b => k_mem); (case u => ktr_units); (case s => (intro v hv; simp at hv; rcases hv with rfl | rfl <;> simp)); k_whole)))
local macro_rules | `(tactic| walk_at "subscriptTail Name Constant ref int") => `(tactic| (k_here; with_unfolding_all (refine' item_at (xs := [_, _]) ?N ?m ?z ?f ?v ?hs ?ht ?_; (case N => k_asm); (case m => k_ownIn); (case z => decide); (case f => decide); (case v => exact rfl); (case hs => rfl); (case ht => (intro _; rfl)); k_whole)))
local macro_rules | `(tactic| walk_at "compareOp NotEq float int") => `(tactic| (k_here; refine ne00_f ?_))
local macro_rules | `(tactic| walk_at "compareOp Lt float int") => `(tactic| (k_here; refine lt0_pos (by assumption) (by assumption) ?_))
local macro_rules | `(tactic| walk_at "compareOp Eq float int") => `(tactic| (k_here; refine eq0_pos (by assumption) (by assumption) ?_))
local macro_rules | `(tactic| walk_at "getMethod float") => `(tactic| (k_here; refine get_ratio ?_))
local macro_rules | `(tactic| walk_at "call builtin:float.as_integer_ratio") => `(tactic| (k_here; (refine' call_ratio ?F ?N ?x ?v ?_; (case F => k_asm); (case N => k_asm); (case x => assumption); (case v => assumption)); intro a' h' tk' t1' t2' p' d' F' N' l1 fr'; (try k_lt l1)))
local macro_rules | `(tactic| walk_at "exec While") => `(tactic| (k_here; k_dflt (refine' while_half ?E ?c ?cp ?m ?dp ?F ?N ?U ?d ?_; (case E => passes_own); (case c => rfl); (case cp => rfl); (case F => k_asm); (case N => k_asm); (case m => k_mem); (case dp => assumption); (case d => assumption); (case U => k_updF)); intro j' h' tk' o' t' hj' F' N' d'; (try dsimp only at N')))
local macro_rules | `(tactic| k_all) => `(tactic| exact below_ne (by assumption) (by first | exact Nat.le_refl _ | exact Nat.le_add_right _ _ | omega))
local macro_rules | `(tactic| walk_at "loadName") => `(tactic| (k_here; k_dflt (refine' load_cell ?N ?c ?m ?d ?_ ?k ?x; (case k => rfl); (case x => rfl); (case N => k_asm); (case c => rfl); (case m => k_mem); (case d => assumption); k_whole)))
local macro_rules | `(tactic| walk_at "HalfEnd") => `(tactic| exact ⟨by assumption, _, _, _, _, rfl, by assumption, by assumption, by assumption⟩)
local macro_rules | `(tactic| walk_at "call builtin:len") => `(tactic| (k_here; (with_reducible show wpAny _ _ (call (Value.builtin _) [Value.ref _]) _ _ _); (refine' len_at ?k1 ?k2 ?k3 ?_; (case k1 => k_asm); (case k2 => k_ownIn); (case k3 => omega); k_whole)))
local macro_rules | `(tactic| walk_at "subscriptTail Name Name ref int") => `(tactic| (k_here; with_unfolding_all (refine' item_int ?N ?m ?i ?a ?b ?f ?hs ?ht ?_; (case N => k_asm); (case m => k_ownIn); (case i => assumption); (case a => omega); (case b => omega); (case f => omega); (case hs => rfl); (case ht => (intro _; rfl)); k_whole; intro t')))
local macro_rules | `(tactic| walk_at "binaryOp Mult int int") => `(tactic| (k_here; first | (refine mul_l (SmAll.at (by assumption) _) ?_) | (refine mul_r (Sm.bits (by assumption)) ?_)))
local macro_rules | `(tactic| walk_at "CompSrc") => `(tactic| (k_here; k_dflt (first
  | (refine' src_under ?fr ?hj ?hx ?hs ?hh ?F ?N ?hr ?hl ?h2 (fun k' t' I' oI' C' oC' D' m' ys' h' tk' E' hlo' hhi' hC' hx' F' N' off' ne' => ?_) (fun g' ys' hl' hI' hS' => ?_); (case fr => assumption); (case hj => assumption); (case hx => assumption); (case hs => assumption); (case hh => rfl); (case F => k_asm); (case N => k_asm); (case hr => assumption); (case hl => assumption); (case h2 => omega); (all_goals (try (simp only [LCg.Off3, and_true] at off'))))
  | (refine' src_over ?fr ?hj ?hx ?hs ?hh ?F ?N ?hr ?hl ?h2 (fun k' t' I' oI' C' oC' D' m' ys' h' tk' E' hlo' hhi' hC' hx' F' N' off' ne' => ?_) (fun g' ys' hl' hI' hS' => ?_); (case fr => assumption); (case hj => assumption); (case hx => assumption); (case hs => assumption); (case hh => rfl); (case F => k_asm); (case N => k_asm); (case hr => assumption); (case hl => assumption); (case h2 => omega); (all_goals (try (simp only [LCg.Off3, and_true] at off')))))))
local macro_rules | `(tactic| walk_at "call builtin:sum") => `(tactic| (k_here; (refine' sum_made ?h ?F ?N ?m ?i ?_; (case h => rfl); (case F => k_asm); (case N => k_asm); (case m => k_mem); (case i => assumption)); intro h' tk' t' F' N'))
local macro_rules | `(tactic| walk_at "CompEnd") => `(tactic| (refine' compEnd_el ?F ?N ?sub ?off ?S ?r; (case r => first | exact NegOk.mk ⟨_, rfl⟩ | exact ElOk.mk ⟨_, rfl⟩ | exact (rfl : _ = _) | assumption); (case F => assumption); (case N => assumption); (case sub => kcf_all); (case off => first | assumption | (simp only [LCg.Off3, and_true]; done) | (simp only [LCg.Off3, and_true]; assumption)); (case S => first | exact trivial | lcg_src | assumption | exact Or.inr ⟨_, by k_ownIn, rfl, _, rfl⟩)))
local macro_rules | `(tactic| walk_at "compareOp Lt float int") => `(tactic| (k_here; refine lt0_neg (by assumption) (by assumption) ?_))
local macro_rules | `(tactic| walk_at "unaryOp USub float") => `(tactic| (k_here; (refine neg_ex (by assumption) ?_); intro q' o'))
local macro_rules | `(tactic| walk_at "CompSrc") => `(tactic| (k_here; k_dflt (
  (refine' src_neg ?hh ?F ?N ?hm ?hl ?h2 (fun k' t' I' oI' C' oC' D' m' ys' h' tk' E' hC' hx' F' N' off' ne' => ?_) (fun g' ys' hl' hI' => ?_); (case hh => rfl); (case F => k_asm); (case N => k_asm); (case hm => k_ownIn); (case hl => assumption); (case h2 => omega); (all_goals (try (simp only [LCg.Off3, and_true] at off')))))))
theorem is_line_neg {w : World} {dp un : Nat} {gd : Option (List Code)} {cn : Str} {cs : Scope} {a : Addr} {ccd : Value} {cl : List (Str × Addr)} {outer : List Env} {A₀ : Around} {base h₀ : Heap} {L : Addr} {m : Str → Option Value} {s : Shared} {Q E : Value → Shared → Prop}
    {mean : ExcName → Option Value} {mg mb : Str → Option Value} {news : List (Addr × Obj)} {ato ax ay : Addr} {xs ys : List Value} {us vs : List Int} {n ct cx cy : Nat} {r : UInt64} {t1 t2 tp : Tok} {p : Int}
    (B : Below A₀ base outer h₀) (F : Fr h₀ L s.heap m) (N : News h₀ L s.heap news) (T : Top Mine.vw (looseW Mine.vw [Str.ofString "_tuplegetter", Str.ofString "LinearRegression", Str.ofString "linear_regression"]) mean mg mb h₀) (hk : cs.kind = .function) (hd : dp + 5 < recursionLimit) (hu : un + 40 < cLine)
    (ht : (ato, listOf #[.float r t1, .float 0 t2] ct) ∈ news) (hx : (ax, listOf xs.toArray cx) ∈ news) (hy : (ay, listOf ys.toArray cy) ∈ news) (hix : IntsAre xs us) (hiy : IntsAre ys vs) (hlx : xs.length = n) (hly : ys.length = n) (hlu : us.length = n) (hlv : vs.length = n) (h22 : n ≤ 22) {V : Int} (hEx : Ex r V) (hV : V < 0) (hS : SidesOk us (vs.map fun b => -b) p (-V)) (hsx : SmAll us) (hsy : SmAll (vs.map fun b => -b)) (hsp : Sm p)
    (h : ∀ h' tk, Fr h₀ L h' m → News h₀ L h' news → Q (.bool true) { s with heap := h', toks := tk }) :
    (Mine.hd.heap_39 w.params).In h₀ → wpAny (model PySem.Challenge.rw_kq0023_02.row.prog w) (ktrTop dp un gd cn cs L a ccd cl outer) (call (.ref 194) [.ref ato, .ref ax, .ref ay, .int p tp]) Q E s := by
  k_fill
  intro X
  refine wpAny_call ?_
  refine' code_defC ?k1 ?k2 ?k3 ?k4 ?k5 ?kA ?kF ?kK ?k6 ?k7 ?k8 ?k9 ?kB ?kD ?_ ?c2 ?c3 ?c4; (case kA => exact rfl); (case kF => exact rfl); (case kK => exact hk); (case k1 => k_asm); (case k2 => k_asm); (case k3 => k_asm); (case k4 => k_asm); (case k5 => k_asm); (case k6 => k_is); (case k7 => k_is); (case k8 => ktr_room); (case k9 => first | exact BindsTo.of_eq rfl | exact binds_K (by k_in) rfl (by k_is) rfl rfl rfl); (case kB => exact rfl); (case kD => decide +kernel); (case c2 => exact rfl); (case c3 => exact rfl); (case c4 => exact rfl)
  intro g' L' h' tk' cells' FG' F' N' Y' B' X' T' l1
  (try k_lt l1)
  k_cells Y'
  (try simp only [List.cons_append, List.nil_append] at N')
  (try dsimp only)
  (try k_fold)
  have hV2 : 0 < -V := by omega
  k_steps
  all_goals (try k_data)
  refine fin_true (by assumption) (h _ _ ?f ?n)
  case f => assumption
  case n =>
    refine' news_sub ?N ?s
    case N => assumption
    case s => intro q hq; k_ownIn
end Mine
end

section
open PySem PySem.W PySem.Calls PyProof.Rows
set_option maxRecDepth 100000
set_option maxHeartbeats 8000000
namespace Mine
structure PrOk (us vs : List Int) (k : Int) (y : Value) : Prop where
  is : ∃ t, y = .int (us.getD k.toNat 0 * vs.getD k.toNat 0) t
section
variable {prog : Program} {w : World} {A : Around} {h₀ : Heap} {L : Addr} {m : Str → Option Value} {env : Env} {x : Str} {scope : Scope} {cl : List (Str × Addr)} {s₁ : Shared} {Fin : Shared → List Value → List (Addr × Obj) → Prop} {news : List (Addr × Obj)} {us vs : List Int} {xs ys : List Value} {r : Addr} {t u v : Tok} {elt : Expr}
theorem src_prod (hs : ((List.range us.length).map fun k => us.getD k 0 * vs.getD k 0).sum = 0) (hh : A.handled = none) (F : Fr h₀ L s₁.heap m) (N : News h₀ L s₁.heap news) (hr : IsRange s₁.heap r 0 (xs.length : Int) 1 t u v) (hl : IntsAre xs us) (h2 : us.length < 200)
    (turn : ∀ (k : Int) t I oI C oC D' m₂ ys h tk (E' : Value → Shared → Prop), 0 ≤ k → k < us.length → LCg.NsObj oC m₂ → m₂ x = some (.int k t) → Fr h₀ L h m → News h₀ L h ((I, oI) :: (C, oC) :: (D', LCg.lst ys) :: news) → LCg.Off3 I C D' news → ((@Ne Nat I C) ∧ (@Ne Nat I D') ∧ (@Ne Nat C D')) →
      wpAny (model prog w) A (eval elt (compEnvC scope cl C env)) (LCg.CompEnd h₀ L m ⟨h, s₁.gens, s₁.drawn, tk, s₁.os⟩ I oI C oC D' (LCg.lst ys) (fun _ => True) (fun y news' => CompEl news (PrOk us vs k) y news')) E' ⟨h, s₁.gens, s₁.drawn, tk, s₁.os⟩)
    (fin : ∀ g ys L', ys.length < 200 → IntsAre ys L' → L'.sum = 0 → Fin ⟨g, s₁.gens, s₁.drawn, s₁.toks, s₁.os⟩ ys news) :
    LCg.CompSrc prog w A h₀ L m env elt x scope cl Fin (.ref r) s₁ := by
  have e : xs.length = us.length := IntsAre.length hl
  rw [e] at hr
  refine LCg.CompSrc.range hh F N hr (rng_small h2) (rng_size _) (rng_line h2) fun g => ?_
  refine comp_rel (ks := (List.range us.length).map fun i => ((i : Nat) : Int)) (PrOk us vs) (by simp) (fun i v hi hv => ?_) (fun k t I oI C oC D' m₂ ys h tk E' hk => ?_) fun ys hR => ?_
  · obtain ⟨t, rfl⟩ := hv
    exact ⟨(i : Int), t, by simp [hi], by simp⟩
  · obtain ⟨i, hi, rfl⟩ := List.mem_map.mp hk
    exact turn _ t I oI C oC D' m₂ ys h tk E' (by omega) (by have := List.mem_range.mp hi; omega)
  · have q := ints_of_rel (f := fun k => us.getD k 0 * vs.getD k 0) (fun k y h => h.is) hR
    rw [List.map_map] at q
    exact fin g ys _ (by rw [RelI.length hR]; simpa using h2) q (by simpa [Function.comp_def] using hs)
end
section
variable {prog : Program} {w : World} {A : Around} {E : Value → Shared → Prop} {s : Shared} {x : Int} {t u : Tok}
theorem eq_zero_i {Q : Value → Shared → Prop} (hx : x = 0) (h : Q (.bool true) s) : wpAny (model prog w) A (compareOp .Eq (.int x t) (.int 0 u)) Q E s := by
  refine PyProof.Rows.eq_int ?_
  rw [hx]; exact h
end
local macro_rules | `(tactic| walk_at "eval ListComp") => `(tactic| (k_here; k_dflt (refine LCg.ListComp_U (F₀ := by k_asm) (by with_unfolding_all rfl) (by decide) (by rfl) (by decide) (by rfl) ?_)))
local macro_rules | `(tactic| walk_at "CompSrc") => `(tactic| (k_here; k_dflt (refine LCg.CompSrc.ledger (by rfl) (by k_asm) (by k_asm) (by k_ownIn) (by first | decide | (show 2 ≤ sizeLine; decide)) ?_; intro g'; (refine' comp_floats IsFloatT (fun r' t' I' oI' C' oC' D' m' ys' h' tk' E' hC' hx' F' N' off' ne' => ?_) (fun _ h => h) ?_); (all_goals (try (simp only [LCg.Off3, and_true] at off'))))))
local macro_rules | `(tactic| walk_at "compareOp NotEq ref ref") => `(tactic| (k_here; k_dflt (refine' ne_same (vs := [.type "float", .type "float"]) ?N ?u ?a ?b ?s ?_; (case N => k_asm); (case a => k_mem); (case b => k_mem); (case u => ktr_units); (case s => (intro v hv; simp at hv; rcases hv with rfl | rfl <;> simp)); k_whole)))
local macro_rules | `(tactic| walk_at "subscriptTail Name Constant ref int") => `(tactic| (k_here; with_unfolding_all (refine' item_at (xs := [_, _]) ?N ?m ?z ?f ?v ?hs ?ht ?_; (case N => k_asm); (case m => k_ownIn); (case z => decide); (case f => decide); (case v => exact rfl); (case hs => rfl); (case ht => (intro _; rfl)); k_whole)))
local macro_rules | `(tactic| walk_at "compareOp NotEq float int") => `(tactic| (k_here; refine ne00_f ?_))
local macro_rules | `(tactic| walk_at "compareOp Lt float int") => `(tactic| (k_here; refine lt0_pos (by assumption) (by assumption) ?_))
local macro_rules | `(tactic| walk_at "compareOp Eq float int") => `(tactic| (k_here; refine eq0_pos (by assumption) (by assumption) ?_))
local macro_rules | `(tactic| walk_at "getMethod float") => `(tactic| (k_here; refine get_ratio ?_))
local macro_rules | `(tactic| walk_at "call builtin:float.as_integer_ratio") => `(tactic| (k_here; (refine' call_ratio ?F ?N ?x ?v ?_; (case F => k_asm); (case N => k_asm); (case x => assumption); (case v => assumption)); intro a' h' tk' t1' t2' p' d' F' N' l1 fr'; (try k_lt l1)))
local macro_rules | `(tactic| walk_at "exec While") => `(tactic| (k_here; k_dflt (refine' while_half ?E ?c ?cp ?m ?dp ?F ?N ?U ?d ?_; (case E => passes_own); (case c => rfl); (case cp => rfl); (case F => k_asm); (case N => k_asm); (case m => k_mem); (case dp => assumption); (case d => assumption); (case U => k_updF)); intro j' h' tk' o' t' hj' F' N' d'; (try dsimp only at N')))
local macro_rules | `(tactic| k_all) => `(tactic| exact below_ne (by assumption) (by first | exact Nat.le_refl _ | exact Nat.le_add_right _ _ | omega))
local macro_rules | `(tactic| walk_at "loadName") => `(tactic| (k_here; k_dflt (refine' load_cell ?N ?c ?m ?d ?_ ?k ?x; (case k => rfl); (case x => rfl); (case N => k_asm); (case c => rfl); (case m => k_mem); (case d => assumption); k_whole)))
local macro_rules | `(tactic| walk_at "HalfEnd") => `(tactic| exact ⟨by assumption, _, _, _, _, rfl, by assumption, by assumption, by assumption⟩)
local macro_rules | `(tactic| walk_at "call builtin:len") => `(tactic| (k_here; (with_reducible show wpAny _ _ (call (Value.builtin _) [Value.ref _]) _ _ _); (refine' len_at ?k1 ?k2 ?k3 ?_; (case k1 => k_asm); (case k2 => k_ownIn); (case k3 => omega); k_whole)))
local macro_rules | `(tactic| walk_at "subscriptTail Name Name ref int") => `(tactic| (k_here; with_unfolding_all (refine' item_int ?N ?m ?i ?a ?b ?f ?hs ?ht ?_; (case N => k_asm); (case m => k_ownIn); (case i => assumption); (case a => omega); (case b => omega); (case f => omega); (case hs => rfl); (case ht => (intro _; rfl)); k_whole; intro t')))
local macro_rules | `(tactic| walk_at "binaryOp Mult int int") => `(tactic| (k_here; first | (refine mul_l (SmAll.at (by assumption) _) ?_) | (refine mul_r (Sm.bits (by assumption)) ?_)))
local macro_rules | `(tactic| walk_at "CompSrc") => `(tactic| (k_here; k_dflt (first
  | (refine' src_under ?fr ?hj ?hx ?hs ?hh ?F ?N ?hr ?hl ?h2 (fun k' t' I' oI' C' oC' D' m' ys' h' tk' E' hlo' hhi' hC' hx' F' N' off' ne' => ?_) (fun g' ys' hl' hI' hS' => ?_); (case fr => assumption); (case hj => assumption); (case hx => assumption); (case hs => assumption); (case hh => rfl); (case F => k_asm); (case N => k_asm); (case hr => assumption); (case hl => assumption); (case h2 => omega); (all_goals (try (simp only [LCg.Off3, and_true] at off'))))
  | (refine' src_over ?fr ?hj ?hx ?hs ?hh ?F ?N ?hr ?hl ?h2 (fun k' t' I' oI' C' oC' D' m' ys' h' tk' E' hlo' hhi' hC' hx' F' N' off' ne' => ?_) (fun g' ys' hl' hI' hS' => ?_); (case fr => assumption); (case hj => assumption); (case hx => assumption); (case hs => assumption); (case hh => rfl); (case F => k_asm); (case N => k_asm); (case hr => assumption); (case hl => assumption); (case h2 => omega); (all_goals (try (simp only [LCg.Off3, and_true] at off')))))))
local macro_rules | `(tactic| walk_at "call builtin:sum") => `(tactic| (k_here; (refine' sum_made ?h ?F ?N ?m ?i ?_; (case h => rfl); (case F => k_asm); (case N => k_asm); (case m => k_mem); (case i => assumption)); intro h' tk' t' F' N'))
local macro_rules | `(tactic| walk_at "CompEnd") => `(tactic| (refine' compEnd_el ?F ?N ?sub ?off ?S ?r; (case r => first | exact PrOk.mk ⟨_, rfl⟩ | exact ElOk.mk ⟨_, rfl⟩ | exact (rfl : _ = _) | assumption); (case F => assumption); (case N => assumption); (case sub => kcf_all); (case off => first | assumption | (simp only [LCg.Off3, and_true]; done) | (simp only [LCg.Off3, and_true]; assumption)); (case S => first | exact trivial | lcg_src | assumption | exact Or.inr ⟨_, by k_ownIn, rfl, _, rfl⟩)))
local macro_rules | `(tactic| walk_at "compareOp Lt float int") => `(tactic| (k_here; refine lt0_zero (by assumption) ?_))
local macro_rules | `(tactic| walk_at "compareOp Eq float int") => `(tactic| (k_here; refine eq0_zero (by assumption) ?_))
local macro_rules | `(tactic| walk_at "compareOp Eq int int") => `(tactic| (k_here; refine eq_zero_i (by assumption) ?_))
local macro_rules | `(tactic| walk_at "CompSrc") => `(tactic| (k_here; k_dflt (
  (refine' src_prod ?hs ?hh ?F ?N ?hr ?hl ?h2 (fun k' t' I' oI' C' oC' D' m' ys' h' tk' E' hlo' hhi' hC' hx' F' N' off' ne' => ?_) (fun g' ys' L' hl' hI' hS' => ?_); (case hs => assumption); (case hh => rfl); (case F => k_asm); (case N => k_asm); (case hr => assumption); (case hl => assumption); (case h2 => omega); (all_goals (try (simp only [LCg.Off3, and_true] at off')))))))
theorem is_line_zero {w : World} {dp un : Nat} {gd : Option (List Code)} {cn : Str} {cs : Scope} {a : Addr} {ccd : Value} {cl : List (Str × Addr)} {outer : List Env} {A₀ : Around} {base h₀ : Heap} {L : Addr} {m : Str → Option Value} {s : Shared} {Q E : Value → Shared → Prop}
    {mean : ExcName → Option Value} {mg mb : Str → Option Value} {news : List (Addr × Obj)} {ato ax ay : Addr} {xs ys : List Value} {us vs : List Int} {n ct cx cy : Nat} {r : UInt64} {t1 t2 tp : Tok} {p : Int}
    (B : Below A₀ base outer h₀) (F : Fr h₀ L s.heap m) (N : News h₀ L s.heap news) (T : Top Mine.vw (looseW Mine.vw [Str.ofString "_tuplegetter", Str.ofString "LinearRegression", Str.ofString "linear_regression"]) mean mg mb h₀) (hk : cs.kind = .function) (hd : dp + 5 < recursionLimit) (hu : un + 40 < cLine)
    (ht : (ato, listOf #[.float r t1, .float 0 t2] ct) ∈ news) (hx : (ax, listOf xs.toArray cx) ∈ news) (hy : (ay, listOf ys.toArray cy) ∈ news) (hix : IntsAre xs us) (hiy : IntsAre ys vs) (hlx : xs.length = n) (hly : ys.length = n) (hlu : us.length = n) (hlv : vs.length = n) (h22 : n ≤ 22) (hEx : Ex r 0) (hS : ((List.range us.length).map fun k => us.getD k 0 * vs.getD k 0).sum = 0) (hsx : SmAll us) (hsy : SmAll vs) (hsp : Sm p)
    (h : ∀ h' tk, Fr h₀ L h' m → News h₀ L h' news → Q (.bool true) { s with heap := h', toks := tk }) :
    (Mine.hd.heap_39 w.params).In h₀ → wpAny (model PySem.Challenge.rw_kq0023_02.row.prog w) (ktrTop dp un gd cn cs L a ccd cl outer) (call (.ref 194) [.ref ato, .ref ax, .ref ay, .int p tp]) Q E s := by
  k_fill
  intro X
  refine wpAny_call ?_
  refine' code_defC ?k1 ?k2 ?k3 ?k4 ?k5 ?kA ?kF ?kK ?k6 ?k7 ?k8 ?k9 ?kB ?kD ?_ ?c2 ?c3 ?c4; (case kA => exact rfl); (case kF => exact rfl); (case kK => exact hk); (case k1 => k_asm); (case k2 => k_asm); (case k3 => k_asm); (case k4 => k_asm); (case k5 => k_asm); (case k6 => k_is); (case k7 => k_is); (case k8 => ktr_room); (case k9 => first | exact BindsTo.of_eq rfl | exact binds_K (by k_in) rfl (by k_is) rfl rfl rfl); (case kB => exact rfl); (case kD => decide +kernel); (case c2 => exact rfl); (case c3 => exact rfl); (case c4 => exact rfl)
  intro g' L' h' tk' cells' FG' F' N' Y' B' X' T' l1
  (try k_lt l1)
  k_cells Y'
  (try simp only [List.cons_append, List.nil_append] at N')
  (try dsimp only)
  (try k_fold)
  k_steps
  all_goals (try k_data)
  refine h _ _ ?f ?n
  case f => assumption
  case n =>
    refine' news_sub ?N ?s
    case N => assumption
    case s => intro q hq; k_ownIn
end Mine
end

section
open PySem PySem.W PySem.Calls PyProof.Rows
set_option maxRecDepth 100000
set_option maxHeartbeats 8000000
namespace Mine
def dotp (us vs : List Int) (n : Nat) : Int := ((List.range n).map fun k => us.getD k 0 * vs.getD k 0).sum
theorem dotp_succ (us vs : List Int) (n : Nat) : dotp us vs (n + 1) = dotp us vs n + us.getD n 0 * vs.getD n 0 := by
  unfold dotp
  rw [List.range_succ, List.map_append, List.sum_append]
  simp
theorem el_sum (us vs : List Int) (D P pp : Int) : ∀ n, ((List.range n).map (elV us vs D P pp)).sum = dotp us vs n * D - P * (dotp us us n * pp)
  | 0 => by simp [dotp]
  | n + 1 => by
    rw [List.range_succ, List.map_append, List.sum_append, el_sum us vs D P pp n, dotp_succ, dotp_succ]
    simp only [List.map_cons, List.map_nil, List.sum_cons, List.sum_nil, elV]
    grind
theorem getD_neg (vs : List Int) (k : Nat) : (vs.map fun b => -b).getD k 0 = -(vs.getD k 0) := by
  rw [List.getD_eq_getElem?_getD, List.getD_eq_getElem?_getD, List.getElem?_map]
  cases vs[k]? <;> simp
theorem dotp_neg (us vs : List Int) : ∀ n, dotp us (vs.map fun b => -b) n = -dotp us vs n
  | 0 => by simp [dotp]
  | n + 1 => by rw [dotp_succ, dotp_succ, dotp_neg us vs n, getD_neg, Int.mul_neg]; omega
theorem sides_ok {us vs : List Int} {pp v : Int} {n : Nat} (hl : us.length = n) (h : SidesFor v (dotp us vs n) (dotp us us n * pp)) : SidesOk us vs pp v := by
  refine ⟨fun p d H a b c => ?_⟩
  rw [hl, el_sum, el_sum]
  exact h p d H a b c
theorem sm_neg {vs : List Int} (h : SmAll vs) : SmAll (vs.map fun b => -b) := by
  refine ⟨fun k hk => ?_⟩
  obtain ⟨b, hb, rfl⟩ := List.mem_map.mp hk
  rw [Int.natAbs_neg]
  exact h.small b hb
theorem is_line {w : World} {dp un : Nat} {gd : Option (List Code)} {cn : Str} {cs : Scope} {a : Addr} {ccd : Value} {cl : List (Str × Addr)} {outer : List Env} {A₀ : Around} {base h₀ : Heap} {L : Addr} {m : Str → Option Value} {s : Shared} {Q E : Value → Shared → Prop}
    {mean : ExcName → Option Value} {mg mb : Str → Option Value} {news : List (Addr × Obj)} {ato ax ay : Addr} {xs ys : List Value} {us vs : List Int} {n ct cx cy : Nat} {r : UInt64} {t1 t2 tp : Tok} {p : Int}
    (B : Below A₀ base outer h₀) (F : Fr h₀ L s.heap m) (N : News h₀ L s.heap news) (T : Top Mine.vw (looseW Mine.vw [Str.ofString "_tuplegetter", Str.ofString "LinearRegression", Str.ofString "linear_regression"]) mean mg mb h₀) (hk : cs.kind = .function) (hd : dp + 5 < recursionLimit) (hu : un + 40 < cLine)
    (ht : (ato, listOf #[.float r t1, .float 0 t2] ct) ∈ news) (hx0 : (ax, listOf xs.toArray cx) ∈ news) (hy0 : (ay, listOf ys.toArray cy) ∈ news) (hix : IntsAre xs us) (hiy : IntsAre ys vs) (hlx : xs.length = n) (hly : ys.length = n) (hlu : us.length = n) (hlv : vs.length = n) (h22 : n ≤ 22) {n' d' : Int} (hq : Quo r n' d') (he : n' * (dotp us us n * p) = dotp us vs n * d') (hd' : 0 < d') (hD : 0 < dotp us us n * p) (hD2 : dotp us us n * p < 2 ^ 53) (hN : (dotp us vs n).natAbs < 2 ^ 52) (hsx : SmAll us) (hsy : SmAll vs) (hsp : Sm p)
    (h : ∀ h' tk, Fr h₀ L h' m → News h₀ L h' news → Q (.bool true) { s with heap := h', toks := tk }) :
    (Mine.hd.heap_39 w.params).In h₀ → wpAny (model PySem.Challenge.rw_kq0023_02.row.prog w) (ktrTop dp un gd cn cs L a ccd cl outer) (call (.ref 194) [.ref ato, .ref ax, .ref ay, .int p tp]) Q E s := by
  intro X
  rcases slope_cases hq he hd' hD hD2 hN with ⟨h0, hx⟩ | ⟨h0, v, hx, hv, hS⟩ | ⟨h0, v, hx, hv, hS⟩
  · exact is_line_zero B F N T hk hd hu ht hx0 hy0 hix hiy hlx hly hlu hlv h22 hx (by rw [hlu]; exact h0) hsx hsy hsp h X
  · exact is_line_pos B F N T hk hd hu ht hx0 hy0 hix hiy hlx hly hlu hlv h22 hx hv (sides_ok hlu hS) hsx hsy hsp h X
  · exact is_line_neg B F N T hk hd hu ht hx0 hy0 hix hiy hlx hly hlu hlv h22 hx hv (sides_ok hlu (by rw [dotp_neg]; exact hS)) hsx (sm_neg hsy) hsp h X
end Mine
end

section
open PySem PySem.W PySem.Calls PyProof.Rows
set_option maxRecDepth 100000
set_option maxHeartbeats 8000000
namespace Mine
local macro_rules | `(tactic| walk_at "exec For Name Call cons nil") => `(tactic| (k_here; (rename Fr _ _ _ _ => lF'); (with_unfolding_all refine' For_invVF lF' ?k1 ?k2 ?_; (case k1 => exact rfl); (case k2 => exact rfl); k_whole)))
local macro_rules | `(tactic| walk_at "pyIter ref") => `(tactic| ((with_reducible show wpAny _ _ (pyIter (Value.ref _)) (fun it s₂ => LoopAtV _ _ _ _ _ _ _ _ _ it s₂) _ _); k_rangeUnr))
def QuoBy (d k : Int) (y : Value) : Prop := ∃ r t, y = .float r t ∧ Quo r k d
structure Src8 (vs : List Value) (ns : List Int) : Prop where
  isInts : IntsAre vs ns
  tiny : ∀ k ∈ ns, k.natAbs < 2 ^ 1023
structure Src4 (vs : List Value) (ns : List Int) : Prop where
  isInts : IntsAre vs ns
  tiny : ∀ k ∈ ns, k.natAbs < 2 ^ 1023
def Sum8 (xs : List Value) (vs : List Int) (S : Int) : Prop := ∀ zs, RelI (QuoBy 8) vs zs → SumIs xs zs S
theorem Sum8.get {xs zs : List Value} {vs : List Int} {S : Int} (h : Sum8 xs vs S) (r : RelI (QuoBy 8) vs zs) : SumIs xs zs S := h zs r
def Sum48 (us vs : List Int) (S : Int) : Prop := ∀ ws zs, RelI (QuoBy 4) us ws → RelI (QuoBy 8) vs zs → SumIs ws zs S
theorem Sum48.get {ws zs : List Value} {us vs : List Int} {S : Int} (h : Sum48 us vs S) (r : RelI (QuoBy 4) us ws) (r2 : RelI (QuoBy 8) vs zs) : SumIs ws zs S := h ws zs r r2
def Sum44 (us : List Int) (S : Int) : Prop := ∀ ws, RelI (QuoBy 4) us ws → SumIs ws ws S
theorem Sum44.get {ws : List Value} {us : List Int} {S : Int} (h : Sum44 us S) (r : RelI (QuoBy 4) us ws) : SumIs ws ws S := h ws r
theorem fits220 {xs : List Value} (h : xs.length < 200) : xs.toArray.size ≤ sizeLine := by
  have z : 200 ≤ sizeLine := by decide
  rw [List.size_toArray]; omega
section
variable {prog : Program} {w : World} {A : Around} {h₀ : Heap} {L : Addr} {m : Str → Option Value} {env : Env} {elt : Expr} {x : Str} {scope : Scope} {cl : List (Str × Addr)} {s : Shared} {S : List (Addr × Obj) → Prop} {Fin : List Value → List (Addr × Obj) → Prop} {news : List (Addr × Obj)} {vs : List Value} {ns : List Int}
theorem comp_src8 (hi : Src8 vs ns)
    (turn : ∀ k t I oI C oC D m₂ ys h tk (E' : Value → Shared → Prop), k.natAbs < 2 ^ 1023 → LCg.NsObj oC m₂ → m₂ x = some (.int k t) → Fr h₀ L h m → News h₀ L h ((I, oI) :: (C, oC) :: (D, LCg.lst ys) :: news) → LCg.Off3 I C D news → ((@Ne Nat I C) ∧ (@Ne Nat I D) ∧ (@Ne Nat C D)) →
      wpAny (model prog w) A (eval elt (compEnvC scope cl C env)) (LCg.CompEnd h₀ L m { s with heap := h, toks := tk } I oI C oC D (LCg.lst ys) S (fun y news' => CompEl news (QuoBy 8 k) y news')) E' { s with heap := h, toks := tk })
    (fin : ∀ ys, RelI (QuoBy 8) ns ys → Fin ys news) : LCg.CompRest prog w A h₀ L m env elt x scope cl s S (fun i v => vs.toArray[i]? = some v) Fin vs.toArray.size 0 [] news :=
  comp_ints (QuoBy 8) hi.isInts (fun k t I oI C oC D m₂ ys h tk E' hk => turn k t I oI C oC D m₂ ys h tk E' (hi.tiny k hk)) fin
theorem comp_src4 (hi : Src4 vs ns)
    (turn : ∀ k t I oI C oC D m₂ ys h tk (E' : Value → Shared → Prop), k.natAbs < 2 ^ 1023 → LCg.NsObj oC m₂ → m₂ x = some (.int k t) → Fr h₀ L h m → News h₀ L h ((I, oI) :: (C, oC) :: (D, LCg.lst ys) :: news) → LCg.Off3 I C D news → ((@Ne Nat I C) ∧ (@Ne Nat I D) ∧ (@Ne Nat C D)) →
      wpAny (model prog w) A (eval elt (compEnvC scope cl C env)) (LCg.CompEnd h₀ L m { s with heap := h, toks := tk } I oI C oC D (LCg.lst ys) S (fun y news' => CompEl news (QuoBy 4 k) y news')) E' { s with heap := h, toks := tk })
    (fin : ∀ ys, RelI (QuoBy 4) ns ys → Fin ys news) : LCg.CompRest prog w A h₀ L m env elt x scope cl s S (fun i v => vs.toArray[i]? = some v) Fin vs.toArray.size 0 [] news :=
  comp_ints (QuoBy 4) hi.isInts (fun k t I oI C oC D m₂ ys h tk E' hk => turn k t I oI C oC D m₂ ys h tk E' (hi.tiny k hk)) fin
end
local macro_rules | `(tactic| walk_at "CompSrc") => `(tactic| (k_here; k_dflt (refine LCg.CompSrc.ledger (by rfl) (by k_asm) (by k_asm) (by k_mem) (by first | (refine fits220 ?_; omega)) ?_; intro g'; (first
  | (refine' comp_src8 (by assumption) (fun k' t' I' oI' C' oC' D' m' ys' h' tk' E' hk' hC' hx' F' N' off' ne' => ?_) (fun ys' hR' => ?_); rotate_left; (have hl' := RelI.length hR'); rotate_left)
  | (refine' comp_src4 (by assumption) (fun k' t' I' oI' C' oC' D' m' ys' h' tk' E' hk' hC' hx' F' N' off' ne' => ?_) (fun ys' hR' => ?_); rotate_left; (have hl' := RelI.length hR'); rotate_left)); (all_goals (try (simp only [LCg.Off3, and_true] at off'))))))
local macro_rules | `(tactic| walk_at "binaryOp Div int int") => `(tactic| (k_here; (refine' int_div_int ?h ?a ?b ?_; (case h => rfl); (case a => assumption); (case b => decide)); intro r' t' q'))
local macro_rules | `(tactic| walk_at "CompEnd") => `(tactic| (refine' compEnd_el ?F ?N ?sub ?off ?S ?r; (case r => first | exact ⟨_, _, rfl, by assumption⟩ | exact ⟨_, _, rfl, quo_ofFrac (by decide)⟩); (case F => assumption); (case N => assumption); (case sub => kcf_all); (case off => first | assumption | (simp only [LCg.Off3, and_true]; done) | (simp only [LCg.Off3, and_true]; assumption)); (case S => first | lcg_src | assumption)))
local macro_rules | `(tactic| walk_at "call ref cons") => `(tactic| (k_here; (with_reducible show wpAny _ _ (call (Value.ref 189) _ _) _ _ _); k_dflt (first
  | (refine' line_ok ?B ?F ?N ?T ?hk ?hd ?hu ?hx ?hy ?hxl ?hyl ?XB ?TB ?hlen ?hn ?hxy ?hxx ?hne ?_ ?X; (case X => k_asm); (case B => assumption); (case F => k_asm); (case N => k_asm); (case T => assumption); (case hk => rfl); (case hd => ktr_room); (case hu => ktr_units); (case hx => k_mem); (case hy => k_mem); (case XB => assumption); (case TB => assumption); (case hxl => omega); (case hyl => omega); (case hlen => omega); (case hn => omega); (case hxy => first | assumption | (exact Sum8.get (by assumption) (by assumption)) | (exact Sum48.get (by assumption) (by assumption) (by assumption)) | (exact Sum44.get (by assumption) (by assumption))); (case hxx => first | assumption | (exact Sum8.get (by assumption) (by assumption)) | (exact Sum48.get (by assumption) (by assumption) (by assumption)) | (exact Sum44.get (by assumption) (by assumption))); (case hne => assumption); k_whole; intro h' tk' a' c' r' t1' t2' F' N' q')
  )))
local macro_rules | `(tactic| walk_at "CompEl") => `(tactic| first | exact ⟨rfl, _, _, rfl, by assumption⟩ | exact ⟨rfl, _, _, rfl, quo_ofFrac (by decide)⟩)
structure IsRatio (n' d' : Int) (us vs : List Int) (n : Nat) (pp : Int) : Prop where
  eq : n' * (dotp us us n * pp) = dotp us vs n * d'
  dpos : 0 < d'
  pos : 0 < dotp us us n * pp
  lt : dotp us us n * pp < 2 ^ 53
  ab : (dotp us vs n).natAbs < 2 ^ 52
structure NonZero (us : List Int) : Prop where
  is : ∃ a ∈ us, a ≠ 0
theorem nz_absurd {us : List Int} {M M' : Int} (h : NonZero us) (h1 : ∀ a, a ∈ us → M ≤ a) (h2 : ∀ a, a ∈ us → a ≤ M') (e : M = M') (z : M' = 0) : False := by
  obtain ⟨a, ha, hn⟩ := h.is
  have := h1 a ha
  have := h2 a ha
  omega
structure FourOk (k : Int) (y : Value) : Prop where
  is : ∃ t, y = .int (4 * k) t
theorem four_of_rel : ∀ {ks : List Int} {ys : List Value}, RelI FourOk ks ys → IntsAre ys (ks.map fun k => 4 * k)
  | _, _, .nil => .nil
  | _, _, .cons h t => by
    obtain ⟨u, rfl⟩ := h.is
    exact .cons _ _ (four_of_rel t)
section
variable {prog : Program} {w : World} {A : Around} {h₀ : Heap} {L : Addr} {m : Str → Option Value} {env : Env} {x : Str} {scope : Scope} {cl : List (Str × Addr)} {s₁ : Shared} {Fin : Shared → List Value → List (Addr × Obj) → Prop} {news : List (Addr × Obj)} {vs : List Int} {ys : List Value} {ay : Addr} {c : Nat} {e1 e2 : Expr} {q1 : Pos}
theorem src_four (hh : A.handled = none) (F : Fr h₀ L s₁.heap m) (N : News h₀ L s₁.heap news) (hm : (ay, listOf ys.toArray c) ∈ news) (hl : IntsAre ys vs) (h2 : vs.length < 200)
    (turn : ∀ (k : Int) t I oI C oC D' m₂ zs h tk (E' : Value → Shared → Prop), LCg.NsObj oC m₂ → m₂ x = some (.int k t) → Fr h₀ L h m → News h₀ L h ((I, oI) :: (C, oC) :: (D', LCg.lst zs) :: news) → LCg.Off3 I C D' news → ((@Ne Nat I C) ∧ (@Ne Nat I D') ∧ (@Ne Nat C D')) →
      wpAny (model prog w) A (eval (.BinOp e1 .Mult e2 q1) (compEnvC scope cl C env)) (LCg.CompEnd h₀ L m ⟨h, s₁.gens, s₁.drawn, tk, s₁.os⟩ I oI C oC D' (LCg.lst zs) (LCg.SrcAt h₀ ay ys.toArray) (fun y news' => CompEl news (FourOk k) y news')) E' ⟨h, s₁.gens, s₁.drawn, tk, s₁.os⟩)
    (fin : ∀ g zs, zs.length = vs.length → (vs.map fun b => 4 * b).length = vs.length → IntsAre zs (vs.map fun b => 4 * b) → Fin ⟨g, s₁.gens, s₁.drawn, s₁.toks, s₁.os⟩ zs news) :
    LCg.CompSrc prog w A h₀ L m env (.BinOp e1 .Mult e2 q1) x scope cl Fin (.ref ay) s₁ := by
  have e : ys.length = vs.length := IntsAre.length hl
  refine LCg.CompSrc.ledger hh F N hm (by rw [List.size_toArray, e]; exact rng_line h2) fun g => ?_
  refine comp_ints FourOk hl (fun k t I oI C oC D' m₂ zs h tk E' hk => turn k t I oI C oC D' m₂ zs h tk E') fun zs hR => ?_
  exact fin g zs (RelI.length hR) (List.length_map _) (four_of_rel hR)
end
theorem sm1 : Sm 1 := ⟨by decide⟩
theorem sm8 : Sm 8 := ⟨by decide⟩
theorem is_line' {w : World} {dp un : Nat} {gd : Option (List Code)} {cn : Str} {cs : Scope} {a : Addr} {ccd : Value} {cl : List (Str × Addr)} {outer : List Env} {A₀ : Around} {base h₀ : Heap} {L : Addr} {m : Str → Option Value} {s : Shared} {Q E : Value → Shared → Prop}
    {mean : ExcName → Option Value} {mg mb : Str → Option Value} {news : List (Addr × Obj)} {ato ax ay : Addr} {xs ys : List Value} {us vs : List Int} {n ct cx cy : Nat} {r : UInt64} {t1 t2 tp : Tok} {p : Int}
    (B : Below A₀ base outer h₀) (F : Fr h₀ L s.heap m) (N : News h₀ L s.heap news) (T : Top Mine.vw (looseW Mine.vw [Str.ofString "_tuplegetter", Str.ofString "LinearRegression", Str.ofString "linear_regression"]) mean mg mb h₀) (hk : cs.kind = .function) (hd : dp + 5 < recursionLimit) (hu : un + 40 < cLine)
    (ht : (ato, listOf #[.float r t1, .float 0 t2] ct) ∈ news) (hx0 : (ax, listOf xs.toArray cx) ∈ news) (hy0 : (ay, listOf ys.toArray cy) ∈ news) (hix : IntsAre xs us) (hiy : IntsAre ys vs) {n' d' : Int} (hq : Quo r n' d') (hR : IsRatio n' d' us vs n p) (hlx : xs.length = n) (hly : ys.length = n) (hlu : us.length = n) (hlv : vs.length = n) (h22 : n ≤ 22) (hsx : SmAll us) (hsy : SmAll vs) (hsp : Sm p)
    (h : ∀ h' tk, Fr h₀ L h' m → News h₀ L h' news → Q (.bool true) { s with heap := h', toks := tk }) :
    (Mine.hd.heap_39 w.params).In h₀ → wpAny (model PySem.Challenge.rw_kq0023_02.row.prog w) (ktrTop dp un gd cn cs L a ccd cl outer) (call (.ref 194) [.ref ato, .ref ax, .ref ay, .int p tp]) Q E s :=
  is_line B F N T hk hd hu ht hx0 hy0 hix hiy hlx hly hlu hlv h22 hq hR.eq hR.dpos hR.pos hR.lt hR.ab hsx hsy hsp h
local macro_rules | `(tactic| walk_at "eval Compare") => `(tactic| (k_here; exfalso; exact nz_absurd (by assumption) (by assumption) (by assumption) (by assumption) (by assumption)))
local macro_rules | `(tactic| walk_at "binaryOp Mult int int") => `(tactic| (k_here; (refine mul_l (by decide) ?_)))
local macro_rules | `(tactic| walk_at "CompSrc") => `(tactic| (k_here; k_dflt (
  (refine' src_four ?hh ?F ?N ?hm ?hl ?h2 (fun k' t' I' oI' C' oC' D' m' ys' h' tk' E' hC' hx' F' N' off' ne' => ?_) (fun g' ys' hl' hm' hI' => ?_); (case hh => rfl); (case F => k_asm); (case N => k_asm); (case hm => k_mem); (case hl => assumption); (case h2 => omega); (all_goals (try (simp only [LCg.Off3, and_true] at off')))))))
local macro_rules | `(tactic| walk_at "CompEnd") => `(tactic| (refine' compEnd_el ?F ?N ?sub ?off ?S ?r; (case r => first | exact FourOk.mk ⟨_, rfl⟩ | exact ⟨_, _, rfl, by assumption⟩ | exact ⟨_, _, rfl, quo_ofFrac (by decide)⟩); (case F => assumption); (case N => assumption); (case sub => kcf_all); (case off => first | assumption | (simp only [LCg.Off3, and_true]; done) | (simp only [LCg.Off3, and_true]; assumption)); (case S => first | lcg_src | assumption)))
local macro_rules | `(tactic| walk_at "call ref cons") => `(tactic| (k_here; (with_reducible show wpAny _ _ (call (Value.ref 194) _ _) _ _ _); k_dflt
  (refine' is_line' ?B ?F ?N ?T ?hk ?hd ?hu ?ht ?hx ?hy ?hix ?hiy ?hq ?hR ?hlx ?hly ?hlu ?hlv ?h22 ?hsx ?hsy ?hsp ?_ ?X; (case X => k_asm); (case B => assumption); (case F => k_asm); (case N => k_asm); (case T => assumption); (case hk => rfl); (case hd => ktr_room); (case hu => ktr_units); (case ht => k_mem); (case hx => k_mem); (case hy => k_mem); (case hix => assumption); (case hiy => assumption); (case hq => assumption); (case hR => assumption); (case hlx => omega); (case hly => omega); (case hlu => omega); (case hlv => omega); (case h22 => omega); (case hsx => assumption); (case hsy => assumption); (case hsp => first | exact sm1 | exact sm8); k_whole; intro h' tk' F' N')))
theorem law_rest8 {w : World} {fa : Addr} {cd : Value} {h₀ : Heap} {mean : ExcName → Option Value} {mg mb : Str → Option Value} {s : Shared} {Q : Flow → Shared → Prop} {R1 R2 : Value → Shared → Prop} {L ax ay : Addr} {m : Str → Option Value} {xs ys : List Value} {us vs : List Int} {n cx cy : Nat}
    (B : Below callerA h₀ [] h₀) (F : Fr h₀ L s.heap (fun z => if z = Str.ofString "y" then some (.ref ay) else if z = Str.ofString "x" then some (.ref ax) else m z)) (N : News h₀ L s.heap [(ay, listOf ys.toArray cy), (ax, listOf xs.toArray cx)])
    (T : Top Mine.vw (looseW Mine.vw [Str.ofString "_tuplegetter", Str.ofString "LinearRegression", Str.ofString "linear_regression"]) mean mg mb h₀) (hx : IntsAre xs us) (hy : IntsAre ys vs) (hlx : xs.length = n) (hly : ys.length = n) (hlu : us.length = n) (hlv : vs.length = n) (h2 : 2 ≤ n) (h22 : n ≤ 22) {Sxy Sxx : Int} (hxy : SumIs xs ys Sxy) (hxx : SumIs xs xs Sxx) (hne : Sxx ≠ 0) {S8 S48 S44 : Int} (h8 : Src8 ys vs) (h4 : Src4 xs us) (hs8 : Sum8 xs vs S8) (hs48 : Sum48 us vs S48) (hs44 : Sum44 us S44) (hn4 : S44 ≠ 0) (hnz : NonZero us) (K1 : IsRatio Sxy Sxx us vs n 1) (K8 : IsRatio S8 Sxx us vs n 8) (K4 : IsRatio S48 S44 us (vs.map fun b => 4 * b) n 8) (hsx : SmAll us) (hsy : SmAll vs) (hs4 : SmAll (vs.map fun b => 4 * b)) (hret : ∀ h' tk m', Fr h₀ L h' m' → Q (.ret (.bool true)) { s with heap := h', toks := tk }) :
    (Mine.hd.heap_39 w.params).In h₀ → wpAny (model PySem.Challenge.rw_kq0023_02.row.prog w) (callerA.deeper (envOf (Str.ofString "law") lawScope L fa cd)) (execs (lawRest 8) (envOf (Str.ofString "law") lawScope L fa cd)) Q (fun e s' => wpAny (model PySem.Challenge.rw_kq0023_02.row.prog w) (callerA.deeper (envOf (Str.ofString "law") lawScope L fa cd)) (leaving (envOf (Str.ofString "law") lawScope L fa cd) e) (fun _ s'' => R1 e s'') (fun e' s'' => R2 e' s'') s') s := by
  k_fill
  intro X
  dsimp only [lawRest, lawScope, lawFn, fnScope, fnBody, PySem.Challenge.pw_kq0023_02, List.getLastD, List.getLast, List.drop]
  k_steps
  all_goals (try k_data)
  all_goals (exact hret _ _ _ (by assumption))
end Mine
end

section
open PySem PySem.W PySem.Calls PyProof.Rows
set_option maxRecDepth 100000
set_option maxHeartbeats 8000000
namespace Mine
structure IsZ (Z : Int) : Prop where
  eq : Z = 0
structure AllZero (us : List Int) : Prop where
  is : ∀ a ∈ us, a = 0
theorem az_absurd1 {us : List Int} {M M' : Int} (e : M ≠ M') (h : AllZero us) (h1 : M ∈ us) (h2 : M' ∈ us) : False := e ((h.is M h1).trans (h.is M' h2).symm)
theorem az_absurd2 {us : List Int} {M : Int} (e : M ≠ 0) (h : AllZero us) (h1 : M ∈ us) : False := e (h.is M h1)
theorem line_flat' {w : World} {dp un : Nat} {gd : Option (List Code)} {cn : Str} {cs : Scope} {a : Addr} {ccd : Value} {A₀ : Around} {base h₀ : Heap} {L : Addr} {m : Str → Option Value} {s : Shared} {Q E : Value → Shared → Prop}
    {mean : ExcName → Option Value} {mg mb : Str → Option Value} {news : List (Addr × Obj)} {ax ay : Addr} {xs ys : List Value} {cx cy : Nat}
    (B : Below A₀ base [] h₀) (F : Fr h₀ L s.heap m) (N : News h₀ L s.heap news) (T : Top Mine.vw (looseW Mine.vw [Str.ofString "_tuplegetter", Str.ofString "LinearRegression", Str.ofString "linear_regression"]) mean mg mb h₀) (hk : cs.kind = .function) (hd : dp + 9 < recursionLimit) (hu : un + 60 < cLine)
    (hx : (ax, listOf xs.toArray cx) ∈ news) (hy : (ay, listOf ys.toArray cy) ∈ news) (hxl : xs.length < 200) (hyl : ys.length < 200)
    (XB : (Mine.hd.heap_39 w.params).In base) (TB : Top Mine.vw (looseW Mine.vw [Str.ofString "_tuplegetter", Str.ofString "LinearRegression", Str.ofString "linear_regression"]) mean mg mb base)
    (hlen : xs.length = ys.length) (hn : 2 ≤ xs.length) {Sxy : Int} (hxy : SumIs xs ys Sxy) {Z : Int} (hZ : IsZ Z) (hxx : SumIs xs xs Z) (hQ : ∀ h' tk a c tk', Fr h₀ L h' m → News h₀ L h' ((a, listOf #[.str (Str.ofString "x is constant") tk'] c) :: news) → Q (.ref a) { s with heap := h', toks := tk }) :
    (Mine.hd.heap_39 w.params).In h₀ → wpAny (model PySem.Challenge.rw_kq0023_02.row.prog w) (ktrTop dp un gd cn cs L a ccd [] []) (call (.ref 189) [.ref ax, .ref ay]) Q E s := by
  have e := hZ.eq
  subst e
  exact line_flat B F N T hk hd hu hx hy hxl hyl XB TB hlen hn hxy hxx hQ
local macro_rules | `(tactic| walk_at "exec For Name Call cons nil") => `(tactic| (k_here; (rename Fr _ _ _ _ => lF'); (with_unfolding_all refine' For_invVF lF' ?k1 ?k2 ?_; (case k1 => exact rfl); (case k2 => exact rfl); k_whole)))
local macro_rules | `(tactic| walk_at "pyIter ref") => `(tactic| ((with_reducible show wpAny _ _ (pyIter (Value.ref _)) (fun it s₂ => LoopAtV _ _ _ _ _ _ _ _ _ it s₂) _ _); k_rangeUnr))
local macro_rules | `(tactic| walk_at "CompSrc") => `(tactic| (k_here; k_dflt (refine LCg.CompSrc.ledger (by rfl) (by k_asm) (by k_asm) (by k_mem) (by first | (refine fits220 ?_; omega)) ?_; intro g'; (first
  | (refine' comp_src8 (by assumption) (fun k' t' I' oI' C' oC' D' m' ys' h' tk' E' hk' hC' hx' F' N' off' ne' => ?_) (fun ys' hR' => ?_); rotate_left; (have hl' := RelI.length hR'); rotate_left)
  | (refine' comp_src4 (by assumption) (fun k' t' I' oI' C' oC' D' m' ys' h' tk' E' hk' hC' hx' F' N' off' ne' => ?_) (fun ys' hR' => ?_); rotate_left; (have hl' := RelI.length hR'); rotate_left)); (all_goals (try (simp only [LCg.Off3, and_true] at off'))))))
local macro_rules | `(tactic| walk_at "binaryOp Div int int") => `(tactic| (k_here; (refine' int_div_int ?h ?a ?b ?_; (case h => rfl); (case a => assumption); (case b => decide)); intro r' t' q'))
local macro_rules | `(tactic| walk_at "CompEnd") => `(tactic| (refine' compEnd_el ?F ?N ?sub ?off ?S ?r; (case r => first | exact ⟨_, _, rfl, by assumption⟩ | exact ⟨_, _, rfl, quo_ofFrac (by decide)⟩); (case F => assumption); (case N => assumption); (case sub => kcf_all); (case off => first | assumption | (simp only [LCg.Off3, and_true]; done) | (simp only [LCg.Off3, and_true]; assumption)); (case S => first | lcg_src | assumption)))
local macro_rules | `(tactic| walk_at "CompEl") => `(tactic| first | exact ⟨rfl, _, _, rfl, by assumption⟩ | exact ⟨rfl, _, _, rfl, quo_ofFrac (by decide)⟩)
local macro_rules | `(tactic| walk_at "CompEnd") => `(tactic| (refine' compEnd_el ?F ?N ?sub ?off ?S ?r; (case r => first | exact FourOk.mk ⟨_, rfl⟩ | exact ⟨_, _, rfl, by assumption⟩ | exact ⟨_, _, rfl, quo_ofFrac (by decide)⟩); (case F => assumption); (case N => assumption); (case sub => kcf_all); (case off => first | assumption | (simp only [LCg.Off3, and_true]; done) | (simp only [LCg.Off3, and_true]; assumption)); (case S => first | lcg_src | assumption)))
local macro_rules | `(tactic| walk_at "call ref cons") => `(tactic| (k_here; first
  | ((with_reducible show wpAny _ _ (call (Value.ref 194) _ _) _ _ _); exfalso; first | exact az_absurd2 (by assumption) (by assumption) (by assumption) | exact az_absurd1 (by assumption) (by assumption) (by assumption) (by assumption))
  | ((with_reducible show wpAny _ _ (call (Value.ref 189) _ _) _ _ _); k_dflt (refine' line_flat' ?B ?F ?N ?T ?hk ?hd ?hu ?hx ?hy ?hxl ?hyl ?XB ?TB ?hlen ?hn ?hxy ?hZ ?hxx ?_ ?X; (case hZ => assumption); (case X => k_asm); (case B => assumption); (case F => k_asm); (case N => k_asm); (case T => assumption); (case hk => rfl); (case hd => ktr_room); (case hu => ktr_units); (case hx => k_mem); (case hy => k_mem); (case hxl => omega); (case hyl => omega); (case XB => assumption); (case TB => assumption); (case hlen => omega); (case hn => omega); (case hxy => first | assumption | (exact Sum8.get (by assumption) (by assumption)) | (exact Sum48.get (by assumption) (by assumption) (by assumption)) | (exact Sum44.get (by assumption) (by assumption))); (case hxx => first | assumption | (exact Sum8.get (by assumption) (by assumption)) | (exact Sum48.get (by assumption) (by assumption) (by assumption)) | (exact Sum44.get (by assumption) (by assumption))); k_whole; intro h' tk' a' c' t' F' N'))))
local macro_rules | `(tactic| walk_at "compareChain") => `(tactic| (k_here; (try dsimp only [evalEach]); first | with_reducible refine chain_link ?_ | refine chain_last ?_))
theorem law_rest8z {w : World} {fa : Addr} {cd : Value} {h₀ : Heap} {mean : ExcName → Option Value} {mg mb : Str → Option Value} {s : Shared} {Q : Flow → Shared → Prop} {R1 R2 : Value → Shared → Prop} {L ax ay : Addr} {m : Str → Option Value} {xs ys : List Value} {us vs : List Int} {n cx cy : Nat}
    (B : Below callerA h₀ [] h₀) (F : Fr h₀ L s.heap (fun z => if z = Str.ofString "y" then some (.ref ay) else if z = Str.ofString "x" then some (.ref ax) else m z)) (N : News h₀ L s.heap [(ay, listOf ys.toArray cy), (ax, listOf xs.toArray cx)])
    (T : Top Mine.vw (looseW Mine.vw [Str.ofString "_tuplegetter", Str.ofString "LinearRegression", Str.ofString "linear_regression"]) mean mg mb h₀) (hx : IntsAre xs us) (hy : IntsAre ys vs) (hlx : xs.length = n) (hly : ys.length = n) (hlu : us.length = n) (hlv : vs.length = n) (h2 : 2 ≤ n) (h22 : n ≤ 22) {Sxy : Int} (hxy : SumIs xs ys Sxy) {Z : Int} (hZ : IsZ Z) (hxx : SumIs xs xs Z) {S8 S48 : Int} (h8 : Src8 ys vs) (h4 : Src4 xs us) (hs8 : Sum8 xs vs S8) (hs48 : Sum48 us vs S48) (hs44 : Sum44 us Z) (haz : AllZero us) (hret : ∀ h' tk m', Fr h₀ L h' m' → Q (.ret (.bool true)) { s with heap := h', toks := tk }) :
    (Mine.hd.heap_39 w.params).In h₀ → wpAny (model PySem.Challenge.rw_kq0023_02.row.prog w) (callerA.deeper (envOf (Str.ofString "law") lawScope L fa cd)) (execs (lawRest 8) (envOf (Str.ofString "law") lawScope L fa cd)) Q (fun e s' => wpAny (model PySem.Challenge.rw_kq0023_02.row.prog w) (callerA.deeper (envOf (Str.ofString "law") lawScope L fa cd)) (leaving (envOf (Str.ofString "law") lawScope L fa cd) e) (fun _ s'' => R1 e s'') (fun e' s'' => R2 e' s'') s') s := by
  k_fill
  intro X
  dsimp only [lawRest, lawScope, lawFn, fnScope, fnBody, PySem.Challenge.pw_kq0023_02, List.getLastD, List.getLast, List.drop]
  k_steps
  all_goals (try k_data)
  all_goals (exact hret _ _ _ (by assumption))
end Mine
end

section
open PySem PySem.W PySem.Calls PyProof.Rows
set_option maxRecDepth 100000
set_option maxHeartbeats 8000000
namespace Mine
/-- what the walk behind the tests asks of the points -/
structure NzFacts (xs ys : List Value) (us vs : List Int) (n : Nat) (Sxy Sxx S8 S48 S44 : Int) : Prop where
  hxy : SumIs xs ys Sxy
  hxx : SumIs xs xs Sxx
  hne : Sxx ≠ 0
  hs8 : Sum8 xs vs S8
  hs48 : Sum48 us vs S48
  hs44 : Sum44 us S44
  hn4 : S44 ≠ 0
  hnz : NonZero us
  k1 : IsRatio Sxy Sxx us vs n 1
  k8 : IsRatio S8 Sxx us vs n 8
  k4 : IsRatio S48 S44 us (vs.map fun b => 4 * b) n 8
structure ZFacts (xs ys : List Value) (us vs : List Int) (Sxy Z S8 S48 : Int) : Prop where
  hZ : IsZ Z
  hxy : SumIs xs ys Sxy
  hxx : SumIs xs xs Z
  hs8 : Sum8 xs vs S8
  hs48 : Sum48 us vs S48
  hs44 : Sum44 us Z
  haz : AllZero us
structure LawFacts (xs ys : List Value) (us vs : List Int) (n : Nat) : Prop where
  h8 : Src8 ys vs
  h4 : Src4 xs us
  hsx : SmAll us
  hsy : SmAll vs
  hs4 : SmAll (vs.map fun b => 4 * b)
  cases : (∃ Sxy Sxx S8 S48 S44, NzFacts xs ys us vs n Sxy Sxx S8 S48 S44) ∨ (∃ Sxy Z S8 S48, ZFacts xs ys us vs Sxy Z S8 S48)
theorem map_xy {m : Str → Option Value} {ax ay : Addr} (hy : m (Str.ofString "y") = some (.ref ay)) (hx : m (Str.ofString "x") = some (.ref ax)) : m = fun z => if z = Str.ofString "y" then some (.ref ay) else if z = Str.ofString "x" then some (.ref ax) else m z := by
  funext z
  by_cases h : z = Str.ofString "y"
  · rw [if_pos h, h, hy]
  · rw [if_neg h]
    by_cases h2 : z = Str.ofString "x"
    · rw [if_pos h2, h2, hx]
    · rw [if_neg h2]
theorem law_join {w : World} {fa : Addr} {cd : Value} {h₀ : Heap} {mean : ExcName → Option Value} {mg mb : Str → Option Value} {s : Shared} {Q : Flow → Shared → Prop} {R1 R2 : Value → Shared → Prop} {L ax ay : Addr} {m : Str → Option Value} {xs ys : List Value} {us vs : List Int} {n cx cy : Nat} {news : List (Addr × Obj)}
    (B : Below callerA h₀ [] h₀) (F : Fr h₀ L s.heap m) (N : News h₀ L s.heap news) (T : Top Mine.vw (looseW Mine.vw [Str.ofString "_tuplegetter", Str.ofString "LinearRegression", Str.ofString "linear_regression"]) mean mg mb h₀)
    (hmy : m (Str.ofString "y") = some (.ref ay)) (hmx : m (Str.ofString "x") = some (.ref ax)) (hiy : (ay, listOf ys.toArray cy) ∈ news) (hix : (ax, listOf xs.toArray cx) ∈ news)
    (hx : IntsAre xs us) (hy : IntsAre ys vs) (hlx : xs.length = n) (hly : ys.length = n) (hlu : us.length = n) (hlv : vs.length = n) (h2 : 2 ≤ n) (h22 : n ≤ 22) (hf : LawFacts xs ys us vs n) (hret : ∀ h' tk m', Fr h₀ L h' m' → Q (.ret (.bool true)) { s with heap := h', toks := tk }) :
    (Mine.hd.heap_39 w.params).In h₀ → wpAny (model PySem.Challenge.rw_kq0023_02.row.prog w) (callerA.deeper (envOf (Str.ofString "law") lawScope L fa cd)) (execs (lawRest 8) (envOf (Str.ofString "law") lawScope L fa cd)) Q (fun e s' => wpAny (model PySem.Challenge.rw_kq0023_02.row.prog w) (callerA.deeper (envOf (Str.ofString "law") lawScope L fa cd)) (leaving (envOf (Str.ofString "law") lawScope L fa cd) e) (fun _ s'' => R1 e s'') (fun e' s'' => R2 e' s'') s') s := by
  intro X
  have N' : News h₀ L s.heap [(ay, listOf ys.toArray cy), (ax, listOf xs.toArray cx)] := fun q hq => by
    rcases List.mem_cons.mp hq with rfl | hq
    · exact N _ hiy
    · rcases List.mem_cons.mp hq with rfl | hq
      · exact N _ hix
      · cases hq
  have F' : Fr h₀ L s.heap (fun z => if z = Str.ofString "y" then some (.ref ay) else if z = Str.ofString "x" then some (.ref ax) else m z) := by
    rw [← map_xy hmy hmx]; exact F
  rcases hf.cases with ⟨Sxy, Sxx, S8, S48, S44, k⟩ | ⟨Sxy, Z, S8, S48, k⟩
  · exact law_rest8 B F' N' T hx hy hlx hly hlu hlv h2 h22 k.hxy k.hxx k.hne hf.h8 hf.h4 k.hs8 k.hs48 k.hs44 k.hn4 k.hnz k.k1 k.k8 k.k4 hf.hsx hf.hsy hf.hs4 hret X
  · exact law_rest8z B F' N' T hx hy hlx hly hlu hlv h2 h22 k.hxy k.hZ k.hxx hf.h8 hf.h4 k.hs8 k.hs48 k.hs44 k.haz hret X
end Mine
end

section
open PySem PySem.W PySem.Calls PyProof.Rows
set_option maxRecDepth 100000
set_option maxHeartbeats 4000000
namespace Mine
def Mark4 (P : Prop) : Prop := P
theorem mark4_ {P : Prop} (h : Mark4 P) : P := h
theorem ints_snoc {ws : List Value} {us : List Int} {k : Int} (h : IntsAre ws (us ++ [k])) : ws.length = us.length + 1 := by rw [IntsAre.length h, List.length_append]; rfl
local macro_rules | `(tactic| walk_at "exec For Name Call cons nil") => `(tactic| (k_here; (rename Fr _ _ _ _ => lF'); (with_unfolding_all refine' For_invVF lF' ?k1 ?k2 ?_; (case k1 => exact rfl); (case k2 => exact rfl); k_whole)))
local macro_rules | `(tactic| walk_at "pyIter ref") => `(tactic| ((with_reducible show wpAny _ _ (pyIter (Value.ref _)) (fun it s₂ => LoopAtV _ _ _ _ _ _ _ _ _ it s₂) _ _); k_rangeUnr))
local macro_rules | `(tactic| walk_at "call ref cons") => `(tactic| (k_here; (with_reducible show wpAny _ _ (call (Value.ref 189) _ _) _ _ _); (try ((rename IntsAre _ (_ ++ _) => hI9); (have hl9 := ints_snoc hI9))); k_dflt (first
  | (refine' line_len ?B ?F ?N ?T ?hk ?hd ?hu ?hx ?hy ?hxl ?hyl ?XB ?TB ?hlen ?_ ?X; (case X => k_asm); (case B => assumption); (case F => k_asm); (case N => k_asm); (case T => assumption); (case hk => rfl); (case hd => ktr_room); (case hu => ktr_units); (case hx => k_mem); (case hy => k_mem); (case XB => assumption); (case TB => assumption); (case hxl => first | omega | (simp only [List.length_nil, List.length_cons, List.length_take, List.length_append]; omega) | (simp; done)); (case hyl => first | omega | (simp only [List.length_nil, List.length_cons, List.length_take, List.length_append]; omega) | (simp; done)); (case hlen => first | omega | (simp only [List.length_nil, List.length_cons, List.length_take, List.length_append]; omega) | (simp; done)); k_whole; intro h' tk' a' c' t' F' N')
  | (refine' line_few ?B ?F ?N ?T ?hk ?hd ?hu ?hx ?hy ?hxl ?hyl ?XB ?TB ?hlen ?hn ?_ ?X; (case X => k_asm); (case B => assumption); (case F => k_asm); (case N => k_asm); (case T => assumption); (case hk => rfl); (case hd => ktr_room); (case hu => ktr_units); (case hx => k_mem); (case hy => k_mem); (case XB => assumption); (case TB => assumption); (case hxl => first | omega | (simp only [List.length_nil, List.length_cons, List.length_take, List.length_append]; omega) | (simp; done)); (case hyl => first | omega | (simp only [List.length_nil, List.length_cons, List.length_take, List.length_append]; omega) | (simp; done)); (case hlen => first | omega | (simp only [List.length_nil, List.length_cons, List.length_take, List.length_append]; omega) | (simp; done)); (case hn => first | omega | (simp only [List.length_nil, List.length_cons, List.length_take, List.length_append]; omega) | (simp; done)); k_whole; intro h' tk' a' c' t' F' N')
  | refine mark4_ ?_)))
local macro_rules | `(tactic| walk_at "subscriptTail Name Slice ref ref") => `(tactic| (k_here; with_unfolding_all (first
  | (refine' cut_upto (s := ⟨_, _, _, _, _⟩) ?F ?N ?m ?f ?hs ?ht ?_; (case F => k_asm); (case N => k_asm); (case m => k_mem); (case f => omega); (case hs => rfl); (case ht => (intro _; rfl)); k_whole; intro a' h' F' N' l1; (try k_lt l1)))))
local macro_rules | `(tactic| walk_at "execs cons") => `(tactic| ((with_reducible show wpAny _ _ (execs (Stmt.Assign [Expr.Name (PySem.Str.ofString "whole") _] _ _ :: _) _) _ _ _); refine mark4_ ?_))
theorem law_rest4 {w : World} {fa : Addr} {cd : Value} {h₀ : Heap} {mean : ExcName → Option Value} {mg mb : Str → Option Value} {s : Shared} {Q : Flow → Shared → Prop} {R1 R2 : Value → Shared → Prop} {L ax ay : Addr} {m : Str → Option Value} {xs ys : List Value} {us vs : List Int} {n cx cy : Nat}
    (B : Below callerA h₀ [] h₀) (F : Fr h₀ L s.heap (fun z => if z = Str.ofString "y" then some (.ref ay) else if z = Str.ofString "x" then some (.ref ax) else m z)) (N : News h₀ L s.heap [(ay, listOf ys.toArray cy), (ax, listOf xs.toArray cx)])
    (T : Top Mine.vw (looseW Mine.vw [Str.ofString "_tuplegetter", Str.ofString "LinearRegression", Str.ofString "linear_regression"]) mean mg mb h₀)
    (hx : IntsAre xs us) (hy : IntsAre ys vs) (hlx : xs.length = n) (hly : ys.length = n) (h2 : 2 ≤ n) (h22 : n ≤ 22) (hlu : us.length = n) (hlv : vs.length = n) (hf : LawFacts xs ys us vs n) (hret : ∀ h' tk m', Fr h₀ L h' m' → Q (.ret (.bool true)) { s with heap := h', toks := tk }) :
    (Mine.hd.heap_39 w.params).In h₀ → wpAny (model PySem.Challenge.rw_kq0023_02.row.prog w) (callerA.deeper (envOf (Str.ofString "law") lawScope L fa cd)) (execs (lawRest 4) (envOf (Str.ofString "law") lawScope L fa cd)) Q (fun e s' => wpAny (model PySem.Challenge.rw_kq0023_02.row.prog w) (callerA.deeper (envOf (Str.ofString "law") lawScope L fa cd)) (leaving (envOf (Str.ofString "law") lawScope L fa cd) e) (fun _ s'' => R1 e s'') (fun e' s'' => R2 e' s'') s') s := by
  k_fill
  intro X
  dsimp only [lawRest, lawScope, lawFn, fnScope, fnBody, PySem.Challenge.pw_kq0023_02, List.getLastD, List.getLast, List.drop]
  k_steps
  all_goals (try k_data)
  unfold Mark4
  refine' law_join (xs := xs) (ys := ys) (us := us) (vs := vs) (n := n) ?B ?F ?N ?T ?hmy ?hmx ?hiy ?hix ?hx ?hy ?hlx ?hly ?hlu ?hlv ?h2 ?h22 ?hf ?hret ?X
  (case X => k_asm); (case B => assumption); (case F => k_asm); (case N => k_asm); (case T => assumption); (case hmy => rfl); (case hmx => rfl); (case hiy => k_mem); (case hix => k_mem); (case hx => assumption); (case hy => assumption); (case hlx => assumption); (case hly => assumption); (case hlu => assumption); (case hlv => assumption); (case h2 => assumption); (case h22 => assumption); (case hf => assumption); (case hret => exact hret)
end Mine
end

section
open PySem PySem.W PySem.Calls PyProof.Rows Float64
set_option maxRecDepth 100000
set_option maxHeartbeats 1000000
set_option exponentiation.threshold 3000
namespace Mine
theorem getD_scale (us : List Int) (K : Int) (i : Nat) : (us.map fun k => k * K).getD i 0 = us.getD i 0 * K := by
  rw [List.getD_eq_getElem?_getD, List.getD_eq_getElem?_getD, List.getElem?_map]
  cases us[i]? <;> simp
theorem getD_lt {us : List Int} {B : Nat} (h : ∀ k ∈ us, k.natAbs < B) (hB : 0 < B) (i : Nat) : (us.getD i 0).natAbs < B := by
  rw [List.getD_eq_getElem?_getD]
  rcases e : us[i]? with _ | v
  · simpa using hB
  · exact h v (List.mem_of_getElem? e)
theorem mul_lt44 {a b : Int} (ha : a.natAbs < 2 ^ 22) (hb : b.natAbs < 2 ^ 22) : (a * b).natAbs ≤ 2 ^ 44 := by
  rw [Int.natAbs_mul]
  exact Nat.le_trans (Nat.mul_le_mul (Nat.le_of_lt ha) (Nat.le_of_lt hb)) (by decide)
theorem dotp_bound {us vs : List Int} (hu : ∀ k ∈ us, k.natAbs < 2 ^ 22) (hv : ∀ k ∈ vs, k.natAbs < 2 ^ 22) : ∀ j, (dotp us vs j).natAbs ≤ j * 2 ^ 44
  | 0 => by simp [dotp]
  | j + 1 => by
    rw [dotp_succ]
    have h1 := dotp_bound hu hv j
    have h2 := mul_lt44 (getD_lt hu (by decide) j) (getD_lt hv (by decide) j)
    generalize us.getD j 0 * vs.getD j 0 = z at *
    generalize dotp us vs j = y at *
    omega
theorem preSum_dotp (us vs : List Int) : ∀ j, preSum (fun i => us.getD i 0 * vs.getD i 0) j = dotp us vs j
  | 0 => by simp [dotp, preSum]
  | j + 1 => by rw [dotp_succ, ← preSum_dotp us vs j]; rfl
theorem preSum_scale (f : Nat → Int) (K : Int) : ∀ j, preSum (fun i => f i * K) j = preSum f j * K
  | 0 => by simp [preSum]
  | j + 1 => by
    show preSum _ j + f j * K = (preSum f j + f j) * K
    rw [preSum_scale f K j, Int.add_mul]
theorem nums_ints {xs : List Value} {us : List Int} (h : IntsAre xs us) (hu : ∀ k ∈ us, k.natAbs < 2 ^ 22) : NumsAre xs (us.map fun k => k * 2 ^ 1074) := by
  refine ⟨by rw [List.length_map]; exact IntsAre.length h, fun i v hv => ?_⟩
  rw [getD_scale]
  obtain ⟨k, t, rfl, hk⟩ := IntsAre.at h i v hv
  have e : us.getD i 0 = k := by rw [List.getD_eq_getElem?_getD, hk]; rfl
  rw [e]
  exact .int t rfl (Fits.of k 1074 (by have := hu k (List.mem_of_getElem? hk); omega) (by decide))
theorem nums_rel {d : Int} {a : Nat} (hd : (2 : Int) ^ 1074 = 2 ^ a * d) (ha : a ≤ 1990) {us : List Int} {zs : List Value} (h : RelI (QuoBy d) us zs) (hu : ∀ k ∈ us, k.natAbs < 2 ^ 22) : NumsAre zs (us.map fun k => k * 2 ^ a) := by
  refine ⟨by rw [List.length_map]; exact RelI.length h, fun i v hv => ?_⟩
  rw [getD_scale]
  obtain ⟨r, t, rfl, q⟩ := RelI.at h i v hv
  have := getD_lt hu (by decide) i
  exact .float t (q.ex (by rw [hd, Int.mul_assoc]) (Fits.of _ a (by omega) ha))
theorem allF_rel {d : Int} : ∀ {us : List Int} {zs : List Value}, RelI (QuoBy d) us zs → AllF zs
  | _, _, .nil => fun v hv => by cases hv
  | _, _, .cons h t => fun v hv => by
    rcases List.mem_cons.mp hv with rfl | hv
    · obtain ⟨r, t, rfl, _⟩ := h; rfl
    · exact allF_rel t v hv
theorem sum_flt {xs ys : List Value} {us vs : List Int} {n a b c : Nat} (hx : NumsAre xs (us.map fun k => k * 2 ^ a)) (hy : NumsAre ys (vs.map fun k => k * 2 ^ b)) (hf : AllF xs ∨ AllF ys) (hlu : us.length = n) (hlv : vs.length = n) (hn : 0 < n) (h22 : n ≤ 22)
    (hu : ∀ k ∈ us, k.natAbs < 2 ^ 22) (hv : ∀ k ∈ vs, k.natAbs < 2 ^ 22) (habc : (2 : Int) ^ a * 2 ^ b = 2 ^ c * 2 ^ 1074) (hc : c ≤ 1990) : SumIs xs ys (dotp us vs n * 2 ^ c) := by
  intro prog w A E s ax ay Q hA hl hl2 h
  have lx : xs.length = n := by rw [hx.1, List.length_map, hlu]
  have ly : ys.length = n := by rw [hy.1, List.length_map, hlv]
  have pe : ∀ j, preSum (fun i => us.getD i 0 * vs.getD i 0 * 2 ^ c) j = dotp us vs j * 2 ^ c := fun j => by
    rw [preSum_scale (fun i => us.getD i 0 * vs.getD i 0), preSum_dotp]
  refine sumprod_flt_lists hA hl hl2 hx hy (by rw [lx, ly]) (by omega) hf (fun i => us.getD i 0 * vs.getD i 0 * 2 ^ c) (fun i _ => ?_) (fun j hj => ?_) fun h' tk r t hk ht hr => ?_
  · rw [getD_scale, getD_scale]
    have := mul_lt44 (getD_lt hu (by decide) i) (getD_lt hv (by decide) i)
    refine ⟨?_, Fits.of _ c (by omega) hc⟩
    generalize us.getD i 0 = x
    generalize vs.getD i 0 = y
    calc x * 2 ^ a * (y * 2 ^ b) = x * y * (2 ^ a * 2 ^ b) := by ac_rfl
      _ = _ := by rw [habc]; ac_rfl
  · rw [pe]
    have := dotp_bound hu hv j
    exact Fits.of _ c (by have : j * 2 ^ 44 ≤ 22 * 2 ^ 44 := Nat.mul_le_mul_right _ (by omega); omega) hc
  · rw [pe, lx] at hr
    exact h h' tk _ hk ht (.float t hr)
theorem sum_int {xs ys : List Value} {us vs : List Int} {n : Nat} (hx : IntsAre xs us) (hy : IntsAre ys vs) (hlu : us.length = n) (hlv : vs.length = n) (hn : 0 < n) (h22 : n ≤ 22)
    (hu : ∀ k ∈ us, k.natAbs < 2 ^ 22) (hv : ∀ k ∈ vs, k.natAbs < 2 ^ 22) : SumIs xs ys (dotp us vs n * 2 ^ 1074) := by
  intro prog w A E s ax ay Q hA hl hl2 h
  have lx : xs.length = n := by rw [IntsAre.length hx, hlu]
  have ly : ys.length = n := by rw [IntsAre.length hy, hlv]
  refine sumprod_int_lists hA hl hl2 hx hy (by rw [lx, ly]) (by omega) (fun j hj => ?_) fun h' tk t hk ht => ?_
  · rw [preSum_dotp]
    have h1 := getD_lt hu (by decide) j
    have h2 := getD_lt hv (by decide) j
    have h3 := mul_lt44 h1 h2
    have h4 := dotp_bound hu hv (j + 1)
    have h5 : (j + 1) * 2 ^ 44 ≤ 22 * 2 ^ 44 := Nat.mul_le_mul_right _ (by omega)
    generalize us.getD j 0 * vs.getD j 0 = z at *
    generalize dotp us vs (j + 1) = y at *
    unfold InLong
    refine ⟨?_, ?_, ?_, ?_⟩ <;> omega
  · rw [preSum_dotp, lx]
    have h4 := dotp_bound hu hv n
    have h5 : n * 2 ^ 44 ≤ 22 * 2 ^ 44 := Nat.mul_le_mul_right _ (by omega)
    exact h h' tk _ hk ht (.int t rfl (Fits.of _ 1074 (by omega) (by decide)))
theorem dotp_self (us : List Int) : ∀ j, 0 ≤ dotp us us j
  | 0 => by simp [dotp]
  | j + 1 => by
    rw [dotp_succ]
    have := dotp_self us j
    have : 0 ≤ us.getD j 0 * us.getD j 0 := by
      rcases Int.le_total 0 (us.getD j 0) with h | h
      · exact Int.mul_nonneg h h
      · exact Int.mul_nonneg_of_nonpos_of_nonpos h h
    omega
theorem dotp_zero {us : List Int} : ∀ {j : Nat}, dotp us us j = 0 → ∀ i, i < j → us.getD i 0 = 0
  | 0, _, i, hi => by omega
  | j + 1, h, i, hi => by
    rw [dotp_succ] at h
    have h0 := dotp_self us j
    have h1 : 0 ≤ us.getD j 0 * us.getD j 0 := by
      rcases Int.le_total 0 (us.getD j 0) with h | h
      · exact Int.mul_nonneg h h
      · exact Int.mul_nonneg_of_nonpos_of_nonpos h h
    rcases Nat.lt_or_ge i j with c | c
    · exact dotp_zero (by omega) i c
    · have e : i = j := by omega
      subst e
      have : us.getD i 0 * us.getD i 0 = 0 := by omega
      rcases Int.mul_eq_zero.mp this with h | h <;> exact h
theorem mem_getD {us : List Int} {a : Int} (h : a ∈ us) : ∃ i, i < us.length ∧ us.getD i 0 = a := by
  obtain ⟨i, hi, e⟩ := List.mem_iff_getElem.mp h
  exact ⟨i, hi, by rw [List.getD_eq_getElem?_getD, List.getElem?_eq_getElem hi]; simpa using e⟩
theorem dotp_four (us vs : List Int) : ∀ n, dotp us (vs.map fun b => 4 * b) n = 4 * dotp us vs n
  | 0 => by simp [dotp]
  | n + 1 => by
    have e : (vs.map fun b => 4 * b).getD n 0 = 4 * vs.getD n 0 := by
      rw [List.getD_eq_getElem?_getD, List.getD_eq_getElem?_getD, List.getElem?_map]
      cases vs[n]? <;> simp
    rw [dotp_succ, dotp_succ, dotp_four us vs n, e]
    grind
theorem law_facts {xs ys : List Value} {us vs : List Int} {n : Nat} (hx : IntsAre xs us) (hy : IntsAre ys vs) (hu : ∀ k ∈ us, k.natAbs < 2 ^ 22) (hv : ∀ k ∈ vs, k.natAbs < 2 ^ 22) (hlu : us.length = n) (hlv : vs.length = n) (h2 : 2 ≤ n) (h22 : n ≤ 22) : LawFacts xs ys us vs n := by
  have t1 : ∀ k ∈ us, k.natAbs < 2 ^ 1023 := fun k hk => Nat.lt_of_lt_of_le (hu k hk) (Nat.pow_le_pow_right (by decide) (by decide))
  have t2 : ∀ k ∈ vs, k.natAbs < 2 ^ 1023 := fun k hk => Nat.lt_of_lt_of_le (hv k hk) (Nat.pow_le_pow_right (by decide) (by decide))
  have bxy := dotp_bound hu hv n
  have bxx := dotp_bound hu hu n
  have b22 : n * 2 ^ 44 ≤ 22 * 2 ^ 44 := Nat.mul_le_mul_right _ (by omega)
  have p0 := dotp_self us n
  have sxy := sum_int hx hy hlu hlv (by omega) h22 hu hv
  have sxx := sum_int hx hx hlu hlu (by omega) h22 hu hu
  have s8 : Sum8 xs vs (dotp us vs n * 2 ^ 1071) := fun zs hz => sum_flt (a := 1074) (b := 1071) (nums_ints hx hu) (nums_rel (by decide +kernel) (by decide) hz hv) (.inr (allF_rel hz)) hlu hlv (by omega) h22 hu hv (by decide +kernel) (by decide)
  have s48 : Sum48 us vs (dotp us vs n * 2 ^ 1069) := fun ws zs hw hz => sum_flt (a := 1072) (b := 1071) (nums_rel (by decide +kernel) (by decide) hw hu) (nums_rel (by decide +kernel) (by decide) hz hv) (.inr (allF_rel hz)) hlu hlv (by omega) h22 hu hv (by decide +kernel) (by decide)
  have s44 : Sum44 us (dotp us us n * 2 ^ 1070) := fun ws hw => sum_flt (a := 1072) (b := 1072) (nums_rel (by decide +kernel) (by decide) hw hu) (nums_rel (by decide +kernel) (by decide) hw hu) (.inr (allF_rel hw)) hlu hlu (by omega) h22 hu hu (by decide +kernel) (by decide)
  have e1 : (2 : Int) ^ 1074 = 8 * 2 ^ 1071 := by decide +kernel
  have e2 : 8 * (2 : Int) ^ 1069 = 4 * 2 ^ 1070 := by decide +kernel
  have k4 := dotp_four us vs n
  refine ⟨⟨hx |> fun _ => hy, t2⟩, ⟨hx, t1⟩, ⟨fun k hk => Nat.lt_of_lt_of_le (hu k hk) (by decide)⟩, ⟨fun k hk => Nat.lt_of_lt_of_le (hv k hk) (by decide)⟩, ⟨fun k hk => ?_⟩, ?_⟩
  · obtain ⟨b, hb, rfl⟩ := List.mem_map.mp hk
    have := hv b hb
    omega
  · by_cases hz : dotp us us n = 0
    · right
      refine ⟨_, 0, _, _, rfl |> fun h => ⟨h⟩, sxy, ?_, s8, s48, ?_, ⟨fun a ha => ?_⟩⟩
      · rw [hz, Int.zero_mul] at sxx; exact sxx
      · rw [hz, Int.zero_mul] at s44; exact s44
      · obtain ⟨i, hi, e⟩ := mem_getD ha
        rw [← e]
        exact dotp_zero hz i (by omega)
    · left
      have p1 : 0 < dotp us us n := by omega
      have q : ∀ k : Nat, (0 : Int) < 2 ^ k := fun k => Int.pow_pos (by decide)
      refine ⟨_, _, _, _, _, sxy, sxx, ?_, s8, s48, s44, ?_, ⟨?_⟩, ?_, ?_, ?_⟩
      · exact Int.ne_of_gt (Int.mul_pos p1 (q _))
      · exact Int.ne_of_gt (Int.mul_pos p1 (q _))
      · refine Classical.byContradiction fun hn => hz ?_
        have az : ∀ i, us.getD i 0 = 0 := fun i => by
          rw [List.getD_eq_getElem?_getD]
          rcases e : us[i]? with _ | v
          · rfl
          · refine Classical.byContradiction fun hv' => hn ⟨v, List.mem_of_getElem? e, fun z => hv' (by simpa using z)⟩
        have : ∀ j, dotp us us j = 0 := fun j => by
          induction j with
          | zero => simp [dotp]
          | succ j ih => rw [dotp_succ, ih, az]; simp
        exact this n
      · refine ⟨?_, Int.mul_pos p1 (q _), ?_, ?_, ?_⟩
        · generalize (2 : Int) ^ 1074 = K
          grind
        · omega
        · omega
        · omega
      · refine ⟨?_, Int.mul_pos p1 (q _), ?_, ?_, ?_⟩
        · rw [e1]
          generalize (2 : Int) ^ 1071 = K
          grind
        · omega
        · omega
        · omega
      · refine ⟨?_, Int.mul_pos p1 (q _), ?_, ?_, ?_⟩
        · rw [k4]
          generalize (2 : Int) ^ 1069 = K at *
          generalize (2 : Int) ^ 1070 = K2 at *
          generalize dotp us vs n = N at *
          generalize dotp us us n = D at *
          calc N * K * (D * 8) = N * D * (8 * K) := by grind
            _ = _ := by rw [e2]; grind
        · omega
        · omega
        · rw [k4]; omega
end Mine
end

section
open PySem PySem.W PySem.Calls PyProof.Rows
set_option maxRecDepth 100000
set_option maxHeartbeats 4000000
namespace Mine
def StopF (P : Prop) : Prop := P
theorem stopF_ {P : Prop} (h : StopF P) : P := h
theorem ints_drop {vs : List Value} {us : List Int} (h : IntsAre vs us) : ∀ k, IntsAre (vs.drop k) (us.drop k) := by
  induction h with
  | nil => intro k; simp; exact .nil
  | cons n t h ih => intro k; cases k with
    | zero => exact .cons n t h
    | succ k => simpa using ih k
theorem ints_take {vs : List Value} {us : List Int} (h : IntsAre vs us) : ∀ k, IntsAre (vs.take k) (us.take k) := by
  induction h with
  | nil => intro k; simp; exact .nil
  | cons n t h ih => intro k; cases k with
    | zero => simp; exact .nil
    | succ k => simpa using .cons n t (ih k)
section
variable {prog : Program} {w : World} {A : Around} {E : Value → Shared → Prop} {s : Shared} {h₀ : Heap} {L : Addr} {m : Str → Option Value} {news : List (Addr × Obj)} {xs : List Value} {us : List Int} {l : Addr} {c : Nat} {value slice : Expr}
theorem cut4 {k : Nat} {t t1 t2 t3 t4 : Tok} {Q : Value → Shared → Prop} (F : Fr h₀ L s.heap m) (N : News h₀ L s.heap news) (hm : (l, listOf #[.int 1 t1, .int 2 t2, .int 3 t3, .int 5 t4] c) ∈ news)
    (hs : subscripted slice false (.ref l) (.ref s.heap.objs.size) = operate [.ref s.heap.objs.size, .ref l] (getItem (.ref l) (.ref s.heap.objs.size))) (ht : ∀ r, letTemporaryGo value (.ref l) r = pure ())
    (h : ∀ a h' ws, Fr h₀ L h' m → News h₀ L h' ((a, listOf (List.toArray ws) 0) :: news) → IntsAre ws (([1, 2, 3, 5] : List Int).drop k) → ws.length = 4 - k → (∀ p ∈ news, p.1 < a) → Q (.ref a) { s with heap := h' }) :
    wpAny (model prog w) A (subscriptTail value slice (.ref l) (.ref s.heap.objs.size)) Q E { s with heap := s.heap.push { cls := .type "slice", data := .fields #[.int (k : Int) t, .none, .none] } } :=
  cut_from (xs := [.int 1 t1, .int 2 t2, .int 3 t3, .int 5 t4]) F N hm (by show 4 < 200; decide) hs ht fun a h' F' N' l1 =>
    h a h' _ F' N' (ints_drop (.cons _ _ (.cons _ _ (.cons _ _ (.cons _ _ .nil)))) k) (by rw [List.length_drop]; rfl) l1
theorem cut_lo {t : Tok} {Q : Value → Shared → Prop} (F : Fr h₀ L s.heap m) (N : News h₀ L s.heap news) (hm : (l, listOf xs.toArray c) ∈ news) (hi : IntsAre xs us) (hf : xs.length < 200)
    (hs : subscripted slice false (.ref l) (.ref s.heap.objs.size) = operate [.ref s.heap.objs.size, .ref l] (getItem (.ref l) (.ref s.heap.objs.size))) (ht : ∀ r, letTemporaryGo value (.ref l) r = pure ())
    (h : ∀ a h' ws, Fr h₀ L h' m → News h₀ L h' ((a, listOf (List.toArray ws) 0) :: news) → IntsAre ws (us.take (xs.length / 2)) → ws.length = xs.length / 2 → (∀ p ∈ news, p.1 < a) → Q (.ref a) { s with heap := h' }) :
    wpAny (model prog w) A (subscriptTail value slice (.ref l) (.ref s.heap.objs.size)) Q E { s with heap := s.heap.push { cls := .type "slice", data := .fields #[.none, .int ((xs.length : Int).fdiv 2) t, .none] } } := by
  have e : (xs.length : Int).fdiv 2 = ((xs.length / 2 : Nat) : Int) := by
    rw [Int.fdiv_eq_ediv_of_nonneg _ (by decide)]; omega
  rw [e]
  exact cut_upto F N hm hf hs ht fun a h' F' N' l1 => h a h' _ F' N' (ints_take hi _) (by rw [List.length_take]; omega) l1
theorem cut_hi {t u : Tok} {Q : Value → Shared → Prop} (F : Fr h₀ L s.heap m) (N : News h₀ L s.heap news) (hm : (l, listOf xs.toArray c) ∈ news) (hi : IntsAre xs us) (hf : xs.length < 200)
    (hs : subscripted slice false (.ref l) (.ref s.heap.objs.size) = operate [.ref s.heap.objs.size, .ref l] (getItem (.ref l) (.ref s.heap.objs.size))) (ht : ∀ r, letTemporaryGo value (.ref l) r = pure ())
    (h : ∀ a h' ws, Fr h₀ L h' m → News h₀ L h' ((a, listOf (List.toArray ws) 0) :: news) → IntsAre ws ((us.drop (xs.length / 2)).take (xs.length / 2)) → ws.length = xs.length / 2 → (∀ p ∈ news, p.1 < a) → Q (.ref a) { s with heap := h' }) :
    wpAny (model prog w) A (subscriptTail value slice (.ref l) (.ref s.heap.objs.size)) Q E { s with heap := s.heap.push { cls := .type "slice", data := .fields #[.int ((xs.length : Int).fdiv 2) t, .int (2 * (xs.length : Int).fdiv 2) u, .none] } } := by
  have e : (xs.length : Int).fdiv 2 = ((xs.length / 2 : Nat) : Int) := by
    rw [Int.fdiv_eq_ediv_of_nonneg _ (by decide)]; omega
  have e2 : 2 * (xs.length : Int).fdiv 2 = ((xs.length / 2 + xs.length / 2 : Nat) : Int) := by rw [e]; omega
  rw [e2, e]
  refine slice_list F N (N.isList hm) (.int _ _) (.int _ _) (fun h' F' N' => ?_) hs ht (fits200 hf)
  rw [slicePick_run xs.toArray _ _ (by rw [List.size_toArray]; omega) (by omega)] at N'
  exact h _ h' _ F' N' (by rw [show xs.length / 2 + xs.length / 2 - xs.length / 2 = xs.length / 2 by omega]; exact ints_take (ints_drop hi _) _) (by rw [List.length_take, List.length_drop]; show min _ (xs.length - _) = _; omega) fun p hp => Nat.lt_succ_of_lt (Heap.lt_size (N p hp).1)
end
local macro_rules | `(tactic| walk_at "subscriptTail") => `(tactic| ((with_reducible show wpAny _ _ (subscriptTail (Expr.List _ _) _ _ _) _ _ _); k_here; (refine kba_turn (value' := PySem.Expr.Name (PySem.Str.ofString "_") ⟨0, 0, 0, 0⟩) (fun _ => rfl) ?_); with_unfolding_all (refine' cut4 (s := ⟨_, _, _, _, _⟩) ?F ?N ?m ?hs ?ht ?_; (case F => k_asm); (case N => k_asm); (case m => k_mem); (case hs => rfl); (case ht => (intro _; rfl)); k_whole; intro a' h' ws' F' N' hI' hl' l1; (try k_lt l1))))
local macro_rules | `(tactic| walk_at "subscriptTail Name Slice ref ref") => `(tactic| (k_here; with_unfolding_all (first
  | (refine' cut_lo (s := ⟨_, _, _, _, _⟩) ?F ?N ?m ?i ?f ?hs ?ht ?_; (case F => k_asm); (case N => k_asm); (case m => k_mem); (case i => assumption); (case f => omega); (case hs => rfl); (case ht => (intro _; rfl)); k_whole; intro a' h' ws' F' N' hI' hl' l1; (try k_lt l1))
  | (refine' cut_hi (s := ⟨_, _, _, _, _⟩) ?F ?N ?m ?i ?f ?hs ?ht ?_; (case F => k_asm); (case N => k_asm); (case m => k_mem); (case i => assumption); (case f => omega); (case hs => rfl); (case ht => (intro _; rfl)); k_whole; intro a' h' ws' F' N' hI' hl' l1; (try k_lt l1)))))
theorem ints_cut {zs : List Value} {f : Int → Int} {w : List Int} {k : Nat} (h : IntsAre zs ((List.take 40 w).map f ++ List.drop k [1, 2, 3, 5])) : zs.length = min 40 w.length + (4 - k) := by
  rw [IntsAre.length h, List.length_append, List.length_map, List.length_take, List.length_drop]; rfl
section
variable {prog : Program} {w : World} {A : Around} {E : Value → Shared → Prop} {s : Shared} {h₀ : Heap} {L a : Addr} {news : List (Addr × Obj)} {k : Nat} {zs : List Value}
theorem len_cut {Q : Value → Shared → Prop} (N : News h₀ L s.heap news) (hm : (a, listOf zs.toArray k) ∈ news) (hf : zs.length < 200) (h : Q (.int zs.length (s.toks + 1)) { s with toks := s.toks + 1 + 1 }) :
    wpAny (model prog w) A (call (.builtin "len") [.ref a]) Q E s := by
  refine len_list (N.isList hm) (by simp; omega) ?_
  simpa using h
end
local macro_rules | `(tactic| walk_at "call builtin:len") => `(tactic| (k_here; (with_reducible show wpAny _ _ (call (Value.builtin _) [Value.ref _]) _ _ _); (rename IntsAre _ (_ ++ _) => hI9); (have hl9 := ints_cut hI9); (refine' len_cut ?k1 ?k2 ?k3 ?_; (case k1 => k_asm); (case k2 => k_mem); (case k3 => omega); k_whole)))
theorem law_join4 {w : World} {fa : Addr} {cd : Value} {h₀ : Heap} {mean : ExcName → Option Value} {mg mb : Str → Option Value} {s : Shared} {Q : Flow → Shared → Prop} {R1 R2 : Value → Shared → Prop} {L ax ay : Addr} {m : Str → Option Value} {xs ys : List Value} {us vs : List Int} {n cx cy : Nat} {news : List (Addr × Obj)}
    (B : Below callerA h₀ [] h₀) (F : Fr h₀ L s.heap m) (N : News h₀ L s.heap news) (T : Top Mine.vw (looseW Mine.vw [Str.ofString "_tuplegetter", Str.ofString "LinearRegression", Str.ofString "linear_regression"]) mean mg mb h₀)
    (hmy : m (Str.ofString "y") = some (.ref ay)) (hmx : m (Str.ofString "x") = some (.ref ax)) (hiy : (ay, listOf ys.toArray cy) ∈ news) (hix : (ax, listOf xs.toArray cx) ∈ news)
    (hx : IntsAre xs us) (hy : IntsAre ys vs) (hlx : xs.length = n) (hly : ys.length = n) (h2 : 2 ≤ n) (h22 : n ≤ 22) (hlu : us.length = n) (hlv : vs.length = n) (hf : LawFacts xs ys us vs n) (hret : ∀ h' tk m', Fr h₀ L h' m' → Q (.ret (.bool true)) { s with heap := h', toks := tk }) :
    (Mine.hd.heap_39 w.params).In h₀ → wpAny (model PySem.Challenge.rw_kq0023_02.row.prog w) (callerA.deeper (envOf (Str.ofString "law") lawScope L fa cd)) (execs (lawRest 4) (envOf (Str.ofString "law") lawScope L fa cd)) Q (fun e s' => wpAny (model PySem.Challenge.rw_kq0023_02.row.prog w) (callerA.deeper (envOf (Str.ofString "law") lawScope L fa cd)) (leaving (envOf (Str.ofString "law") lawScope L fa cd) e) (fun _ s'' => R1 e s'') (fun e' s'' => R2 e' s'') s') s := by
  intro X
  have N' : News h₀ L s.heap [(ay, listOf ys.toArray cy), (ax, listOf xs.toArray cx)] := fun q hq => by
    rcases List.mem_cons.mp hq with rfl | hq
    · exact N _ hiy
    · rcases List.mem_cons.mp hq with rfl | hq
      · exact N _ hix
      · cases hq
  have F' : Fr h₀ L s.heap (fun z => if z = Str.ofString "y" then some (.ref ay) else if z = Str.ofString "x" then some (.ref ax) else m z) := by
    rw [← map_xy hmy hmx]; exact F
  exact law_rest4 B F' N' T hx hy hlx hly h2 h22 hlu hlv hf hret X
theorem cutf_small (k : Int) : (if (if k < 0 then -k else k) < 2 ^ Int.toNat 22 then k else k.fmod (2 ^ Int.toNat 22)).natAbs < 2 ^ 22 := by
  have e : (2 : Int) ^ Int.toNat 22 = 4194304 := by decide
  rw [e]
  have h1 := Int.fmod_nonneg_of_pos k (by decide : (0 : Int) < 4194304)
  have h2 := Int.fmod_lt_of_pos k (by decide : (0 : Int) < 4194304)
  by_cases c : k < 0
  · rw [if_pos c]
    split <;> omega
  · rw [if_neg c]
    split <;> omega
theorem law_join0 {w : World} {fa : Addr} {cd : Value} {h₀ : Heap} {mean : ExcName → Option Value} {mg mb : Str → Option Value} {s : Shared} {Q : Flow → Shared → Prop} {R1 R2 : Value → Shared → Prop} {L ax ay : Addr} {m : Str → Option Value} {xs ys zs : List Value} {ns : List Int} {cx cy : Nat} {news : List (Addr × Obj)}
    (B : Below callerA h₀ [] h₀) (F : Fr h₀ L s.heap m) (N : News h₀ L s.heap news) (T : Top Mine.vw (looseW Mine.vw [Str.ofString "_tuplegetter", Str.ofString "LinearRegression", Str.ofString "linear_regression"]) mean mg mb h₀)
    (hmy : m (Str.ofString "y") = some (.ref ay)) (hmx : m (Str.ofString "x") = some (.ref ax)) (hiy : (ay, listOf ys.toArray cy) ∈ news) (hix : (ax, listOf xs.toArray cx) ∈ news)
    (hz : IntsAre zs (List.map (fun k => if (if k < 0 then -k else k) < 2 ^ Int.toNat 22 then k else k.fmod (2 ^ Int.toNat 22)) (List.take 40 ns) ++ List.drop (List.take 40 ns).length [1, 2, 3, 5]))
    (hx : IntsAre xs (List.take (zs.length / 2) (List.map (fun k => if (if k < 0 then -k else k) < 2 ^ Int.toNat 22 then k else k.fmod (2 ^ Int.toNat 22)) (List.take 40 ns) ++ List.drop (List.take 40 ns).length [1, 2, 3, 5])))
    (hy : IntsAre ys (List.take (zs.length / 2) (List.drop (zs.length / 2) (List.map (fun k => if (if k < 0 then -k else k) < 2 ^ Int.toNat 22 then k else k.fmod (2 ^ Int.toNat 22)) (List.take 40 ns) ++ List.drop (List.take 40 ns).length [1, 2, 3, 5]))))
    (hret : ∀ h' tk m', Fr h₀ L h' m' → Q (.ret (.bool true)) { s with heap := h', toks := tk }) :
    (Mine.hd.heap_39 w.params).In h₀ → wpAny (model PySem.Challenge.rw_kq0023_02.row.prog w) (callerA.deeper (envOf (Str.ofString "law") lawScope L fa cd)) (execs (lawRest 4) (envOf (Str.ofString "law") lawScope L fa cd)) Q (fun e s' => wpAny (model PySem.Challenge.rw_kq0023_02.row.prog w) (callerA.deeper (envOf (Str.ofString "law") lawScope L fa cd)) (leaving (envOf (Str.ofString "law") lawScope L fa cd) e) (fun _ s'' => R1 e s'') (fun e' s'' => R2 e' s'') s') s := by
  have hl := ints_cut hz
  have hc := IntsAre.length hz
  have hb : ∀ k ∈ (List.map (fun k : Int => if (if k < 0 then -k else k) < 2 ^ Int.toNat 22 then k else k.fmod (2 ^ Int.toNat 22)) (List.take 40 ns) ++ List.drop (List.take 40 ns).length [1, 2, 3, 5]), k.natAbs < 2 ^ 22 := fun k hk => by
    rcases List.mem_append.mp hk with h | h
    · obtain ⟨j, _, rfl⟩ := List.mem_map.mp h
      exact cutf_small j
    · have h := List.mem_of_mem_drop h
      simp at h
      rcases h with rfl | rfl | rfl | rfl <;> decide
  have l40 : (List.take 40 ns).length = min 40 ns.length := List.length_take
  generalize (List.map (fun k : Int => if (if k < 0 then -k else k) < 2 ^ Int.toNat 22 then k else k.fmod (2 ^ Int.toNat 22)) (List.take 40 ns) ++ List.drop (List.take 40 ns).length [1, 2, 3, 5]) = C at *
  rw [l40] at hl
  have lu : (List.take (zs.length / 2) C).length = zs.length / 2 := by rw [List.length_take]; omega
  have lv : (List.take (zs.length / 2) (List.drop (zs.length / 2) C)).length = zs.length / 2 := by rw [List.length_take, List.length_drop]; omega
  have hbu : ∀ k ∈ List.take (zs.length / 2) C, k.natAbs < 2 ^ 22 := fun k hk => hb k (List.mem_of_mem_take hk)
  have hbv : ∀ k ∈ List.take (zs.length / 2) (List.drop (zs.length / 2) C), k.natAbs < 2 ^ 22 := fun k hk => hb k (List.mem_of_mem_drop (List.mem_of_mem_take hk))
  have n2 : 2 ≤ zs.length / 2 := by omega
  have n22 : zs.length / 2 ≤ 22 := by omega
  exact law_join4 B F N T hmy hmx hiy hix hx hy (by rw [IntsAre.length hx, lu]) (by rw [IntsAre.length hy, lv]) n2 n22 lu lv (law_facts hx hy hbu hbv lu lv n2 n22) hret
local macro_rules | `(tactic| walk_at "execs cons") => `(tactic| ((with_reducible show wpAny _ _ (execs (Stmt.Assign [Expr.Name (PySem.Str.ofString "few") _] _ _ :: _) _) _ _ _); refine stopF_ ?_))
theorem fr : PySem.Challenge.rw_kq0023_02.Holds := Mine.hd (by
  w_strict (k_go0; (all_goals try k_fold); k_steps; (all_goals (try k_data)); (unfold StopF; refine' law_join0 ?B ?F ?N ?T ?hmy ?hmx ?hiy ?hix ?hz ?hx ?hy ?hret ?X; (case X => k_asm); (case B => assumption); (case F => k_asm); (case N => k_asm); (case T => assumption); (case hmy => rfl); (case hmx => rfl); (case hiy => k_mem); (case hix => k_mem); (case hz => assumption); (case hx => assumption); (case hy => assumption); intro h' tk' m' F'; (try dsimp only); k_steps; all_goals w_report)))
end Mine
end

set_option maxRecDepth 100000 in
theorem PySem.Challenge.cw_kq0023_02_holds : PySem.Challenge.rw_kq0023_02.Holds :=
  Mine.fr
