import JvmDerived
import JvmDerived.Pilot.@@N@@Statement
import JvmDerived.Pilot.@@N@@Code
set_option linter.unusedVariables false
set_option linter.unusedSimpArgs false
namespace Jvm.RoadKit
open Sem ClassFile Op Lib Jvm.Stand Jvm.Free Jvm.LawKit
section New
variable {p : Program} {l : Launch} {e : Env} {R : Room} {s : State} {m : MethodId} {args : Array Value} {below : List Frame} {meth : Method} {c : Code} {T : State} {locs : List Loc} {cells slots : Nat}
theorem retI (X : Stand p l e R s m args below meth c T locs cells slots) (hx : p.tables.exec = Jvm.exec) {pc : Nat} {Ls : Array Slot} {z : Int32} {rest : List Value} (hret : meth.sig.returnType = some .int) (hd : decode c.code pc = .ok (.ireturn, 1)) {fs : List Frame}
    (hl : ∀ (f : JFrame) (acts : List Action), f.method = m → f.locked = none → f.entered = [] → (doReturn e (T.setTop f) acts (some (.int z))).1 = T.setFrames fs) : Steps p.tables e below (T.setTop (mkF m pc Ls (.int z :: rest))) (T.setFrames fs) := by
  have hm' : T.vm.method? m = some meth := X.method'
  have hn : narrow .int (.int z) = .int z := rfl
  show Steps p.tables e below (T.setTop { method := m, pc := pc, locals := Ls, stack := _ :: rest, locked := none }) _
  jvm_step X.here [X.here.top, hx, hd, hm', hret, hn]
  first | (intro acts; rw [hl _ acts rfl rfl rfl]) | rw [hl _ _ rfl rfl rfl]
  exact Steps.refl _
end New
end Jvm.RoadKit
namespace Jvm.Pilot.@@N@@
open Jvm Jvm.ClassFile Sem Op Lib Jvm.Free Jvm.Stand Jvm.LawKit Jvm.RoadKit Bundle Jvm.Pilot.@@N@@.Jvm.D
open Jvm.FP.Core in
theorem own_dist (A B : Nat) (e : Int) (c : Nat) (q e0 : Int) : Jvm.FP.Core.distance A B e c q e0 = ((inUnits A e e0 : Int) - (inUnits c q e0 : Int) * (B : Int)).natAbs := rfl
theorem own_units (c : Nat) (q e : Int) : Jvm.FP.Core.inUnits c q e = c * 2 ^ (q - e).toNat := rfl
open Jvm.FP.Core in
theorem own_mono {f : Fmt} (hf : Good f) {A B A' B' : Nat} {e e' e0 : Int} (hB : 0 < B) (hB' : 0 < B') (h0 : e0 < f.qmin) (h0e : e0 ≤ e) (h0e' : e0 ≤ e')
    (h : inUnits A e e0 * B' ≤ inUnits A' e' e0 * B) : zmag f (roundRatio f false A B e) ≤ zmag f (roundRatio f false A' B' e') := by
  have f1 := roundRatio_fits hf false A hB e
  have f2 := roundRatio_fits hf false A' hB' e'
  have n2 := roundRatio_ne_nan f false A' B' e'
  refine Nat.le_of_not_lt fun hlt => ?_
  have k1 : ¬ inUnits A e e0 ≤ zmag f (roundRatio f false A' B' e') * 2 ^ (f.qmin - e0).toNat * B := fun q => absurd (zmag_roundRatio_le hf (s := false) hB f2 n2 (Int.le_of_lt h0) h0e q) (Nat.not_le_of_lt hlt)
  have k2 : ¬ zmag f (roundRatio f false A B e) * 2 ^ (f.qmin - e0).toNat * B' ≤ inUnits A' e' e0 := fun q => absurd (zmag_roundRatio_ge hf (s := false) hB' f1 (Int.le_of_lt h0) h0e' q) (Nat.not_le_of_lt hlt)
  rcases roundRatio_cases f false A B e with ⟨c, q, hR⟩ | hR
  · rcases roundRatio_cases f false A' B' e' with ⟨c', q', hR'⟩ | hR'
    · rw [hR] at f1 k2 hlt
      rw [hR'] at f2 k1 hlt
      have d1 := roundRatio_nearest hf hB hR f2.1 f2.2.1 (Int.le_of_lt h0) h0e
      have d2 := roundRatio_nearest hf hB' hR' f1.1 f1.2.1 (Int.le_of_lt h0) h0e'
      rw [own_dist, own_dist, units_fin f1 (Int.le_of_lt h0), units_fin f2 (Int.le_of_lt h0), ← Int.natCast_mul, ← Int.natCast_mul] at d1 d2
      have eq1 : zmag f (.fin false c q) * 2 ^ (f.qmin - e0).toNat * B * B' = zmag f (.fin false c q) * 2 ^ (f.qmin - e0).toNat * B' * B := by ac_rfl
      have eq2 : zmag f (.fin false c' q') * 2 ^ (f.qmin - e0).toNat * B * B' = zmag f (.fin false c' q') * 2 ^ (f.qmin - e0).toNat * B' * B := by ac_rfl
      have key : inUnits A e e0 * B' = inUnits A' e' e0 * B → False := by
        intro hk
        have hc : roundRatio f false A B e = roundRatio f false A' B' e' := by
          refine roundRatio_congr hB hB' ?_
          rw [own_units, own_units] at hk
          rcases Int.le_total e e' with hle | hle
          · have w1 : (e - e').toNat = 0 := by omega
            have w2 : (e' - e0).toNat = (e' - e).toNat + (e - e0).toNat := by omega
            rw [w1]
            rw [w2, Nat.pow_add] at hk
            refine Nat.eq_of_mul_eq_mul_right (Nat.two_pow_pos (e - e0).toNat) ?_
            calc A * B' * 2 ^ 0 * 2 ^ (e - e0).toNat = A * 2 ^ (e - e0).toNat * B' := by rw [Nat.pow_zero, Nat.mul_one]; ac_rfl
              _ = _ := hk
              _ = A' * B * 2 ^ (e' - e).toNat * 2 ^ (e - e0).toNat := by ac_rfl
          · have w1 : (e' - e).toNat = 0 := by omega
            have w2 : (e - e0).toNat = (e - e').toNat + (e' - e0).toNat := by omega
            rw [w1]
            rw [w2, Nat.pow_add] at hk
            refine Nat.eq_of_mul_eq_mul_right (Nat.two_pow_pos (e' - e0).toNat) ?_
            calc A * B' * 2 ^ (e - e').toNat * 2 ^ (e' - e0).toNat = A * (2 ^ (e - e').toNat * 2 ^ (e' - e0).toNat) * B' := by ac_rfl
              _ = _ := hk
              _ = A' * B * 2 ^ 0 * 2 ^ (e' - e0).toNat := by rw [Nat.pow_zero, Nat.mul_one]; ac_rfl
        rw [hR, hR'] at hc
        rw [hc] at hlt
        exact Nat.lt_irrefl _ hlt
      generalize zmag f (.fin false c q) * 2 ^ (f.qmin - e0).toNat * B = u at *
      generalize zmag f (.fin false c' q') * 2 ^ (f.qmin - e0).toNat * B = v at *
      generalize zmag f (.fin false c q) * 2 ^ (f.qmin - e0).toNat * B' = u' at *
      generalize zmag f (.fin false c' q') * 2 ^ (f.qmin - e0).toNat * B' = v' at *
      generalize inUnits A e e0 = a at *
      generalize inUnits A' e' e0 = a' at *
      have au : a < u := by
        refine Nat.lt_of_mul_lt_mul_right (a := B') ?_
        have : a' * B < u' * B := Nat.mul_lt_mul_of_pos_right (Nat.lt_of_not_le k2) hB
        omega
      have va : v' < a' := by
        refine Nat.lt_of_mul_lt_mul_right (a := B) ?_
        have : v * B' < a * B' := Nat.mul_lt_mul_of_pos_right (Nat.lt_of_not_le k1) hB'
        omega
      have s1 : u + v ≤ 2 * a := by omega
      have s2 : 2 * a' ≤ u' + v' := by omega
      have t1 := Nat.mul_le_mul_right B' s1
      have t2 := Nat.mul_le_mul_right B s2
      rw [Nat.add_mul, Nat.mul_assoc] at t1
      rw [Nat.add_mul, Nat.mul_assoc] at t2
      exact key (by omega)
    · rw [hR'] at hlt
      exact absurd (zmag_le_top hf f1) (Nat.not_le_of_lt hlt)
  · have i1 := (roundRatio_inf hf (s := false) hB h0 h0e).mp hR
    have i2 := (roundRatio_inf hf (s := false) (A := A') hB' h0 h0e').mpr (by
      generalize (2 ^ (f.p + 1) - 1) * 2 ^ (f.qmax - 1 - e0).toNat = M at *
      refine Nat.le_of_mul_le_mul_right ?_ hB
      have := Nat.mul_le_mul_right B' i1
      calc M * B' * B = M * B * B' := by ac_rfl
        _ ≤ _ := this
        _ ≤ _ := h)
    rw [hR, i2] at hlt
    exact Nat.lt_irrefl _ hlt
def own_P (a : UInt64) : Prop := ∃ c q, Jvm.FP.Core.val64 a = .fin false c q
def own_z (a : UInt64) : Nat := Jvm.FP.Core.zmag Jvm.FP.Core.b64 (Jvm.FP.Core.val64 a)
open Jvm.FP.Core in
theorem own_quot {a b : UInt64} {c d : Nat} {q r : Int} (ha : val64 a = .fin false c q) (hb : val64 b = .fin false d r) (hz : 0 < own_z b) : 0 < d ∧ val64 (ddiv a b) = roundRatio b64 false c d (q - r) := by
  have hd : 0 < d := by
    refine Nat.pos_of_ne_zero fun h => ?_
    subst h
    have h1 : own_z b = inUnits 0 r b64.qmin := by show zmag b64 (val64 b) = _; rw [hb]; rfl
    rw [h1, own_units, Nat.zero_mul] at hz
    exact Nat.lt_irrefl _ hz
  refine ⟨hd, ?_⟩
  rw [val64_ddiv, ha, hb]
  show (if d = 0 then (if c = 0 then Datum.nan else .inf (false != false)) else roundRatio b64 (false != false) c d (q - r)) = _
  rw [if_neg (by omega)]
  rfl
open Jvm.FP.Core in
theorem own_div {a b a' b' : UInt64} (ha : own_P a) (hb : own_P b) (ha' : own_P a') (hb' : own_P b') (hz : 0 < own_z b) (hz' : 0 < own_z b') (h1 : own_z a ≤ own_z a') (h2 : own_z b' ≤ own_z b) : own_z (ddiv a b) ≤ own_z (ddiv a' b') := by
  obtain ⟨c, q, ha⟩ := ha
  obtain ⟨d, r, hb⟩ := hb
  obtain ⟨c', q', ha'⟩ := ha'
  obtain ⟨d', r', hb'⟩ := hb'
  obtain ⟨hd, e1⟩ := own_quot ha hb hz
  obtain ⟨hd', e2⟩ := own_quot ha' hb' hz'
  have fa := val64_fits a; rw [ha] at fa
  have fb := val64_fits b; rw [hb] at fb
  have fa' := val64_fits a'; rw [ha'] at fa'
  have fb' := val64_fits b'; rw [hb'] at fb'
  have h1' : c * 2 ^ (q - b64.qmin).toNat ≤ c' * 2 ^ (q' - b64.qmin).toNat := by
    have k : zmag b64 (val64 a) ≤ zmag b64 (val64 a') := h1
    rw [ha, ha'] at k; exact k
  have h2' : d' * 2 ^ (r' - b64.qmin).toNat ≤ d * 2 ^ (r - b64.qmin).toNat := by
    have k : zmag b64 (val64 b') ≤ zmag b64 (val64 b) := h2
    rw [hb, hb'] at k; exact k
  show zmag b64 (val64 (ddiv a b)) ≤ zmag b64 (val64 (ddiv a' b'))
  rw [e1, e2]
  have q1 := fa.2.1; have q2 := fb.2.1; have q3 := fa'.2.1; have q4 := fb'.2.1
  obtain ⟨e0, x1, x2⟩ : ∃ e0 : Int, e0 < b64.qmin ∧ e0 ≤ 2 * b64.qmin - r - r' := ⟨min (b64.qmin - 1) (2 * b64.qmin - r - r'), by omega, by omega⟩
  refine own_mono good_b64 hd hd' x1 (by omega) (by omega) ?_
  rw [own_units, own_units]
  obtain ⟨N, w1, w2⟩ : ∃ N : Nat, (q - r - e0).toNat = (q - b64.qmin).toNat + (r' - b64.qmin).toNat + N ∧ (q' - r' - e0).toNat = (q' - b64.qmin).toNat + (r - b64.qmin).toNat + N := ⟨(2 * b64.qmin - r - r' - e0).toNat, by omega, by omega⟩
  rw [w1, w2, Nat.pow_add, Nat.pow_add, Nat.pow_add, Nat.pow_add]
  generalize 2 ^ (q - b64.qmin).toNat = z1 at *
  generalize 2 ^ (r' - b64.qmin).toNat = z2 at *
  generalize 2 ^ (q' - b64.qmin).toNat = z3 at *
  generalize 2 ^ (r - b64.qmin).toNat = z4 at *
  calc c * (z1 * z2 * 2 ^ N) * d' = (c * z1) * (d' * z2) * 2 ^ N := by ac_rfl
    _ ≤ (c' * z3) * (d * z4) * 2 ^ N := Nat.mul_le_mul_right _ (Nat.mul_le_mul h1' h2')
    _ = c' * (z3 * z4 * 2 ^ N) * d := by ac_rfl
open Jvm.FP.Core in
theorem own_top {a : UInt64} {A B : Nat} {e : Int} (h : val64 a = roundRatio b64 false A B e) (hz : own_z a < b64.tails * 2 ^ (b64.exps - 2)) : own_P a := by
  rcases roundRatio_cases b64 false A B e with ⟨c, q, hR⟩ | hR
  · exact ⟨c, q, h.trans hR⟩
  · have k : own_z a = b64.tails * 2 ^ (b64.exps - 2) := by show zmag b64 (val64 a) = _; rw [h, hR]; rfl
    rw [k] at hz
    exact absurd hz (Nat.lt_irrefl _)
open Jvm.FP.Core in
theorem own_l_P {n : Int64} (h : 0 ≤ n.toInt) : own_P (l2d n) := by
  obtain ⟨c, q, hs⟩ := l2d_shape n
  refine ⟨c, q, ?_⟩
  rw [hs, decide_eq_false (by omega)]
open Jvm.FP.Core in
theorem own_l_round {n : Int64} (h : 0 ≤ n.toInt) : val64 (l2d n) = roundRatio b64 false n.toInt.natAbs 1 0 := by
  have k : val64 (l2d n) = roundRatio b64 (decide (n.toInt < 0)) n.toInt.natAbs 1 0 := val64_l2d n
  rw [k, decide_eq_false (by omega)]
open Jvm.FP.Core in
theorem own_l_mono {n n' : Int64} (h : 0 ≤ n.toInt) (h' : n.toInt ≤ n'.toInt) : own_z (l2d n) ≤ own_z (l2d n') := by
  show zmag b64 (val64 (l2d n)) ≤ zmag b64 (val64 (l2d n'))
  rw [own_l_round h, own_l_round (Int.le_trans h h')]
  have q0 : b64.qmin < 0 := qmin_neg good_b64
  refine own_mono (e0 := b64.qmin - 1) good_b64 (by decide) (by decide) (by omega) (by omega) (by omega) ?_
  rw [own_units, own_units, Nat.mul_one, Nat.mul_one]
  exact Nat.mul_le_mul_right _ (by omega)
def own_C : UInt64 := 4741671816366391296
theorem own_C_val : Jvm.FP.Core.val64 own_C = .fin false 8388608000000000 (-23) := by decide +kernel
theorem own_C_P : own_P own_C := ⟨_, _, own_C_val⟩
theorem own_C_z : 0 < own_z own_C := by decide +kernel
def own_T (n : Int64) : UInt64 := Jvm.FP.Core.ddiv (Jvm.FP.Core.l2d n) own_C
theorem own_T_mono {n n' : Int64} (h : 0 ≤ n.toInt) (h' : n.toInt ≤ n'.toInt) : own_z (own_T n) ≤ own_z (own_T n') :=
  own_div (own_l_P h) own_C_P (own_l_P (Int.le_trans h h')) own_C_P own_C_z own_C_z (own_l_mono h h') (Nat.le_refl _)
theorem own_T_one : 0 < own_z (own_T 1) := by decide +kernel
theorem own_T_max : own_z (own_T 9223372036854775807) < Jvm.FP.Core.b64.tails * 2 ^ (Jvm.FP.Core.b64.exps - 2) := by decide +kernel
theorem own_max64 (n : Int64) : n.toInt ≤ (9223372036854775807 : Int64).toInt := by
  have h := Int64.toInt_lt n
  have e : (9223372036854775807 : Int64).toInt = 9223372036854775807 := rfl
  rw [e]; omega
theorem own_T_pos {n : Int64} (h : 1 ≤ n.toInt) : 0 < own_z (own_T n) :=
  Nat.lt_of_lt_of_le own_T_one (own_T_mono (n := 1) (by decide) h)
theorem own_T_P {n : Int64} (h : 1 ≤ n.toInt) : own_P (own_T n) := by
  obtain ⟨c, q, hl⟩ := own_l_P (n := n) (by omega)
  exact own_top (own_quot hl own_C_val own_C_z).2 (Nat.lt_of_le_of_lt (own_T_mono (by omega) (own_max64 n)) own_T_max)
def own_r (x : Int64) (n : Int64) : UInt64 := Jvm.FP.Core.ddiv (Jvm.FP.Core.l2d x) (own_T n)
theorem own_r_mono {x x' n n' : Int64} (hx : 0 ≤ x.toInt) (hx' : x.toInt ≤ x'.toInt) (hn : 1 ≤ n'.toInt) (hn' : n'.toInt ≤ n.toInt) : own_z (own_r x n) ≤ own_z (own_r x' n') :=
  own_div (own_l_P hx) (own_T_P (Int.le_trans hn hn')) (own_l_P (Int.le_trans hx hx')) (own_T_P hn) (own_T_pos (Int.le_trans hn hn')) (own_T_pos hn) (own_l_mono hx hx') (own_T_mono (by omega) hn')
open Jvm.FP.Core in
theorem own_r_val {x n : Int64} (hx : 0 ≤ x.toInt) (hn : 1 ≤ n.toInt) : ∃ c d e, (x = 0 → c = 0) ∧ 0 < d ∧ val64 (own_r x n) = roundRatio b64 false c d e := by
  obtain ⟨d, r, ht⟩ := own_T_P hn
  by_cases h0 : x = 0
  · subst h0
    have hz : val64 (l2d 0) = .fin false 0 b64.qmin := by decide +kernel
    obtain ⟨hd, he⟩ := own_quot hz ht (own_T_pos hn)
    exact ⟨_, _, _, fun _ => rfl, hd, he⟩
  · obtain ⟨c, q, hl⟩ := own_l_P hx
    obtain ⟨hd, he⟩ := own_quot hl ht (own_T_pos hn)
    exact ⟨_, _, _, fun h => absurd h h0, hd, he⟩
open Jvm.FP.Core in
theorem own_r_ne {x n : Int64} (hx : 0 ≤ x.toInt) (hn : 1 ≤ n.toInt) : val64 (own_r x n) ≠ .nan ∧ zval b64 (val64 (own_r x n)) = (own_z (own_r x n) : Int) := by
  obtain ⟨c, d, e, -, -, h⟩ := own_r_val hx hn
  refine ⟨by rw [h]; exact roundRatio_ne_nan b64 false c d e, ?_⟩
  show signed (sgn (val64 (own_r x n))) (zmag b64 (val64 (own_r x n))) = (zmag b64 (val64 (own_r x n)) : Int)
  rw [h, sgn_roundRatio]
  rfl
open Jvm.FP.Core in
theorem own_r_zero {n : Int64} (hn : 1 ≤ n.toInt) : own_z (own_r 0 n) = 0 := by
  obtain ⟨c, d, e, h0, -, h⟩ := own_r_val (x := 0) (by decide) hn
  show zmag b64 (val64 (own_r 0 n)) = 0
  rw [h, h0 rfl]
  show zmag b64 (if (0 : Nat) = 0 then .fin false 0 b64.qmin else _) = 0
  rw [if_pos rfl]
  show inUnits 0 b64.qmin b64.qmin = 0
  rw [own_units, Nat.zero_mul]
theorem own_r_low : 0 < own_z (own_r 1 9223372036854775807) := by decide +kernel
theorem own_r_pos {x n : Int64} (hx : 1 ≤ x.toInt) (hn : 1 ≤ n.toInt) : 0 < own_z (own_r x n) :=
  Nat.lt_of_lt_of_le own_r_low (own_r_mono (x := 1) (by decide) hx hn (own_max64 n))
theorem own_zv0 : Jvm.FP.Core.val64 0 ≠ .nan ∧ Jvm.FP.Core.zval Jvm.FP.Core.b64 (Jvm.FP.Core.val64 0) = 0 := ⟨by decide +kernel, Jvm.FP.Core.zval64_zero⟩
open Jvm.FP.Core in
theorem own_cmp {a b : UInt64} (ha : val64 a ≠ .nan) (hb : val64 b ≠ .nan) : Jvm.FP.dcmp a b = some (compare (zval b64 (val64 a)) (zval b64 (val64 b))) := dcmp_zval ha hb
/-- the four comparisons -/
theorem own_sign0 {n : Int64} (hn : 1 ≤ n.toInt) : cmpValue (Jvm.FP.dcmp (own_r 0 n) 0) .l = 0 := by
  have h := own_r_ne (x := 0) (by decide) hn
  rw [own_cmp h.1 own_zv0.1, h.2, own_zv0.2, own_r_zero hn]; rfl
theorem own_sign1 {x n : Int64} (hx : 1 ≤ x.toInt) (hn : 1 ≤ n.toInt) : cmpValue (Jvm.FP.dcmp (own_r x n) 0) .l = 1 := by
  have h := own_r_ne (x := x) (by omega) hn
  have k := own_r_pos hx hn
  rw [own_cmp h.1 own_zv0.1, h.2, own_zv0.2, (Jvm.FP.Core.compare_gt_iff _ _).mpr (by omega)]; rfl
theorem own_le {x x' n n' : Int64} (hx : 0 ≤ x.toInt) (hx' : x.toInt ≤ x'.toInt) (hn : 1 ≤ n'.toInt) (hn' : n'.toInt ≤ n.toInt) : ¬ 0 < cmpValue (Jvm.FP.dcmp (own_r x n) (own_r x' n')) .g ∧ ¬ cmpValue (Jvm.FP.dcmp (own_r x' n') (own_r x n)) .l < 0 := by
  have h1 := own_r_ne (x := x) hx (Int.le_trans hn hn')
  have h2 := own_r_ne (x := x') (Int.le_trans hx hx') hn
  have k := own_r_mono hx hx' hn hn'
  rw [own_cmp h1.1 h2.1, own_cmp h2.1 h1.1, h1.2, h2.2]
  generalize own_z (own_r x n) = u at *
  generalize own_z (own_r x' n') = v at *
  rcases Nat.lt_or_eq_of_le k with h | h
  · rw [(Jvm.FP.Core.compare_lt_iff _ _).mpr (by omega), (Jvm.FP.Core.compare_gt_iff _ _).mpr (by omega)]; decide
  · rw [(Jvm.FP.Core.compare_eq_iff _ _).mpr (by omega), (Jvm.FP.Core.compare_eq_iff _ _).mpr (by omega)]; decide
open Jvm.FP.Core in
theorem own_exact {k n : Int64} (h1 : 1 ≤ k.toInt) (h2 : k.toInt ≤ 1048576) (h3 : n.toInt = k.toInt * 1000000000) : own_T n = l2d k := by
  have hw : Whole n.toInt (val64 (l2d n)) := l2d_int (by omega)
  obtain ⟨c, q, hl⟩ := own_l_P (n := n) (by omega)
  have hq := (own_quot hl own_C_val own_C_z).2
  have hk : val64 (own_T n) = val64 (l2d k) := by
    show val64 (ddiv (l2d n) own_C) = _
    rw [hq, own_l_round (n := k) (by omega)]
    refine roundRatio_congr (by decide) (by decide) ?_
    rw [hl] at hw
    have hw' : ((c * 2 ^ q.toNat : Nat) : Int) = n.toInt * ((2 ^ (-q).toNat : Nat) : Int) := hw
    obtain ⟨K, hK⟩ : ∃ K : Nat, k.toInt = (K : Int) := ⟨k.toInt.toNat, by omega⟩
    have hN : n.toInt = ((K * 1000000000 : Nat) : Int) := by rw [h3, hK]; omega
    rw [hN, ← Int.natCast_mul] at hw'
    have hw2 : c * 2 ^ q.toNat = K * 1000000000 * 2 ^ (-q).toNat := Int.ofNat.inj hw'
    rw [hK, Int.natAbs_natCast, Nat.mul_one]
    obtain ⟨u, v, w1, w2, w3⟩ : ∃ u v : Nat, (q - -23 - 0).toNat = u ∧ (0 - (q - -23)).toNat = v ∧ q.toNat + v + 23 = (-q).toNat + u := ⟨_, _, rfl, rfl, by omega⟩
    rw [w1, w2]
    refine Nat.eq_of_mul_eq_mul_right (Nat.two_pow_pos (-q).toNat) ?_
    calc c * 2 ^ u * 2 ^ (-q).toNat = c * 2 ^ ((-q).toNat + u) := by rw [Nat.pow_add]; ac_rfl
      _ = c * 2 ^ (q.toNat + v + 23) := by rw [w3]
      _ = c * 2 ^ q.toNat * 2 ^ v * 8388608 := by rw [Nat.pow_add, Nat.pow_add, show (2 : Nat) ^ 23 = 8388608 from rfl]; ac_rfl
      _ = K * 1000000000 * 2 ^ (-q).toNat * 2 ^ v * 8388608 := by rw [hw2]
      _ = K * (1000000000 * 8388608) * 2 ^ v * 2 ^ (-q).toNat := by ac_rfl
      _ = K * 8388608000000000 * 2 ^ v * 2 ^ (-q).toNat := rfl
  exact val64_inj (by rw [hk]; obtain ⟨c', q', e⟩ := own_l_P (n := k) (by omega); rw [e]; exact Datum.noConfusion) hk
theorem own_eq {x k n : Int64} (hx : 0 ≤ x.toInt) (h1 : 1 ≤ k.toInt) (h2 : k.toInt ≤ 1048576) (h3 : n.toInt = k.toInt * 1000000000) : cmpValue (Jvm.FP.dcmp (own_r x n) (Jvm.FP.Core.ddiv (Jvm.FP.Core.l2d x) (Jvm.FP.Core.l2d k))) .l = 0 := by
  have e : own_r x n = Jvm.FP.Core.ddiv (Jvm.FP.Core.l2d x) (Jvm.FP.Core.l2d k) := by show Jvm.FP.Core.ddiv _ (own_T n) = _; rw [own_exact h1 h2 h3]
  rw [← e, own_cmp (own_r_ne hx (by omega)).1 (own_r_ne hx (by omega)).1, (Jvm.FP.Core.compare_eq_iff _ _).mpr rfl]; rfl
theorem own_sta_keep {Z : State} {h h' : Heap} {C n d : String} {v : Value} {ws : List Addr} (F : Sta Z h C n d v) (K : Keep h h' ws) (hs : ∀ x ∈ ws, ∀ cell : Cell, h[x]? = some cell → cell.vm.isStatics = false) : Sta Z h' C n d v := by
  obtain ⟨cf, i, k, f, st, cell, h1, h2, h3, h4, h5, h6, r⟩ := F
  exact ⟨cf, i, k, f, st, cell, h1, h2, h3, h4, K.2.1 _ _ h5 (fun q => by have q' := hs _ q _ h5; rw [q'] at h6; cases h6), h6, r⟩
theorem own_wS {Z : State} {a0 : Array Value} (hw : ∀ d ∈ tables_1, d.before a0 Z = true) : ∀ a ∈ Bundle.stringAtoms, a.before a0 Z = true := fun a ha => hw a (List.mem_of_mem_drop (List.mem_of_mem_take (show a ∈ (tables_1.drop 36).take 7 from ha)))
theorem own_m15 (x : Int32) : 0 ≤ (x &&& (15 : Int32)).toInt ∧ (x &&& (15 : Int32)).toInt < 16 := by
  have h := c_mask x 15 4 (by decide) (by decide)
  omega
theorem own_neg {x : Int32} (h : 0 ≤ x.toInt) : ¬ x < 0 := by
  have e : (0 : Int32).toInt = 0 := rfl
  rw [Int32.lt_iff_toInt_lt]; omega
theorem own_cap {x : Int32} (h0 : 0 ≤ x.toInt) (h1 : x.toInt < 16) : x.toNatClampNeg ≤ 15 := by
  show x.toInt.toNat ≤ 15
  omega
theorem own_and64 (x c : Int64) (hc : 0 ≤ c.toInt) : 0 ≤ (x &&& c).toInt ∧ (x &&& c).toInt ≤ c.toInt := by
  have h1 : (x &&& c).toInt = (x.toBitVec &&& c.toBitVec).toInt := rfl
  have h2 : c.toInt = c.toBitVec.toInt := rfl
  rw [h2] at hc
  rw [h1, h2]
  have h3 : (x.toBitVec &&& c.toBitVec).toNat ≤ c.toBitVec.toNat := by rw [BitVec.toNat_and]; exact Nat.and_le_right
  rw [BitVec.toInt_eq_toNat_cond] at hc ⊢
  rw [BitVec.toInt_eq_toNat_cond]
  split at hc <;> (try split) <;> (try split) <;> omega
def own_max (a b : Int64) : Int64 := if a < b then b else a
theorem own_max1 {a n : Int64} (ha : a.toInt ≤ 4611686018427387903) (h : own_max a 1 = n) : 1 ≤ n.toInt ∧ n.toInt ≤ 4611686018427387903 := by
  have e1 : (1 : Int64).toInt = 1 := rfl
  rw [← h]
  show 1 ≤ (if a < 1 then (1 : Int64) else a).toInt ∧ (if a < 1 then (1 : Int64) else a).toInt ≤ 4611686018427387903
  by_cases q : a < 1
  · rw [if_pos q, e1]; omega
  · rw [if_neg q]
    rw [Int64.lt_iff_toInt_lt, e1] at q
    omega
theorem own_kk (x : Int64) : 1 ≤ ((x &&& (1048575 : Int64)) + (1 : Int64)).toInt ∧ ((x &&& (1048575 : Int64)) + (1 : Int64)).toInt ≤ 1048576 := by
  have e : (1048575 : Int64).toInt = 1048575 := rfl
  have e1 : (1 : Int64).toInt = 1 := rfl
  have h := own_and64 x 1048575 (by decide)
  rw [e] at h
  rw [Jvm.FP.Core.int64_add (by rw [e1]; omega) (by rw [e1]; omega), e1]; omega
theorem own_kn {k : Int64} (h1 : 1 ≤ k.toInt) (h2 : k.toInt ≤ 1048576) : (k * (1000000000 : Int64)).toInt = k.toInt * 1000000000 := by
  have e : (1000000000 : Int64).toInt = 1000000000 := rfl
  rw [Jvm.FP.Core.int64_mul (by rw [e]; omega) (by rw [e]; omega), e]
theorem own_nm {a b : Int64} (h1 : 1 ≤ a.toInt) (h2 : a.toInt ≤ 4611686018427387903) (h3 : 0 ≤ b.toInt) (h4 : b.toInt ≤ 4611686018427387903) : (a + b).toInt = a.toInt + b.toInt := Jvm.FP.Core.int64_add (by omega) (by omega)
theorem own_M (x : Int64) : 0 ≤ (x &&& (4611686018427387903 : Int64)).toInt ∧ (x &&& (4611686018427387903 : Int64)).toInt ≤ 4611686018427387903 := own_and64 x _ (by decide)
theorem own_x64 {x : Int32} (h : 0 ≤ x.toInt) : 0 ≤ x.toInt64.toInt := by rw [Int32.toInt_toInt64]; exact h
theorem own_nT {z : Int64} (h : 1 ≤ z.toInt) : Jvm.Free.Fl.NoNaN64 (Jvm.FP.ddiv (Jvm.FP.l2d z) (4741671816366391296 : UInt64)) := Jvm.Free.Fl.val64_no.mpr (by
  obtain ⟨c, q, e⟩ := own_T_P h
  have e' : Jvm.FP.Core.val64 (Jvm.FP.ddiv (Jvm.FP.l2d z) (4741671816366391296 : UInt64)) = .fin false c q := e
  rw [e']; exact Jvm.FP.Core.Datum.noConfusion)
theorem own_nr {x z : Int64} (hx : 0 ≤ x.toInt) (h : 1 ≤ z.toInt) : Jvm.Free.Fl.NoNaN64 (Jvm.FP.ddiv (Jvm.FP.l2d x) (own_T z)) := Jvm.Free.Fl.val64_no.mpr (own_r_ne hx h).1
theorem own_nK {x k n : Int64} (hx : 0 ≤ x.toInt) (h1 : 1 ≤ k.toInt) (h2 : k.toInt ≤ 1048576) (h3 : n.toInt = k.toInt * 1000000000) : Jvm.Free.Fl.NoNaN64 (Jvm.FP.ddiv (Jvm.FP.l2d x) (Jvm.FP.l2d k)) := by
  have q := own_nr (z := n) hx (by omega)
  rw [own_exact h1 h2 h3] at q
  exact q
theorem pn_1 : plainFor (⟨"java/lang/Math", "max", "(JJ)J"⟩ : MethodName) = true := by decide +kernel
theorem ef_1_JJ (m : MethodId) (x0 : Int64) (x1 : Int64) : entryFrame m #[(.long x0), (.long x1)] 4 = mkF m 0 #[.val (.long x0), .second, .val (.long x1), .second] [] := by first | (simp [entryFrame, mkF, argsToLocals, Value.category]; done) | rfl
theorem d1_0 : decode jdk_29_method_66_code 0 = .ok (.lload_n 0, 1) := by decide +kernel
theorem d1_1 : decode jdk_29_method_66_code 1 = .ok (.lload_n 2, 1) := by decide +kernel
theorem d1_2 : decode jdk_29_method_66_code 2 = .ok (.lcmp, 1) := by decide +kernel
theorem d1_3 : decode jdk_29_method_66_code 3 = .ok (.ifCond .lt 7, 3) := by decide +kernel
theorem d1_6 : decode jdk_29_method_66_code 6 = .ok (.lload_n 0, 1) := by decide +kernel
theorem d1_7 : decode jdk_29_method_66_code 7 = .ok (.goto 4, 3) := by decide +kernel
theorem d1_10 : decode jdk_29_method_66_code 10 = .ok (.lload_n 2, 1) := by decide +kernel
theorem d1_11 : decode jdk_29_method_66_code 11 = .ok (.lreturn, 1) := by decide +kernel
def Q_rmX (Z : State) (p1 : Int64) (p2 : Int64) (nn : Int64) (h0 : Heap) (n0 : Nat) (v : Option Value) (h : Heap) (L : List Loc) : Prop := v = some (.long nn) ∧ Fr n0 L ∧ h = h0
set_option maxRecDepth 65536 in
set_option maxHeartbeats 40000000 in
theorem rmX (l : Launch) (Z : State) (a0 : Array Value) (hw : ∀ d ∈ tables_1, d.before a0 Z = true) (ws : List Jvm.Cond) (p1 : Int64) (p2 : Int64) (nn : Int64) (h0 : Heap) (n0 : Nat) (Z0 : n0 ≤ h0.size) (hn : own_max p1 p2 = nn) :
    MetFree l (⟨"java/lang/Math", "max", "(JJ)J"⟩ : MethodName) (head1 (Jvm.Cond.code (⟨"java/lang/Math", "max", "(JJ)J"⟩ : MethodName) jdk_29_method_66_code 4 (some .long) :: ws) ({ frames := 0, cells := 0, slots := 0, locals := 0 } : Room)) (fun a U => a = #[(.long p1), (.long p2)] ∧ Z.Warmed39 U.vm ∧ U.heap = h0) (fun _ _ _ _ _ => True) (fun _ U o U' => ∃ v L, o = .returned v ∧ Q_rmX Z p1 p2 nn h0 n0 v U'.heap L ∧ FrameEnd U o U' L ({ frames := 0, cells := 0, slots := 0, locals := 0 } : Room).cells ({ frames := 0, cells := 0, slots := 0, locals := 0 } : Room).slots) := by
  refine MetFree.of_bodySF (Jvm.Free.JP.mathPlain rfl (by decide +kernel)) hisR ?_
  intro p e s m args below meth c s₁ Bd hml0 hP hK
  obtain ⟨rfl, hZ, hh⟩ := hP
  have hx := Bd.exec
  have hby := Bd.bytes
  have hml : c.maxLocals = 4 := hml0
  have hown : s.vm.findClass "java/lang/Math" = some m.cls := findClass_of_methodNamed Bd.named
  have hnm := (name_of_methodNamed Bd.named Bd.method).1
  have X0 : Stand p l e ({ frames := 0, cells := 0, slots := 0, locals := 0 } : Room) s m #[(.long p1), (.long p2)] below meth c s₁ [] 0 0 := Stand.of_body Bd
  have e0 : s₁.heap = h0 := by rw [← hh, Bd.state]; rfl
  have N0 := Fr.nil n0
  have pre0 : ∀ t, Steps p.tables e below (s₁.setTop (mkF m 0 #[.val (.long p1), .second, .val (.long p2), .second] [])) t → Steps p.tables e below (s₁.setTop (entryFrame m #[(.long p1), (.long p2)] 4)) t := fun t k => castTop (ef_1_JJ m p1 p2) k
  by_cases hc : p1 < p2
  · obtain ⟨fs, hr, hrun, hended, hW, hsame⟩ := X0.leave (v := some (.long p2)) (fun h => by rw [Bd.returns] at h; cases h)
    refine ⟨_, _, pre0 _ ?_, hrun, hended, _, _, rfl, ?_, ⟨_, rfl⟩, hW, hsame.mono (by decide) (by decide)⟩
    · show Steps p.tables e below (s₁.setTop (mkF m 0 #[.val (.long p1), .second, .val (.long p2), .second] [])) _
      refine XS.lloadN X0.here hx rfl (hb hby d1_0) rfl ?_
      show Steps p.tables e below (s₁.setTop (mkF m 1 #[.val (.long p1), .second, .val (.long p2), .second] [(.long p1)])) _
      refine XS.lloadN X0.here hx rfl (hb hby d1_1) rfl ?_
      show Steps p.tables e below (s₁.setTop (mkF m 2 #[.val (.long p1), .second, .val (.long p2), .second] [(.long p2), (.long p1)])) _
      refine XS.lcmp X0.here hx rfl (hb hby d1_2) rfl ?_
      show Steps p.tables e below (s₁.setTop (mkF m 3 #[.val (.long p1), .second, .val (.long p2), .second] [(.int (lcmpW p1 p2))])) _
      refine XS.ifYes X0.here hx rfl (pc0 := 3) (pc' := 10) rfl (hb hby d1_3) rfl ((if0 _ _).trans (tlt ((lw_lt p1 p2).mpr hc)).1) (by decide) (by decide) ?_
      show Steps p.tables e below (s₁.setTop (mkF m 10 #[.val (.long p1), .second, .val (.long p2), .second] [])) _
      refine XS.lloadN X0.here hx rfl (hb hby d1_10) rfl ?_
      show Steps p.tables e below (s₁.setTop (mkF m 11 #[.val (.long p1), .second, .val (.long p2), .second] [(.long p2)])) _
      jvm_step X0.here [X0.here.top, hx, (hb hby d1_11), X0.method', Bd.returns, narrow]
      first | (intro acts; rw [hr _ acts rfl rfl rfl]) | rw [hr _ _ rfl rfl rfl]
      exact Steps.refl _
    · show Q_rmX Z p1 p2 nn h0 n0 _ s₁.heap _
      rw [e0]
      exact ⟨by rw [← hn, show own_max p1 p2 = p2 from if_pos hc], N0, rfl⟩
  · obtain ⟨fs, hr, hrun, hended, hW, hsame⟩ := X0.leave (v := some (.long p1)) (fun h => by rw [Bd.returns] at h; cases h)
    refine ⟨_, _, pre0 _ ?_, hrun, hended, _, _, rfl, ?_, ⟨_, rfl⟩, hW, hsame.mono (by decide) (by decide)⟩
    · show Steps p.tables e below (s₁.setTop (mkF m 0 #[.val (.long p1), .second, .val (.long p2), .second] [])) _
      refine XS.lloadN X0.here hx rfl (hb hby d1_0) rfl ?_
      show Steps p.tables e below (s₁.setTop (mkF m 1 #[.val (.long p1), .second, .val (.long p2), .second] [(.long p1)])) _
      refine XS.lloadN X0.here hx rfl (hb hby d1_1) rfl ?_
      show Steps p.tables e below (s₁.setTop (mkF m 2 #[.val (.long p1), .second, .val (.long p2), .second] [(.long p2), (.long p1)])) _
      refine XS.lcmp X0.here hx rfl (hb hby d1_2) rfl ?_
      show Steps p.tables e below (s₁.setTop (mkF m 3 #[.val (.long p1), .second, .val (.long p2), .second] [(.int (lcmpW p1 p2))])) _
      refine XS.ifNo X0.here hx rfl (hb hby d1_3) rfl ((if0 _ _).trans (flt (fun q => hc ((lw_lt p1 p2).mp q))).1) ?_
      show Steps p.tables e below (s₁.setTop (mkF m 6 #[.val (.long p1), .second, .val (.long p2), .second] [])) _
      refine XS.lloadN X0.here hx rfl (hb hby d1_6) rfl ?_
      show Steps p.tables e below (s₁.setTop (mkF m 7 #[.val (.long p1), .second, .val (.long p2), .second] [(.long p1)])) _
      refine XS.goto X0.here hx rfl (pc0 := 7) (pc' := 11) rfl (hb hby d1_7) (by decide) (by decide) ?_
      show Steps p.tables e below (s₁.setTop (mkF m 11 #[.val (.long p1), .second, .val (.long p2), .second] [(.long p1)])) _
      jvm_step X0.here [X0.here.top, hx, (hb hby d1_11), X0.method', Bd.returns, narrow]
      first | (intro acts; rw [hr _ acts rfl rfl rfl]) | rw [hr _ _ rfl rfl rfl]
      exact Steps.refl _
    · show Q_rmX Z p1 p2 nn h0 n0 _ s₁.heap _
      rw [e0]
      exact ⟨by rw [← hn, show own_max p1 p2 = p1 from if_neg hc], N0, rfl⟩
theorem pn_4 : plainName "java/util/AbstractCollection" = true := by first | (simp [plainName, overriddenIn]; done) | decide +kernel
theorem ef_4_R (m : MethodId) (x0 : Addr) : entryFrame m #[(.ref x0)] 1 = mkF m 0 #[.val (.ref x0)] [] := by first | (simp [entryFrame, mkF, argsToLocals, Value.category]; done) | rfl
theorem d4_0 : decode jdk_22_method_1_code 0 = .ok (.aload_n 0, 1) := by decide +kernel
theorem d4_1 : decode jdk_22_method_1_code 1 = .ok (.invokespecial 1, 3) := by decide +kernel
theorem d4_4 : decode jdk_22_method_1_code 4 = .ok (.return_, 1) := by decide +kernel
def Q_rmD (Z : State) (a1 : Addr) (h0 : Heap) (n0 : Nat) (v : Option Value) (h : Heap) (L : List Loc) : Prop := v = none ∧ Fr n0 L ∧ h = h0
set_option maxRecDepth 65536 in
set_option maxHeartbeats 40000000 in
theorem rmD (l : Launch) (Z : State) (a0 : Array Value) (hw : ∀ d ∈ tables_1, d.before a0 Z = true) (ws : List Jvm.Cond) (a1 : Addr) (h0 : Heap) (n0 : Nat) (Z0 : n0 ≤ h0.size) :
    MetFree l (⟨"java/util/AbstractCollection", "<init>", "()V"⟩ : MethodName) (head1 (Jvm.Cond.code (⟨"java/util/AbstractCollection", "<init>", "()V"⟩ : MethodName) jdk_22_method_1_code 1 none :: ws) ({ frames := 1, cells := 0, slots := 0, locals := 12 } : Room)) (fun a U => a = #[(.ref a1)] ∧ Z.Warmed39 U.vm ∧ U.heap = h0) (fun _ _ _ _ _ => True) (fun _ U o U' => ∃ v L, o = .returned v ∧ Q_rmD Z a1 h0 n0 v U'.heap L ∧ FrameEnd U o U' L ({ frames := 1, cells := 0, slots := 0, locals := 12 } : Room).cells ({ frames := 1, cells := 0, slots := 0, locals := 12 } : Room).slots) := by
  refine MetFree.of_bodySF (plainFor_of_name pn_4) hisR ?_
  intro p e s m args below meth c s₁ Bd hml0 hP hK
  obtain ⟨rfl, hZ, hh⟩ := hP
  have hx := Bd.exec
  have hby := Bd.bytes
  have hml : c.maxLocals = 1 := hml0
  have hown : s.vm.findClass "java/util/AbstractCollection" = some m.cls := findClass_of_methodNamed Bd.named
  have hnm := (name_of_methodNamed Bd.named Bd.method).1
  have X0 : Stand p l e ({ frames := 1, cells := 0, slots := 0, locals := 12 } : Room) s m #[(.ref a1)] below meth c s₁ [] 0 0 := Stand.of_body Bd
  have e0 : s₁.heap = h0 := by rw [← hh, Bd.state]; rfl
  have N0 := Fr.nil n0
  have pre0 : ∀ t, Steps p.tables e below (s₁.setTop (mkF m 0 #[.val (.ref a1)] [])) t → Steps p.tables e below (s₁.setTop (entryFrame m #[(.ref a1)] 1)) t := fun t k => castTop (ef_4_R m a1) k
  obtain ⟨T1, X1, e1, st1⟩ := initO X0 hx hZ hown (hw _ (List.mem_of_getElem? (i := 24) rfl)) (hw _ (List.mem_of_getElem? (i := 25) rfl)) (hw _ (List.mem_of_getElem? (i := 26) rfl)) e0 (g := (mkF m 1 #[.val (.ref a1)] [(.ref a1)])) rfl (by rw [hml]; rfl) rfl (hb hby d4_1) (by decide) (W := 0) (by show 2 * 0 + _ ≤ _; exact Nat.le_of_eq rfl) (by decide)
  obtain ⟨fs, hr, hrun, hended, hW, hsame⟩ := X1.leave (v := none) (fun _ => rfl)
  refine ⟨_, _, pre0 _ ?_, hrun, hended, _, _, rfl, ?_, ⟨_, rfl⟩, hW, hsame.mono (by decide) (by decide)⟩
  · show Steps p.tables e below (s₁.setTop (mkF m 0 #[.val (.ref a1)] [])) _
    refine XS.aloadN X0.here hx rfl (hb hby d4_0) rfl rfl ?_
    show Steps p.tables e below (s₁.setTop (mkF m 1 #[.val (.ref a1)] [(.ref a1)])) _
    refine st1 _ ?_
    show Steps p.tables e below (T1.setTop (mkF m 4 #[.val (.ref a1)] [])) _
    exact X1.returnOut hx Bd.returns (hb hby d4_4) hr
  · show Q_rmD Z a1 h0 n0 _ T1.heap _
    rw [e1]
    exact ⟨rfl, N0, rfl⟩
theorem pn_7 : plainName "java/lang/Record" = true := by first | (simp [plainName, overriddenIn]; done) | decide +kernel
theorem ef_7_R (m : MethodId) (x0 : Addr) : entryFrame m #[(.ref x0)] 1 = mkF m 0 #[.val (.ref x0)] [] := by first | (simp [entryFrame, mkF, argsToLocals, Value.category]; done) | rfl
theorem d7_0 : decode jdk_30_method_1_code 0 = .ok (.aload_n 0, 1) := by decide +kernel
theorem d7_1 : decode jdk_30_method_1_code 1 = .ok (.invokespecial 1, 3) := by decide +kernel
theorem d7_4 : decode jdk_30_method_1_code 4 = .ok (.return_, 1) := by decide +kernel
def Q_rmR (Z : State) (a1 : Addr) (h0 : Heap) (n0 : Nat) (v : Option Value) (h : Heap) (L : List Loc) : Prop := v = none ∧ Fr n0 L ∧ h = h0
set_option maxRecDepth 65536 in
set_option maxHeartbeats 40000000 in
theorem rmR (l : Launch) (Z : State) (a0 : Array Value) (hw : ∀ d ∈ tables_1, d.before a0 Z = true) (ws : List Jvm.Cond) (a1 : Addr) (h0 : Heap) (n0 : Nat) (Z0 : n0 ≤ h0.size) :
    MetFree l (⟨"java/lang/Record", "<init>", "()V"⟩ : MethodName) (head1 (Jvm.Cond.code (⟨"java/lang/Record", "<init>", "()V"⟩ : MethodName) jdk_30_method_1_code 1 none :: ws) ({ frames := 1, cells := 0, slots := 0, locals := 12 } : Room)) (fun a U => a = #[(.ref a1)] ∧ Z.Warmed39 U.vm ∧ U.heap = h0) (fun _ _ _ _ _ => True) (fun _ U o U' => ∃ v L, o = .returned v ∧ Q_rmR Z a1 h0 n0 v U'.heap L ∧ FrameEnd U o U' L ({ frames := 1, cells := 0, slots := 0, locals := 12 } : Room).cells ({ frames := 1, cells := 0, slots := 0, locals := 12 } : Room).slots) := by
  refine MetFree.of_bodySF (plainFor_of_name pn_7) hisR ?_
  intro p e s m args below meth c s₁ Bd hml0 hP hK
  obtain ⟨rfl, hZ, hh⟩ := hP
  have hx := Bd.exec
  have hby := Bd.bytes
  have hml : c.maxLocals = 1 := hml0
  have hown : s.vm.findClass "java/lang/Record" = some m.cls := findClass_of_methodNamed Bd.named
  have hnm := (name_of_methodNamed Bd.named Bd.method).1
  have X0 : Stand p l e ({ frames := 1, cells := 0, slots := 0, locals := 12 } : Room) s m #[(.ref a1)] below meth c s₁ [] 0 0 := Stand.of_body Bd
  have e0 : s₁.heap = h0 := by rw [← hh, Bd.state]; rfl
  have N0 := Fr.nil n0
  have pre0 : ∀ t, Steps p.tables e below (s₁.setTop (mkF m 0 #[.val (.ref a1)] [])) t → Steps p.tables e below (s₁.setTop (entryFrame m #[(.ref a1)] 1)) t := fun t k => castTop (ef_7_R m a1) k
  obtain ⟨T1, X1, e1, st1⟩ := initO X0 hx hZ hown (hw _ (List.mem_of_getElem? (i := 53) rfl)) (hw _ (List.mem_of_getElem? (i := 25) rfl)) (hw _ (List.mem_of_getElem? (i := 26) rfl)) e0 (g := (mkF m 1 #[.val (.ref a1)] [(.ref a1)])) rfl (by rw [hml]; rfl) rfl (hb hby d7_1) (by decide) (W := 0) (by show 2 * 0 + _ ≤ _; exact Nat.le_of_eq rfl) (by decide)
  obtain ⟨fs, hr, hrun, hended, hW, hsame⟩ := X1.leave (v := none) (fun _ => rfl)
  refine ⟨_, _, pre0 _ ?_, hrun, hended, _, _, rfl, ?_, ⟨_, rfl⟩, hW, hsame.mono (by decide) (by decide)⟩
  · show Steps p.tables e below (s₁.setTop (mkF m 0 #[.val (.ref a1)] [])) _
    refine XS.aloadN X0.here hx rfl (hb hby d7_0) rfl rfl ?_
    show Steps p.tables e below (s₁.setTop (mkF m 1 #[.val (.ref a1)] [(.ref a1)])) _
    refine st1 _ ?_
    show Steps p.tables e below (T1.setTop (mkF m 4 #[.val (.ref a1)] [])) _
    exact X1.returnOut hx Bd.returns (hb hby d7_4) hr
  · show Q_rmR Z a1 h0 n0 _ T1.heap _
    rw [e1]
    exact ⟨rfl, N0, rfl⟩
theorem pn_3 : plainName "java/util/AbstractList" = true := by first | (simp [plainName, overriddenIn]; done) | decide +kernel
theorem ef_3_R (m : MethodId) (x0 : Addr) : entryFrame m #[(.ref x0)] 1 = mkF m 0 #[.val (.ref x0)] [] := by first | (simp [entryFrame, mkF, argsToLocals, Value.category]; done) | rfl
theorem pd_1 : parseMethodDescriptor "()V" = some ⟨[], none⟩ := by decide +kernel
theorem d3_0 : decode jdk_39_method_1_code 0 = .ok (.aload_n 0, 1) := by decide +kernel
theorem d3_1 : decode jdk_39_method_1_code 1 = .ok (.invokespecial 1, 3) := by decide +kernel
theorem d3_4 : decode jdk_39_method_1_code 4 = .ok (.aload_n 0, 1) := by decide +kernel
theorem d3_5 : decode jdk_39_method_1_code 5 = .ok (.iconst 0, 1) := by decide +kernel
theorem d3_6 : decode jdk_39_method_1_code 6 = .ok (.putfield 7, 3) := by decide +kernel
theorem d3_9 : decode jdk_39_method_1_code 9 = .ok (.return_, 1) := by decide +kernel
def Q_rmB (Z : State) (a1 : Addr) (h0 : Heap) (n0 : Nat) (v : Option Value) (h : Heap) (L : List Loc) : Prop := v = none ∧ Fr n0 L ∧ Keep h0 h [a1] ∧ Exa Z h a1 "java/util/ArrayList" ∧ Fld Z h a1 "java/util/ArrayList" "elementData" "[Ljava/lang/Object;" .null
set_option maxRecDepth 65536 in
set_option maxHeartbeats 40000000 in
theorem rmB (l : Launch) (Z : State) (a0 : Array Value) (hw : ∀ d ∈ tables_1, d.before a0 Z = true) (ws : List Jvm.Cond) (a1 : Addr) (h0 : Heap) (n0 : Nat) (Z0 : n0 ≤ h0.size) (E0 : Exa Z h0 a1 "java/util/ArrayList") (F0 : Fld Z h0 a1 "java/util/AbstractList" "modCount" "I" (.int (0 : Int32))) (F1 : Fld Z h0 a1 "java/util/ArrayList" "elementData" "[Ljava/lang/Object;" .null) (g0 : n0 ≤ a1) :
    MetFree l (⟨"java/util/AbstractList", "<init>", "()V"⟩ : MethodName) (head1 (Jvm.Cond.code (⟨"java/util/AbstractList", "<init>", "()V"⟩ : MethodName) jdk_39_method_1_code 1 none :: ws) ({ frames := 2, cells := 0, slots := 0, locals := 24 } : Room)) (fun a U => a = #[(.ref a1)] ∧ Z.Warmed39 U.vm ∧ U.heap = h0) (fun _ _ _ _ _ => True) (fun _ U o U' => ∃ v L, o = .returned v ∧ Q_rmB Z a1 h0 n0 v U'.heap L ∧ FrameEnd U o U' L ({ frames := 2, cells := 0, slots := 0, locals := 24 } : Room).cells ({ frames := 2, cells := 0, slots := 0, locals := 24 } : Room).slots) := by
  refine MetFree.of_bodySF (plainFor_of_name pn_3) hisR ?_
  intro p e s m args below meth c s₁ Bd hml0 hP hK
  obtain ⟨rfl, hZ, hh⟩ := hP
  have hx := Bd.exec
  have hby := Bd.bytes
  have hml : c.maxLocals = 1 := hml0
  have hown : s.vm.findClass "java/util/AbstractList" = some m.cls := findClass_of_methodNamed Bd.named
  have hnm := (name_of_methodNamed Bd.named Bd.method).1
  have X0 : Stand p l e ({ frames := 2, cells := 0, slots := 0, locals := 24 } : Room) s m #[(.ref a1)] below meth c s₁ [] 0 0 := Stand.of_body Bd
  have e0 : s₁.heap = h0 := by rw [← hh, Bd.state]; rfl
  have N0 := Fr.nil n0
  have pre0 : ∀ t, Steps p.tables e below (s₁.setTop (mkF m 0 #[.val (.ref a1)] [])) t → Steps p.tables e below (s₁.setTop (entryFrame m #[(.ref a1)] 1)) t := fun t k => castTop (ef_3_R m a1) k
  obtain ⟨_, _, ⟨T1, L1, k1, n1⟩, -, X1, ⟨Lc1, hQ1, l1, y1, z1⟩, st1⟩ := X0.specialBack hx (y := (⟨"java/util/AbstractCollection", "<init>", "()V"⟩ : MethodName)) rfl hown (mvT hZ (hw _ (List.mem_of_getElem? (i := 18) rfl))) (mvT hZ (hw _ (List.mem_of_getElem? (i := 19) rfl))) (mvT hZ (hw _ (List.mem_of_getElem? (i := 23) rfl))) (by decide) (backOf (W := 0) (rmD l Z a0 hw [] a1 h0 n0 Z0 ) hZ (hw _ (List.mem_of_getElem? (i := 23) rfl)) (hw _ (List.mem_of_getElem? (i := 22) rfl)) (by decide) (by decide)) (g := (mkF m 1 #[.val (.ref a1)] [(.ref a1)])) rfl (by rw [hml]; rfl) (Steps.refl _) (a := a1) (argsL := []) (rest := []) (lenOf pd_1 rfl) rfl (by show 2 * 0 + _ ≤ _; exact Nat.le_of_eq rfl) (hb hby d3_1) (fun _ _ => ⟨rfl, e0, (by decide : 0 + 0 ≤ _), (by decide : 0 + 0 ≤ _)⟩)
  dsimp only [Pt.U, Pt.locs, Pt.cells, Pt.slots] at X1 l1 y1 z1 st1 hQ1
  subst l1 y1 z1
  obtain ⟨rfl, Nq1, e1⟩ := hQ1
  have N1 := Fr.app N0 Nq1
  obtain ⟨T2, h2, X2, e2, W2, st2⟩ := putF X1 hx hZ hown (host := "") (Or.inl (hw _ (List.mem_of_getElem? (i := 27) rfl))) Via.refl e1 F0 E0 (Or.inl (hw _ (List.mem_of_getElem? (i := 28) rfl))) (hw _ (List.mem_of_getElem? (i := 7) rfl)) (ty := .int) (by decide) rfl rfl (g := (mkF m 6 #[.val (.ref a1)] [(.int (0 : Int32)), (.ref a1)])) rfl rfl (hb hby d3_6)
  have E0_2 := E0.wr W2
  have F1_2 := F1.other W2 (Or.inr (slot_ne (Or.inl (hw _ (List.mem_of_getElem? (i := 31) rfl))) (Or.inl (hw _ (List.mem_of_getElem? (i := 28) rfl))) (by decide) (t := (.array (.object "java/lang/Object"))) (t' := .int) (by decide) (by decide)))
  have Z2 : n0 ≤ h2.size := Nat.le_trans Z0 (Keep.of_wr W2).1
  have Kp2 : Keep h0 h2 [a1] := (Keep.refl h0 [a1]).wr W2 (Or.inl (by simp))
  have Fw2 : Fld Z h2 a1 "java/util/AbstractList" "modCount" "I" (.int (0 : Int32)) := F0.same W2
  have N2 := Fr.snoc X2 N1 g0
  obtain ⟨fs, hr, hrun, hended, hW, hsame⟩ := X2.leave (v := none) (fun _ => rfl)
  refine ⟨_, _, pre0 _ ?_, hrun, hended, _, _, rfl, ?_, ⟨_, rfl⟩, hW, hsame.mono (by decide) (by decide)⟩
  · show Steps p.tables e below (s₁.setTop (mkF m 0 #[.val (.ref a1)] [])) _
    refine XS.aloadN X0.here hx rfl (hb hby d3_0) rfl rfl ?_
    show Steps p.tables e below (s₁.setTop (mkF m 1 #[.val (.ref a1)] [(.ref a1)])) _
    refine st1.trans ?_
    show Steps p.tables e below (T1.setTop (mkF m 4 #[.val (.ref a1)] [])) _
    refine XS.aloadN X1.here hx rfl (hb hby d3_4) rfl rfl ?_
    show Steps p.tables e below (T1.setTop (mkF m 5 #[.val (.ref a1)] [(.ref a1)])) _
    refine XS.iconst X1.here hx rfl (hb hby d3_5) ?_
    show Steps p.tables e below (T1.setTop (mkF m 6 #[.val (.ref a1)] [(.int (0 : Int32)), (.ref a1)])) _
    refine st2 _ ?_
    show Steps p.tables e below (T2.setTop (mkF m 9 #[.val (.ref a1)] [])) _
    exact X2.returnOut hx Bd.returns (hb hby d3_9) hr
  · show Q_rmB Z a1 h0 n0 _ T2.heap _
    rw [e2]
    exact ⟨rfl, N2, Kp2, E0_2, F1_2⟩
theorem pn_2 : plainName "java/util/ArrayList" = true := by first | (simp [plainName, overriddenIn]; done) | decide +kernel
theorem ef_2_R (m : MethodId) (x0 : Addr) : entryFrame m #[(.ref x0)] 1 = mkF m 0 #[.val (.ref x0)] [] := by first | (simp [entryFrame, mkF, argsToLocals, Value.category]; done) | rfl
theorem d2_0 : decode jdk_38_method_2_code 0 = .ok (.aload_n 0, 1) := by decide +kernel
theorem d2_1 : decode jdk_38_method_2_code 1 = .ok (.invokespecial 1, 3) := by decide +kernel
theorem d2_4 : decode jdk_38_method_2_code 4 = .ok (.aload_n 0, 1) := by decide +kernel
theorem d2_5 : decode jdk_38_method_2_code 5 = .ok (.getstatic 39, 3) := by decide +kernel
theorem d2_8 : decode jdk_38_method_2_code 8 = .ok (.putfield 9, 3) := by decide +kernel
theorem d2_11 : decode jdk_38_method_2_code 11 = .ok (.return_, 1) := by decide +kernel
def Q_rmA (Z : State) (a1 : Addr) (dc : Addr) (h0 : Heap) (n0 : Nat) (v : Option Value) (h : Heap) (L : List Loc) : Prop := v = none ∧ Fr n0 L ∧ Keep h0 h [a1] ∧ Exa Z h a1 "java/util/ArrayList"
set_option maxRecDepth 65536 in
set_option maxHeartbeats 40000000 in
theorem rmA (l : Launch) (Z : State) (a0 : Array Value) (hw : ∀ d ∈ tables_1, d.before a0 Z = true) (ws : List Jvm.Cond) (a1 : Addr) (dc : Addr) (h0 : Heap) (n0 : Nat) (Z0 : n0 ≤ h0.size) (E0 : Exa Z h0 a1 "java/util/ArrayList") (F0 : Fld Z h0 a1 "java/util/AbstractList" "modCount" "I" (.int (0 : Int32))) (F1 : Fld Z h0 a1 "java/util/ArrayList" "elementData" "[Ljava/lang/Object;" .null) (S0 : Sta Z h0 "java/util/ArrayList" "DEFAULTCAPACITY_EMPTY_ELEMENTDATA" "[Ljava/lang/Object;" (.ref dc)) (g0 : n0 ≤ a1) :
    MetFree l (⟨"java/util/ArrayList", "<init>", "()V"⟩ : MethodName) (head1 (Jvm.Cond.code (⟨"java/util/ArrayList", "<init>", "()V"⟩ : MethodName) jdk_38_method_2_code 1 none :: ws) ({ frames := 3, cells := 0, slots := 0, locals := 36 } : Room)) (fun a U => a = #[(.ref a1)] ∧ Z.Warmed39 U.vm ∧ U.heap = h0) (fun _ _ _ _ _ => True) (fun _ U o U' => ∃ v L, o = .returned v ∧ Q_rmA Z a1 dc h0 n0 v U'.heap L ∧ FrameEnd U o U' L ({ frames := 3, cells := 0, slots := 0, locals := 36 } : Room).cells ({ frames := 3, cells := 0, slots := 0, locals := 36 } : Room).slots) := by
  refine MetFree.of_bodySF (plainFor_of_name pn_2) hisR ?_
  intro p e s m args below meth c s₁ Bd hml0 hP hK
  obtain ⟨rfl, hZ, hh⟩ := hP
  have hx := Bd.exec
  have hby := Bd.bytes
  have hml : c.maxLocals = 1 := hml0
  have hown : s.vm.findClass "java/util/ArrayList" = some m.cls := findClass_of_methodNamed Bd.named
  have hnm := (name_of_methodNamed Bd.named Bd.method).1
  have X0 : Stand p l e ({ frames := 3, cells := 0, slots := 0, locals := 36 } : Room) s m #[(.ref a1)] below meth c s₁ [] 0 0 := Stand.of_body Bd
  have e0 : s₁.heap = h0 := by rw [← hh, Bd.state]; rfl
  have N0 := Fr.nil n0
  have pre0 : ∀ t, Steps p.tables e below (s₁.setTop (mkF m 0 #[.val (.ref a1)] [])) t → Steps p.tables e below (s₁.setTop (entryFrame m #[(.ref a1)] 1)) t := fun t k => castTop (ef_2_R m a1) k
  obtain ⟨_, _, ⟨T1, L1, k1, n1⟩, -, X1, ⟨Lc1, hQ1, l1, y1, z1⟩, st1⟩ := X0.specialBack hx (y := (⟨"java/util/AbstractList", "<init>", "()V"⟩ : MethodName)) rfl hown (mvT hZ (hw _ (List.mem_of_getElem? (i := 12) rfl))) (mvT hZ (hw _ (List.mem_of_getElem? (i := 13) rfl))) (mvT hZ (hw _ (List.mem_of_getElem? (i := 17) rfl))) (by decide) (backOf (W := 0) (rmB l Z a0 hw [] a1 h0 n0 Z0 E0 F0 F1 g0) hZ (hw _ (List.mem_of_getElem? (i := 17) rfl)) (hw _ (List.mem_of_getElem? (i := 16) rfl)) (by decide) (by decide)) (g := (mkF m 1 #[.val (.ref a1)] [(.ref a1)])) rfl (by rw [hml]; rfl) (Steps.refl _) (a := a1) (argsL := []) (rest := []) (lenOf pd_1 rfl) rfl (by show 2 * 0 + _ ≤ _; exact Nat.le_of_eq rfl) (hb hby d2_1) (fun _ _ => ⟨rfl, e0, (by decide : 0 + 0 ≤ _), (by decide : 0 + 0 ≤ _)⟩)
  dsimp only [Pt.U, Pt.locs, Pt.cells, Pt.slots] at X1 l1 y1 z1 st1 hQ1
  subst l1 y1 z1
  obtain ⟨rfl, Nq1, K1, ex1, fe1⟩ := hQ1
  have E0_1 := E0.keep K1
  have S0_1 := own_sta_keep S0 K1 (allS (Exa.nostat E0) all0)
  have Z1 : n0 ≤ T1.heap.size := Nat.le_trans Z0 K1.1
  have Kp1 : Keep h0 T1.heap [a1] := (Keep.refl h0 [a1]).trans K1 (allS (Or.inl (by simp)) all0)
  have N1 := Fr.app N0 Nq1
  obtain ⟨T2, X2, e2, st2⟩ := getS2 X1 hx hZ hown (host := "") (Or.inl (hw _ (List.mem_of_getElem? (i := 29) rfl))) Via.refl rfl S0_1 (g := (mkF m 5 #[.val (.ref a1)] [(.ref a1)])) rfl (hb hby d2_5)
  obtain ⟨T3, h3, X3, e3, W3, st3⟩ := putF X2 hx hZ hown (host := "") (Or.inl (hw _ (List.mem_of_getElem? (i := 30) rfl))) Via.refl e2 fe1 ex1 (Or.inl (hw _ (List.mem_of_getElem? (i := 31) rfl))) (hw _ (List.mem_of_getElem? (i := 7) rfl)) (ty := (.array (.object "java/lang/Object"))) (by decide) rfl rfl (g := (mkF m 8 #[.val (.ref a1)] [(.ref dc), (.ref a1)])) rfl rfl (hb hby d2_8)
  have ex1_3 := ex1.wr W3
  have S0_3 := S0_1.wr W3
  have Z3 : n0 ≤ h3.size := Nat.le_trans Z1 (Keep.of_wr W3).1
  have Kp3 : Keep h0 h3 [a1] := Kp1.wr W3 (Or.inl (by simp))
  have Fw3 : Fld Z h3 a1 "java/util/ArrayList" "elementData" "[Ljava/lang/Object;" (.ref dc) := fe1.same W3
  have N3 := Fr.snoc X3 N1 g0
  obtain ⟨fs, hr, hrun, hended, hW, hsame⟩ := X3.leave (v := none) (fun _ => rfl)
  refine ⟨_, _, pre0 _ ?_, hrun, hended, _, _, rfl, ?_, ⟨_, rfl⟩, hW, hsame.mono (by decide) (by decide)⟩
  · show Steps p.tables e below (s₁.setTop (mkF m 0 #[.val (.ref a1)] [])) _
    refine XS.aloadN X0.here hx rfl (hb hby d2_0) rfl rfl ?_
    show Steps p.tables e below (s₁.setTop (mkF m 1 #[.val (.ref a1)] [(.ref a1)])) _
    refine st1.trans ?_
    show Steps p.tables e below (T1.setTop (mkF m 4 #[.val (.ref a1)] [])) _
    refine XS.aloadN X1.here hx rfl (hb hby d2_4) rfl rfl ?_
    show Steps p.tables e below (T1.setTop (mkF m 5 #[.val (.ref a1)] [(.ref a1)])) _
    refine st2 _ ?_
    show Steps p.tables e below (T2.setTop (mkF m 8 #[.val (.ref a1)] [(.ref dc), (.ref a1)])) _
    refine st3 _ ?_
    show Steps p.tables e below (T3.setTop (mkF m 11 #[.val (.ref a1)] [])) _
    exact X3.returnOut hx Bd.returns (hb hby d2_11) hr
  · show Q_rmA Z a1 dc h0 n0 _ T3.heap _
    rw [e3]
    exact ⟨rfl, N3, Kp3, ex1_3⟩
theorem pn_6 : plainName "com/example/leadout/leadout/bench/Load$Report" = true := by first | (simp [plainName, overriddenIn]; done) | decide +kernel
theorem ef_6_RRIIRIRJ (m : MethodId) (x0 : Addr) (x1 : Addr) (x2 : Int32) (x3 : Int32) (x4 : Addr) (x5 : Int32) (x6 : Addr) (x7 : Int64) : entryFrame m #[(.ref x0), (.ref x1), (.int x2), (.int x3), (.ref x4), (.int x5), (.ref x6), (.long x7)] 9 = mkF m 0 #[.val (.ref x0), .val (.ref x1), .val (.int x2), .val (.int x3), .val (.ref x4), .val (.int x5), .val (.ref x6), .val (.long x7), .second] [] := by first | (simp [entryFrame, mkF, argsToLocals, Value.category]; done) | rfl
theorem d6_0 : decode prog_46_method_1_code 0 = .ok (.aload_n 0, 1) := by decide +kernel
theorem d6_1 : decode prog_46_method_1_code 1 = .ok (.invokespecial 1, 3) := by decide +kernel
theorem d6_4 : decode prog_46_method_1_code 4 = .ok (.aload_n 0, 1) := by decide +kernel
theorem d6_5 : decode prog_46_method_1_code 5 = .ok (.aload_n 1, 1) := by decide +kernel
theorem d6_6 : decode prog_46_method_1_code 6 = .ok (.putfield 7, 3) := by decide +kernel
theorem d6_9 : decode prog_46_method_1_code 9 = .ok (.aload_n 0, 1) := by decide +kernel
theorem d6_10 : decode prog_46_method_1_code 10 = .ok (.iload_n 2, 1) := by decide +kernel
theorem d6_11 : decode prog_46_method_1_code 11 = .ok (.putfield 13, 3) := by decide +kernel
theorem d6_14 : decode prog_46_method_1_code 14 = .ok (.aload_n 0, 1) := by decide +kernel
theorem d6_15 : decode prog_46_method_1_code 15 = .ok (.iload_n 3, 1) := by decide +kernel
theorem d6_16 : decode prog_46_method_1_code 16 = .ok (.putfield 17, 3) := by decide +kernel
theorem d6_19 : decode prog_46_method_1_code 19 = .ok (.aload_n 0, 1) := by decide +kernel
theorem d6_20 : decode prog_46_method_1_code 20 = .ok (.aload 4, 2) := by decide +kernel
theorem d6_22 : decode prog_46_method_1_code 22 = .ok (.putfield 20, 3) := by decide +kernel
theorem d6_25 : decode prog_46_method_1_code 25 = .ok (.aload_n 0, 1) := by decide +kernel
theorem d6_26 : decode prog_46_method_1_code 26 = .ok (.iload 5, 2) := by decide +kernel
theorem d6_28 : decode prog_46_method_1_code 28 = .ok (.putfield 24, 3) := by decide +kernel
theorem d6_31 : decode prog_46_method_1_code 31 = .ok (.aload_n 0, 1) := by decide +kernel
theorem d6_32 : decode prog_46_method_1_code 32 = .ok (.aload 6, 2) := by decide +kernel
theorem d6_34 : decode prog_46_method_1_code 34 = .ok (.putfield 27, 3) := by decide +kernel
theorem d6_37 : decode prog_46_method_1_code 37 = .ok (.aload_n 0, 1) := by decide +kernel
theorem d6_38 : decode prog_46_method_1_code 38 = .ok (.lload 7, 2) := by decide +kernel
theorem d6_40 : decode prog_46_method_1_code 40 = .ok (.putfield 31, 3) := by decide +kernel
theorem d6_43 : decode prog_46_method_1_code 43 = .ok (.return_, 1) := by decide +kernel
def Q_rmI (Z : State) (a1 : Addr) (a2 : Addr) (p3 : Int32) (p4 : Int32) (a5 : Addr) (p6 : Int32) (a7 : Addr) (j8 : Int64) (h0 : Heap) (n0 : Nat) (v : Option Value) (h : Heap) (L : List Loc) : Prop := v = none ∧ Fr n0 L ∧ Keep h0 h [a1] ∧ Exa Z h a1 "com/example/leadout/leadout/bench/Load$Report" ∧ Fld Z h a1 "com/example/leadout/leadout/bench/Load$Report" "roundTrips" "[J" (.ref a5) ∧ Fld Z h a1 "com/example/leadout/leadout/bench/Load$Report" "nanos" "J" (.long j8)
set_option maxRecDepth 65536 in
set_option maxHeartbeats 40000000 in
theorem rmI (l : Launch) (Z : State) (a0 : Array Value) (hw : ∀ d ∈ tables_1, d.before a0 Z = true) (ws : List Jvm.Cond) (a1 : Addr) (a2 : Addr) (p3 : Int32) (p4 : Int32) (a5 : Addr) (p6 : Int32) (a7 : Addr) (j8 : Int64) (h0 : Heap) (n0 : Nat) (Z0 : n0 ≤ h0.size) (E0 : Exa Z h0 a1 "com/example/leadout/leadout/bench/Load$Report") (F_door : Fld Z h0 a1 "com/example/leadout/leadout/bench/Load$Report" "door" "Ljava/lang/String;" .null) (F_clients : Fld Z h0 a1 "com/example/leadout/leadout/bench/Load$Report" "clients" "I" (.int (0 : Int32))) (F_pairsEach : Fld Z h0 a1 "com/example/leadout/leadout/bench/Load$Report" "pairsEach" "I" (.int (0 : Int32))) (F_roundTrips : Fld Z h0 a1 "com/example/leadout/leadout/bench/Load$Report" "roundTrips" "[J" .null) (F_errors : Fld Z h0 a1 "com/example/leadout/leadout/bench/Load$Report" "errors" "I" (.int (0 : Int32))) (F_firstErrors : Fld Z h0 a1 "com/example/leadout/leadout/bench/Load$Report" "firstErrors" "Ljava/util/List;" .null) (F_nanos : Fld Z h0 a1 "com/example/leadout/leadout/bench/Load$Report" "nanos" "J" (.long (0 : Int64))) (g0 : n0 ≤ a1) :
    MetFree l (⟨"com/example/leadout/leadout/bench/Load$Report", "<init>", "(Ljava/lang/String;II[JILjava/util/List;J)V"⟩ : MethodName) (head1 (Jvm.Cond.code (⟨"com/example/leadout/leadout/bench/Load$Report", "<init>", "(Ljava/lang/String;II[JILjava/util/List;J)V"⟩ : MethodName) prog_46_method_1_code 9 none :: ws) ({ frames := 2, cells := 0, slots := 0, locals := 24 } : Room)) (fun a U => a = #[(.ref a1), (.ref a2), (.int p3), (.int p4), (.ref a5), (.int p6), (.ref a7), (.long j8)] ∧ Z.Warmed39 U.vm ∧ U.heap = h0) (fun _ _ _ _ _ => True) (fun _ U o U' => ∃ v L, o = .returned v ∧ Q_rmI Z a1 a2 p3 p4 a5 p6 a7 j8 h0 n0 v U'.heap L ∧ FrameEnd U o U' L ({ frames := 2, cells := 0, slots := 0, locals := 24 } : Room).cells ({ frames := 2, cells := 0, slots := 0, locals := 24 } : Room).slots) := by
  refine MetFree.of_bodySF (plainFor_of_name pn_6) hisR ?_
  intro p e s m args below meth c s₁ Bd hml0 hP hK
  obtain ⟨rfl, hZ, hh⟩ := hP
  have hx := Bd.exec
  have hby := Bd.bytes
  have hml : c.maxLocals = 9 := hml0
  have hown : s.vm.findClass "com/example/leadout/leadout/bench/Load$Report" = some m.cls := findClass_of_methodNamed Bd.named
  have hnm := (name_of_methodNamed Bd.named Bd.method).1
  have X0 : Stand p l e ({ frames := 2, cells := 0, slots := 0, locals := 24 } : Room) s m #[(.ref a1), (.ref a2), (.int p3), (.int p4), (.ref a5), (.int p6), (.ref a7), (.long j8)] below meth c s₁ [] 0 0 := Stand.of_body Bd
  have e0 : s₁.heap = h0 := by rw [← hh, Bd.state]; rfl
  have N0 := Fr.nil n0
  have pre0 : ∀ t, Steps p.tables e below (s₁.setTop (mkF m 0 #[.val (.ref a1), .val (.ref a2), .val (.int p3), .val (.int p4), .val (.ref a5), .val (.int p6), .val (.ref a7), .val (.long j8), .second] [])) t → Steps p.tables e below (s₁.setTop (entryFrame m #[(.ref a1), (.ref a2), (.int p3), (.int p4), (.ref a5), (.int p6), (.ref a7), (.long j8)] 9)) t := fun t k => castTop (ef_6_RRIIRIRJ m a1 a2 p3 p4 a5 p6 a7 j8) k
  obtain ⟨_, _, ⟨T1, L1, k1, n1⟩, -, X1, ⟨Lc1, hQ1, l1, y1, z1⟩, st1⟩ := X0.specialBack hx (y := (⟨"java/lang/Record", "<init>", "()V"⟩ : MethodName)) rfl hown (mvT hZ (hw _ (List.mem_of_getElem? (i := 48) rfl))) (mvT hZ (hw _ (List.mem_of_getElem? (i := 49) rfl))) (mvT hZ (hw _ (List.mem_of_getElem? (i := 52) rfl))) (by decide) (backOf (W := 0) (rmR l Z a0 hw [] a1 h0 n0 Z0 ) hZ (hw _ (List.mem_of_getElem? (i := 52) rfl)) (hw _ (List.mem_of_getElem? (i := 51) rfl)) (by decide) (by decide)) (g := (mkF m 1 #[.val (.ref a1), .val (.ref a2), .val (.int p3), .val (.int p4), .val (.ref a5), .val (.int p6), .val (.ref a7), .val (.long j8), .second] [(.ref a1)])) rfl (by rw [hml]; rfl) (Steps.refl _) (a := a1) (argsL := []) (rest := []) (lenOf pd_1 rfl) rfl (by show 2 * 0 + _ ≤ _; exact Nat.le_of_eq rfl) (hb hby d6_1) (fun _ _ => ⟨rfl, e0, (by decide : 0 + 0 ≤ _), (by decide : 0 + 0 ≤ _)⟩)
  dsimp only [Pt.U, Pt.locs, Pt.cells, Pt.slots] at X1 l1 y1 z1 st1 hQ1
  subst l1 y1 z1
  obtain ⟨rfl, Nq1, e1⟩ := hQ1
  have N1 := Fr.app N0 Nq1
  obtain ⟨T2, h2, X2, e2, W2, st2⟩ := putF X1 hx hZ hown (host := "") (Or.inl (hw _ (List.mem_of_getElem? (i := 54) rfl))) Via.refl e1 F_door E0 (Or.inr ⟨(hw _ (List.mem_of_getElem? (i := 55) rfl)), rfl, hnm⟩) (hw _ (List.mem_of_getElem? (i := 33) rfl)) (ty := (.object "java/lang/String")) (by decide) rfl rfl (g := (mkF m 6 #[.val (.ref a1), .val (.ref a2), .val (.int p3), .val (.int p4), .val (.ref a5), .val (.int p6), .val (.ref a7), .val (.long j8), .second] [(.ref a2), (.ref a1)])) rfl rfl (hb hby d6_6)
  have E0_2 := E0.wr W2
  have F_clients_2 := F_clients.other W2 (Or.inr (slot_ne (Or.inr (hw _ (List.mem_of_getElem? (i := 57) rfl))) (Or.inr (hw _ (List.mem_of_getElem? (i := 55) rfl))) (by decide) (t := .int) (t' := (.object "java/lang/String")) (by decide) (by decide)))
  have F_pairsEach_2 := F_pairsEach.other W2 (Or.inr (slot_ne (Or.inr (hw _ (List.mem_of_getElem? (i := 59) rfl))) (Or.inr (hw _ (List.mem_of_getElem? (i := 55) rfl))) (by decide) (t := .int) (t' := (.object "java/lang/String")) (by decide) (by decide)))
  have F_roundTrips_2 := F_roundTrips.other W2 (Or.inr (slot_ne (Or.inr (hw _ (List.mem_of_getElem? (i := 61) rfl))) (Or.inr (hw _ (List.mem_of_getElem? (i := 55) rfl))) (by decide) (t := (.array .long)) (t' := (.object "java/lang/String")) (by decide) (by decide)))
  have F_errors_2 := F_errors.other W2 (Or.inr (slot_ne (Or.inr (hw _ (List.mem_of_getElem? (i := 63) rfl))) (Or.inr (hw _ (List.mem_of_getElem? (i := 55) rfl))) (by decide) (t := .int) (t' := (.object "java/lang/String")) (by decide) (by decide)))
  have F_firstErrors_2 := F_firstErrors.other W2 (Or.inr (slot_ne (Or.inr (hw _ (List.mem_of_getElem? (i := 65) rfl))) (Or.inr (hw _ (List.mem_of_getElem? (i := 55) rfl))) (by decide) (t := (.object "java/util/List")) (t' := (.object "java/lang/String")) (by decide) (by decide)))
  have F_nanos_2 := F_nanos.other W2 (Or.inr (slot_ne (Or.inr (hw _ (List.mem_of_getElem? (i := 67) rfl))) (Or.inr (hw _ (List.mem_of_getElem? (i := 55) rfl))) (by decide) (t := .long) (t' := (.object "java/lang/String")) (by decide) (by decide)))
  have Z2 : n0 ≤ h2.size := Nat.le_trans Z0 (Keep.of_wr W2).1
  have Kp2 : Keep h0 h2 [a1] := (Keep.refl h0 [a1]).wr W2 (Or.inl (by simp))
  have Fw2 : Fld Z h2 a1 "com/example/leadout/leadout/bench/Load$Report" "door" "Ljava/lang/String;" (.ref a2) := F_door.same W2
  have N2 := Fr.snoc X2 N1 g0
  obtain ⟨T3, h3, X3, e3, W3, st3⟩ := putF X2 hx hZ hown (host := "") (Or.inl (hw _ (List.mem_of_getElem? (i := 56) rfl))) Via.refl e2 F_clients_2 E0_2 (Or.inr ⟨(hw _ (List.mem_of_getElem? (i := 57) rfl)), rfl, hnm⟩) (hw _ (List.mem_of_getElem? (i := 33) rfl)) (ty := .int) (by decide) rfl rfl (g := (mkF m 11 #[.val (.ref a1), .val (.ref a2), .val (.int p3), .val (.int p4), .val (.ref a5), .val (.int p6), .val (.ref a7), .val (.long j8), .second] [(.int p3), (.ref a1)])) rfl rfl (hb hby d6_11)
  have E0_3 := E0_2.wr W3
  have F_pairsEach_3 := F_pairsEach_2.other W3 (Or.inr (slot_ne (Or.inr (hw _ (List.mem_of_getElem? (i := 59) rfl))) (Or.inr (hw _ (List.mem_of_getElem? (i := 57) rfl))) (by decide) (t := .int) (t' := .int) (by decide) (by decide)))
  have F_roundTrips_3 := F_roundTrips_2.other W3 (Or.inr (slot_ne (Or.inr (hw _ (List.mem_of_getElem? (i := 61) rfl))) (Or.inr (hw _ (List.mem_of_getElem? (i := 57) rfl))) (by decide) (t := (.array .long)) (t' := .int) (by decide) (by decide)))
  have F_errors_3 := F_errors_2.other W3 (Or.inr (slot_ne (Or.inr (hw _ (List.mem_of_getElem? (i := 63) rfl))) (Or.inr (hw _ (List.mem_of_getElem? (i := 57) rfl))) (by decide) (t := .int) (t' := .int) (by decide) (by decide)))
  have F_firstErrors_3 := F_firstErrors_2.other W3 (Or.inr (slot_ne (Or.inr (hw _ (List.mem_of_getElem? (i := 65) rfl))) (Or.inr (hw _ (List.mem_of_getElem? (i := 57) rfl))) (by decide) (t := (.object "java/util/List")) (t' := .int) (by decide) (by decide)))
  have F_nanos_3 := F_nanos_2.other W3 (Or.inr (slot_ne (Or.inr (hw _ (List.mem_of_getElem? (i := 67) rfl))) (Or.inr (hw _ (List.mem_of_getElem? (i := 57) rfl))) (by decide) (t := .long) (t' := .int) (by decide) (by decide)))
  have Fw2_3 := Fw2.other W3 (Or.inr (slot_ne (Or.inr (hw _ (List.mem_of_getElem? (i := 55) rfl))) (Or.inr (hw _ (List.mem_of_getElem? (i := 57) rfl))) (by decide) (t := (.object "java/lang/String")) (t' := .int) (by decide) (by decide)))
  have Z3 : n0 ≤ h3.size := Nat.le_trans Z2 (Keep.of_wr W3).1
  have Kp3 : Keep h0 h3 [a1] := Kp2.wr W3 (Or.inl (by simp))
  have Fw3 : Fld Z h3 a1 "com/example/leadout/leadout/bench/Load$Report" "clients" "I" (.int p3) := F_clients_2.same W3
  have N3 := Fr.snoc X3 N2 g0
  obtain ⟨T4, h4, X4, e4, W4, st4⟩ := putF X3 hx hZ hown (host := "") (Or.inl (hw _ (List.mem_of_getElem? (i := 58) rfl))) Via.refl e3 F_pairsEach_3 E0_3 (Or.inr ⟨(hw _ (List.mem_of_getElem? (i := 59) rfl)), rfl, hnm⟩) (hw _ (List.mem_of_getElem? (i := 33) rfl)) (ty := .int) (by decide) rfl rfl (g := (mkF m 16 #[.val (.ref a1), .val (.ref a2), .val (.int p3), .val (.int p4), .val (.ref a5), .val (.int p6), .val (.ref a7), .val (.long j8), .second] [(.int p4), (.ref a1)])) rfl rfl (hb hby d6_16)
  have E0_4 := E0_3.wr W4
  have F_roundTrips_4 := F_roundTrips_3.other W4 (Or.inr (slot_ne (Or.inr (hw _ (List.mem_of_getElem? (i := 61) rfl))) (Or.inr (hw _ (List.mem_of_getElem? (i := 59) rfl))) (by decide) (t := (.array .long)) (t' := .int) (by decide) (by decide)))
  have F_errors_4 := F_errors_3.other W4 (Or.inr (slot_ne (Or.inr (hw _ (List.mem_of_getElem? (i := 63) rfl))) (Or.inr (hw _ (List.mem_of_getElem? (i := 59) rfl))) (by decide) (t := .int) (t' := .int) (by decide) (by decide)))
  have F_firstErrors_4 := F_firstErrors_3.other W4 (Or.inr (slot_ne (Or.inr (hw _ (List.mem_of_getElem? (i := 65) rfl))) (Or.inr (hw _ (List.mem_of_getElem? (i := 59) rfl))) (by decide) (t := (.object "java/util/List")) (t' := .int) (by decide) (by decide)))
  have F_nanos_4 := F_nanos_3.other W4 (Or.inr (slot_ne (Or.inr (hw _ (List.mem_of_getElem? (i := 67) rfl))) (Or.inr (hw _ (List.mem_of_getElem? (i := 59) rfl))) (by decide) (t := .long) (t' := .int) (by decide) (by decide)))
  have Fw2_4 := Fw2_3.other W4 (Or.inr (slot_ne (Or.inr (hw _ (List.mem_of_getElem? (i := 55) rfl))) (Or.inr (hw _ (List.mem_of_getElem? (i := 59) rfl))) (by decide) (t := (.object "java/lang/String")) (t' := .int) (by decide) (by decide)))
  have Fw3_4 := Fw3.other W4 (Or.inr (slot_ne (Or.inr (hw _ (List.mem_of_getElem? (i := 57) rfl))) (Or.inr (hw _ (List.mem_of_getElem? (i := 59) rfl))) (by decide) (t := .int) (t' := .int) (by decide) (by decide)))
  have Z4 : n0 ≤ h4.size := Nat.le_trans Z3 (Keep.of_wr W4).1
  have Kp4 : Keep h0 h4 [a1] := Kp3.wr W4 (Or.inl (by simp))
  have Fw4 : Fld Z h4 a1 "com/example/leadout/leadout/bench/Load$Report" "pairsEach" "I" (.int p4) := F_pairsEach_3.same W4
  have N4 := Fr.snoc X4 N3 g0
  obtain ⟨T5, h5, X5, e5, W5, st5⟩ := putF X4 hx hZ hown (host := "") (Or.inl (hw _ (List.mem_of_getElem? (i := 60) rfl))) Via.refl e4 F_roundTrips_4 E0_4 (Or.inr ⟨(hw _ (List.mem_of_getElem? (i := 61) rfl)), rfl, hnm⟩) (hw _ (List.mem_of_getElem? (i := 33) rfl)) (ty := (.array .long)) (by decide) rfl rfl (g := (mkF m 22 #[.val (.ref a1), .val (.ref a2), .val (.int p3), .val (.int p4), .val (.ref a5), .val (.int p6), .val (.ref a7), .val (.long j8), .second] [(.ref a5), (.ref a1)])) rfl rfl (hb hby d6_22)
  have E0_5 := E0_4.wr W5
  have F_errors_5 := F_errors_4.other W5 (Or.inr (slot_ne (Or.inr (hw _ (List.mem_of_getElem? (i := 63) rfl))) (Or.inr (hw _ (List.mem_of_getElem? (i := 61) rfl))) (by decide) (t := .int) (t' := (.array .long)) (by decide) (by decide)))
  have F_firstErrors_5 := F_firstErrors_4.other W5 (Or.inr (slot_ne (Or.inr (hw _ (List.mem_of_getElem? (i := 65) rfl))) (Or.inr (hw _ (List.mem_of_getElem? (i := 61) rfl))) (by decide) (t := (.object "java/util/List")) (t' := (.array .long)) (by decide) (by decide)))
  have F_nanos_5 := F_nanos_4.other W5 (Or.inr (slot_ne (Or.inr (hw _ (List.mem_of_getElem? (i := 67) rfl))) (Or.inr (hw _ (List.mem_of_getElem? (i := 61) rfl))) (by decide) (t := .long) (t' := (.array .long)) (by decide) (by decide)))
  have Fw2_5 := Fw2_4.other W5 (Or.inr (slot_ne (Or.inr (hw _ (List.mem_of_getElem? (i := 55) rfl))) (Or.inr (hw _ (List.mem_of_getElem? (i := 61) rfl))) (by decide) (t := (.object "java/lang/String")) (t' := (.array .long)) (by decide) (by decide)))
  have Fw3_5 := Fw3_4.other W5 (Or.inr (slot_ne (Or.inr (hw _ (List.mem_of_getElem? (i := 57) rfl))) (Or.inr (hw _ (List.mem_of_getElem? (i := 61) rfl))) (by decide) (t := .int) (t' := (.array .long)) (by decide) (by decide)))
  have Fw4_5 := Fw4.other W5 (Or.inr (slot_ne (Or.inr (hw _ (List.mem_of_getElem? (i := 59) rfl))) (Or.inr (hw _ (List.mem_of_getElem? (i := 61) rfl))) (by decide) (t := .int) (t' := (.array .long)) (by decide) (by decide)))
  have Z5 : n0 ≤ h5.size := Nat.le_trans Z4 (Keep.of_wr W5).1
  have Kp5 : Keep h0 h5 [a1] := Kp4.wr W5 (Or.inl (by simp))
  have Fw5 : Fld Z h5 a1 "com/example/leadout/leadout/bench/Load$Report" "roundTrips" "[J" (.ref a5) := F_roundTrips_4.same W5
  have N5 := Fr.snoc X5 N4 g0
  obtain ⟨T6, h6, X6, e6, W6, st6⟩ := putF X5 hx hZ hown (host := "") (Or.inl (hw _ (List.mem_of_getElem? (i := 62) rfl))) Via.refl e5 F_errors_5 E0_5 (Or.inr ⟨(hw _ (List.mem_of_getElem? (i := 63) rfl)), rfl, hnm⟩) (hw _ (List.mem_of_getElem? (i := 33) rfl)) (ty := .int) (by decide) rfl rfl (g := (mkF m 28 #[.val (.ref a1), .val (.ref a2), .val (.int p3), .val (.int p4), .val (.ref a5), .val (.int p6), .val (.ref a7), .val (.long j8), .second] [(.int p6), (.ref a1)])) rfl rfl (hb hby d6_28)
  have E0_6 := E0_5.wr W6
  have F_firstErrors_6 := F_firstErrors_5.other W6 (Or.inr (slot_ne (Or.inr (hw _ (List.mem_of_getElem? (i := 65) rfl))) (Or.inr (hw _ (List.mem_of_getElem? (i := 63) rfl))) (by decide) (t := (.object "java/util/List")) (t' := .int) (by decide) (by decide)))
  have F_nanos_6 := F_nanos_5.other W6 (Or.inr (slot_ne (Or.inr (hw _ (List.mem_of_getElem? (i := 67) rfl))) (Or.inr (hw _ (List.mem_of_getElem? (i := 63) rfl))) (by decide) (t := .long) (t' := .int) (by decide) (by decide)))
  have Fw2_6 := Fw2_5.other W6 (Or.inr (slot_ne (Or.inr (hw _ (List.mem_of_getElem? (i := 55) rfl))) (Or.inr (hw _ (List.mem_of_getElem? (i := 63) rfl))) (by decide) (t := (.object "java/lang/String")) (t' := .int) (by decide) (by decide)))
  have Fw3_6 := Fw3_5.other W6 (Or.inr (slot_ne (Or.inr (hw _ (List.mem_of_getElem? (i := 57) rfl))) (Or.inr (hw _ (List.mem_of_getElem? (i := 63) rfl))) (by decide) (t := .int) (t' := .int) (by decide) (by decide)))
  have Fw4_6 := Fw4_5.other W6 (Or.inr (slot_ne (Or.inr (hw _ (List.mem_of_getElem? (i := 59) rfl))) (Or.inr (hw _ (List.mem_of_getElem? (i := 63) rfl))) (by decide) (t := .int) (t' := .int) (by decide) (by decide)))
  have Fw5_6 := Fw5.other W6 (Or.inr (slot_ne (Or.inr (hw _ (List.mem_of_getElem? (i := 61) rfl))) (Or.inr (hw _ (List.mem_of_getElem? (i := 63) rfl))) (by decide) (t := (.array .long)) (t' := .int) (by decide) (by decide)))
  have Z6 : n0 ≤ h6.size := Nat.le_trans Z5 (Keep.of_wr W6).1
  have Kp6 : Keep h0 h6 [a1] := Kp5.wr W6 (Or.inl (by simp))
  have Fw6 : Fld Z h6 a1 "com/example/leadout/leadout/bench/Load$Report" "errors" "I" (.int p6) := F_errors_5.same W6
  have N6 := Fr.snoc X6 N5 g0
  obtain ⟨T7, h7, X7, e7, W7, st7⟩ := putF X6 hx hZ hown (host := "") (Or.inl (hw _ (List.mem_of_getElem? (i := 64) rfl))) Via.refl e6 F_firstErrors_6 E0_6 (Or.inr ⟨(hw _ (List.mem_of_getElem? (i := 65) rfl)), rfl, hnm⟩) (hw _ (List.mem_of_getElem? (i := 33) rfl)) (ty := (.object "java/util/List")) (by decide) rfl rfl (g := (mkF m 34 #[.val (.ref a1), .val (.ref a2), .val (.int p3), .val (.int p4), .val (.ref a5), .val (.int p6), .val (.ref a7), .val (.long j8), .second] [(.ref a7), (.ref a1)])) rfl rfl (hb hby d6_34)
  have E0_7 := E0_6.wr W7
  have F_nanos_7 := F_nanos_6.other W7 (Or.inr (slot_ne (Or.inr (hw _ (List.mem_of_getElem? (i := 67) rfl))) (Or.inr (hw _ (List.mem_of_getElem? (i := 65) rfl))) (by decide) (t := .long) (t' := (.object "java/util/List")) (by decide) (by decide)))
  have Fw2_7 := Fw2_6.other W7 (Or.inr (slot_ne (Or.inr (hw _ (List.mem_of_getElem? (i := 55) rfl))) (Or.inr (hw _ (List.mem_of_getElem? (i := 65) rfl))) (by decide) (t := (.object "java/lang/String")) (t' := (.object "java/util/List")) (by decide) (by decide)))
  have Fw3_7 := Fw3_6.other W7 (Or.inr (slot_ne (Or.inr (hw _ (List.mem_of_getElem? (i := 57) rfl))) (Or.inr (hw _ (List.mem_of_getElem? (i := 65) rfl))) (by decide) (t := .int) (t' := (.object "java/util/List")) (by decide) (by decide)))
  have Fw4_7 := Fw4_6.other W7 (Or.inr (slot_ne (Or.inr (hw _ (List.mem_of_getElem? (i := 59) rfl))) (Or.inr (hw _ (List.mem_of_getElem? (i := 65) rfl))) (by decide) (t := .int) (t' := (.object "java/util/List")) (by decide) (by decide)))
  have Fw5_7 := Fw5_6.other W7 (Or.inr (slot_ne (Or.inr (hw _ (List.mem_of_getElem? (i := 61) rfl))) (Or.inr (hw _ (List.mem_of_getElem? (i := 65) rfl))) (by decide) (t := (.array .long)) (t' := (.object "java/util/List")) (by decide) (by decide)))
  have Fw6_7 := Fw6.other W7 (Or.inr (slot_ne (Or.inr (hw _ (List.mem_of_getElem? (i := 63) rfl))) (Or.inr (hw _ (List.mem_of_getElem? (i := 65) rfl))) (by decide) (t := .int) (t' := (.object "java/util/List")) (by decide) (by decide)))
  have Z7 : n0 ≤ h7.size := Nat.le_trans Z6 (Keep.of_wr W7).1
  have Kp7 : Keep h0 h7 [a1] := Kp6.wr W7 (Or.inl (by simp))
  have Fw7 : Fld Z h7 a1 "com/example/leadout/leadout/bench/Load$Report" "firstErrors" "Ljava/util/List;" (.ref a7) := F_firstErrors_6.same W7
  have N7 := Fr.snoc X7 N6 g0
  obtain ⟨T8, h8, X8, e8, W8, st8⟩ := putF X7 hx hZ hown (host := "") (Or.inl (hw _ (List.mem_of_getElem? (i := 66) rfl))) Via.refl e7 F_nanos_7 E0_7 (Or.inr ⟨(hw _ (List.mem_of_getElem? (i := 67) rfl)), rfl, hnm⟩) (hw _ (List.mem_of_getElem? (i := 33) rfl)) (ty := .long) (by decide) rfl rfl (g := (mkF m 40 #[.val (.ref a1), .val (.ref a2), .val (.int p3), .val (.int p4), .val (.ref a5), .val (.int p6), .val (.ref a7), .val (.long j8), .second] [(.long j8), (.ref a1)])) rfl rfl (hb hby d6_40)
  have E0_8 := E0_7.wr W8
  have Fw2_8 := Fw2_7.other W8 (Or.inr (slot_ne (Or.inr (hw _ (List.mem_of_getElem? (i := 55) rfl))) (Or.inr (hw _ (List.mem_of_getElem? (i := 67) rfl))) (by decide) (t := (.object "java/lang/String")) (t' := .long) (by decide) (by decide)))
  have Fw3_8 := Fw3_7.other W8 (Or.inr (slot_ne (Or.inr (hw _ (List.mem_of_getElem? (i := 57) rfl))) (Or.inr (hw _ (List.mem_of_getElem? (i := 67) rfl))) (by decide) (t := .int) (t' := .long) (by decide) (by decide)))
  have Fw4_8 := Fw4_7.other W8 (Or.inr (slot_ne (Or.inr (hw _ (List.mem_of_getElem? (i := 59) rfl))) (Or.inr (hw _ (List.mem_of_getElem? (i := 67) rfl))) (by decide) (t := .int) (t' := .long) (by decide) (by decide)))
  have Fw5_8 := Fw5_7.other W8 (Or.inr (slot_ne (Or.inr (hw _ (List.mem_of_getElem? (i := 61) rfl))) (Or.inr (hw _ (List.mem_of_getElem? (i := 67) rfl))) (by decide) (t := (.array .long)) (t' := .long) (by decide) (by decide)))
  have Fw6_8 := Fw6_7.other W8 (Or.inr (slot_ne (Or.inr (hw _ (List.mem_of_getElem? (i := 63) rfl))) (Or.inr (hw _ (List.mem_of_getElem? (i := 67) rfl))) (by decide) (t := .int) (t' := .long) (by decide) (by decide)))
  have Fw7_8 := Fw7.other W8 (Or.inr (slot_ne (Or.inr (hw _ (List.mem_of_getElem? (i := 65) rfl))) (Or.inr (hw _ (List.mem_of_getElem? (i := 67) rfl))) (by decide) (t := (.object "java/util/List")) (t' := .long) (by decide) (by decide)))
  have Z8 : n0 ≤ h8.size := Nat.le_trans Z7 (Keep.of_wr W8).1
  have Kp8 : Keep h0 h8 [a1] := Kp7.wr W8 (Or.inl (by simp))
  have Fw8 : Fld Z h8 a1 "com/example/leadout/leadout/bench/Load$Report" "nanos" "J" (.long j8) := F_nanos_7.same W8
  have N8 := Fr.snoc X8 N7 g0
  obtain ⟨fs, hr, hrun, hended, hW, hsame⟩ := X8.leave (v := none) (fun _ => rfl)
  refine ⟨_, _, pre0 _ ?_, hrun, hended, _, _, rfl, ?_, ⟨_, rfl⟩, hW, hsame.mono (by decide) (by decide)⟩
  · show Steps p.tables e below (s₁.setTop (mkF m 0 #[.val (.ref a1), .val (.ref a2), .val (.int p3), .val (.int p4), .val (.ref a5), .val (.int p6), .val (.ref a7), .val (.long j8), .second] [])) _
    refine XS.aloadN X0.here hx rfl (hb hby d6_0) rfl rfl ?_
    show Steps p.tables e below (s₁.setTop (mkF m 1 #[.val (.ref a1), .val (.ref a2), .val (.int p3), .val (.int p4), .val (.ref a5), .val (.int p6), .val (.ref a7), .val (.long j8), .second] [(.ref a1)])) _
    refine st1.trans ?_
    show Steps p.tables e below (T1.setTop (mkF m 4 #[.val (.ref a1), .val (.ref a2), .val (.int p3), .val (.int p4), .val (.ref a5), .val (.int p6), .val (.ref a7), .val (.long j8), .second] [])) _
    refine XS.aloadN X1.here hx rfl (hb hby d6_4) rfl rfl ?_
    show Steps p.tables e below (T1.setTop (mkF m 5 #[.val (.ref a1), .val (.ref a2), .val (.int p3), .val (.int p4), .val (.ref a5), .val (.int p6), .val (.ref a7), .val (.long j8), .second] [(.ref a1)])) _
    refine XS.aloadN X1.here hx rfl (hb hby d6_5) rfl rfl ?_
    show Steps p.tables e below (T1.setTop (mkF m 6 #[.val (.ref a1), .val (.ref a2), .val (.int p3), .val (.int p4), .val (.ref a5), .val (.int p6), .val (.ref a7), .val (.long j8), .second] [(.ref a2), (.ref a1)])) _
    refine st2 _ ?_
    show Steps p.tables e below (T2.setTop (mkF m 9 #[.val (.ref a1), .val (.ref a2), .val (.int p3), .val (.int p4), .val (.ref a5), .val (.int p6), .val (.ref a7), .val (.long j8), .second] [])) _
    refine XS.aloadN X2.here hx rfl (hb hby d6_9) rfl rfl ?_
    show Steps p.tables e below (T2.setTop (mkF m 10 #[.val (.ref a1), .val (.ref a2), .val (.int p3), .val (.int p4), .val (.ref a5), .val (.int p6), .val (.ref a7), .val (.long j8), .second] [(.ref a1)])) _
    refine XS.iloadN X2.here hx rfl (hb hby d6_10) rfl ?_
    show Steps p.tables e below (T2.setTop (mkF m 11 #[.val (.ref a1), .val (.ref a2), .val (.int p3), .val (.int p4), .val (.ref a5), .val (.int p6), .val (.ref a7), .val (.long j8), .second] [(.int p3), (.ref a1)])) _
    refine st3 _ ?_
    show Steps p.tables e below (T3.setTop (mkF m 14 #[.val (.ref a1), .val (.ref a2), .val (.int p3), .val (.int p4), .val (.ref a5), .val (.int p6), .val (.ref a7), .val (.long j8), .second] [])) _
    refine XS.aloadN X3.here hx rfl (hb hby d6_14) rfl rfl ?_
    show Steps p.tables e below (T3.setTop (mkF m 15 #[.val (.ref a1), .val (.ref a2), .val (.int p3), .val (.int p4), .val (.ref a5), .val (.int p6), .val (.ref a7), .val (.long j8), .second] [(.ref a1)])) _
    refine XS.iloadN X3.here hx rfl (hb hby d6_15) rfl ?_
    show Steps p.tables e below (T3.setTop (mkF m 16 #[.val (.ref a1), .val (.ref a2), .val (.int p3), .val (.int p4), .val (.ref a5), .val (.int p6), .val (.ref a7), .val (.long j8), .second] [(.int p4), (.ref a1)])) _
    refine st4 _ ?_
    show Steps p.tables e below (T4.setTop (mkF m 19 #[.val (.ref a1), .val (.ref a2), .val (.int p3), .val (.int p4), .val (.ref a5), .val (.int p6), .val (.ref a7), .val (.long j8), .second] [])) _
    refine XS.aloadN X4.here hx rfl (hb hby d6_19) rfl rfl ?_
    show Steps p.tables e below (T4.setTop (mkF m 20 #[.val (.ref a1), .val (.ref a2), .val (.int p3), .val (.int p4), .val (.ref a5), .val (.int p6), .val (.ref a7), .val (.long j8), .second] [(.ref a1)])) _
    refine XS.aload X4.here hx rfl (hb hby d6_20) rfl rfl ?_
    show Steps p.tables e below (T4.setTop (mkF m 22 #[.val (.ref a1), .val (.ref a2), .val (.int p3), .val (.int p4), .val (.ref a5), .val (.int p6), .val (.ref a7), .val (.long j8), .second] [(.ref a5), (.ref a1)])) _
    refine st5 _ ?_
    show Steps p.tables e below (T5.setTop (mkF m 25 #[.val (.ref a1), .val (.ref a2), .val (.int p3), .val (.int p4), .val (.ref a5), .val (.int p6), .val (.ref a7), .val (.long j8), .second] [])) _
    refine XS.aloadN X5.here hx rfl (hb hby d6_25) rfl rfl ?_
    show Steps p.tables e below (T5.setTop (mkF m 26 #[.val (.ref a1), .val (.ref a2), .val (.int p3), .val (.int p4), .val (.ref a5), .val (.int p6), .val (.ref a7), .val (.long j8), .second] [(.ref a1)])) _
    refine XS.iload X5.here hx rfl (hb hby d6_26) rfl ?_
    show Steps p.tables e below (T5.setTop (mkF m 28 #[.val (.ref a1), .val (.ref a2), .val (.int p3), .val (.int p4), .val (.ref a5), .val (.int p6), .val (.ref a7), .val (.long j8), .second] [(.int p6), (.ref a1)])) _
    refine st6 _ ?_
    show Steps p.tables e below (T6.setTop (mkF m 31 #[.val (.ref a1), .val (.ref a2), .val (.int p3), .val (.int p4), .val (.ref a5), .val (.int p6), .val (.ref a7), .val (.long j8), .second] [])) _
    refine XS.aloadN X6.here hx rfl (hb hby d6_31) rfl rfl ?_
    show Steps p.tables e below (T6.setTop (mkF m 32 #[.val (.ref a1), .val (.ref a2), .val (.int p3), .val (.int p4), .val (.ref a5), .val (.int p6), .val (.ref a7), .val (.long j8), .second] [(.ref a1)])) _
    refine XS.aload X6.here hx rfl (hb hby d6_32) rfl rfl ?_
    show Steps p.tables e below (T6.setTop (mkF m 34 #[.val (.ref a1), .val (.ref a2), .val (.int p3), .val (.int p4), .val (.ref a5), .val (.int p6), .val (.ref a7), .val (.long j8), .second] [(.ref a7), (.ref a1)])) _
    refine st7 _ ?_
    show Steps p.tables e below (T7.setTop (mkF m 37 #[.val (.ref a1), .val (.ref a2), .val (.int p3), .val (.int p4), .val (.ref a5), .val (.int p6), .val (.ref a7), .val (.long j8), .second] [])) _
    refine XS.aloadN X7.here hx rfl (hb hby d6_37) rfl rfl ?_
    show Steps p.tables e below (T7.setTop (mkF m 38 #[.val (.ref a1), .val (.ref a2), .val (.int p3), .val (.int p4), .val (.ref a5), .val (.int p6), .val (.ref a7), .val (.long j8), .second] [(.ref a1)])) _
    refine XS.lload X7.here hx rfl (hb hby d6_38) rfl ?_
    show Steps p.tables e below (T7.setTop (mkF m 40 #[.val (.ref a1), .val (.ref a2), .val (.int p3), .val (.int p4), .val (.ref a5), .val (.int p6), .val (.ref a7), .val (.long j8), .second] [(.long j8), (.ref a1)])) _
    refine st8 _ ?_
    show Steps p.tables e below (T8.setTop (mkF m 43 #[.val (.ref a1), .val (.ref a2), .val (.int p3), .val (.int p4), .val (.ref a5), .val (.int p6), .val (.ref a7), .val (.long j8), .second] [])) _
    exact X8.returnOut hx Bd.returns (hb hby d6_43) hr
  · show Q_rmI Z a1 a2 p3 p4 a5 p6 a7 j8 h0 n0 _ T8.heap _
    rw [e8]
    exact ⟨rfl, N8, Kp8, E0_8, Fw5_8, Fw8⟩
theorem pn_8 : plainName "com/example/leadout/leadout/bench/Load$Report" = true := by first | (simp [plainName, overriddenIn]; done) | decide +kernel
theorem ef_8_R (m : MethodId) (x0 : Addr) : entryFrame m #[(.ref x0)] 1 = mkF m 0 #[.val (.ref x0)] [] := by first | (simp [entryFrame, mkF, argsToLocals, Value.category]; done) | rfl
theorem d8_0 : decode prog_46_method_2_code 0 = .ok (.aload_n 0, 1) := by decide +kernel
theorem d8_1 : decode prog_46_method_2_code 1 = .ok (.getfield 20, 3) := by decide +kernel
theorem d8_4 : decode prog_46_method_2_code 4 = .ok (.arraylength, 1) := by decide +kernel
theorem d8_5 : decode prog_46_method_2_code 5 = .ok (.i2d, 1) := by decide +kernel
theorem d8_6 : decode prog_46_method_2_code 6 = .ok (.aload_n 0, 1) := by decide +kernel
theorem d8_7 : decode prog_46_method_2_code 7 = .ok (.getfield 31, 3) := by decide +kernel
theorem d8_10 : decode prog_46_method_2_code 10 = .ok (.l2d, 1) := by decide +kernel
theorem d8_11 : decode prog_46_method_2_code 11 = .ok (.ldc2_w 35, 3) := by decide +kernel
theorem d8_14 : decode prog_46_method_2_code 14 = .ok (.ddiv, 1) := by decide +kernel
theorem d8_15 : decode prog_46_method_2_code 15 = .ok (.ddiv, 1) := by decide +kernel
theorem d8_16 : decode prog_46_method_2_code 16 = .ok (.dreturn, 1) := by decide +kernel
def Q_rmP (Z : State) (a1 : Addr) (w : Addr) (kA : ClassId) (x : Int32) (z : Int64) (r : UInt64) (h0 : Heap) (n0 : Nat) (v : Option Value) (h : Heap) (L : List Loc) : Prop := v = some (.double r) ∧ Fr n0 L ∧ h = h0
set_option maxRecDepth 65536 in
set_option maxHeartbeats 40000000 in
theorem rmP (l : Launch) (Z : State) (a0 : Array Value) (hw : ∀ d ∈ tables_1, d.before a0 Z = true) (ws : List Jvm.Cond) (a1 : Addr) (w : Addr) (kA : ClassId) (x : Int32) (z : Int64) (r : UInt64) (h0 : Heap) (n0 : Nat) (Z0 : n0 ≤ h0.size) (F0 : Fld Z h0 a1 "com/example/leadout/leadout/bench/Load$Report" "roundTrips" "[J" (.ref w)) (F1 : Fld Z h0 a1 "com/example/leadout/leadout/bench/Load$Report" "nanos" "J" (.long z)) (V0 : Arv Z h0 w kA .long x [] (.long (0 : Int64))) (x0 : 0 ≤ x.toInt) (z1 : 1 ≤ z.toInt) (hz : own_r x.toInt64 z = r) :
    MetFree l (⟨"com/example/leadout/leadout/bench/Load$Report", "pairsPerSecond", "()D"⟩ : MethodName) (head1 (Jvm.Cond.code (⟨"com/example/leadout/leadout/bench/Load$Report", "pairsPerSecond", "()D"⟩ : MethodName) prog_46_method_2_code 1 (some .double) :: ws) ({ frames := 0, cells := 0, slots := 0, locals := 0 } : Room)) (fun a U => a = #[(.ref a1)] ∧ Z.Warmed39 U.vm ∧ U.heap = h0) (fun _ _ _ _ _ => True) (fun _ U o U' => ∃ v L, o = .returned v ∧ Q_rmP Z a1 w kA x z r h0 n0 v U'.heap L ∧ FrameEnd U o U' L ({ frames := 0, cells := 0, slots := 0, locals := 0 } : Room).cells ({ frames := 0, cells := 0, slots := 0, locals := 0 } : Room).slots) := by
  refine MetFree.of_bodySF (plainFor_of_name pn_8) hisR ?_
  intro p e s m args below meth c s₁ Bd hml0 hP hK
  obtain ⟨rfl, hZ, hh⟩ := hP
  have hx := Bd.exec
  have hby := Bd.bytes
  have hml : c.maxLocals = 1 := hml0
  have hown : s.vm.findClass "com/example/leadout/leadout/bench/Load$Report" = some m.cls := findClass_of_methodNamed Bd.named
  have hnm := (name_of_methodNamed Bd.named Bd.method).1
  have X0 : Stand p l e ({ frames := 0, cells := 0, slots := 0, locals := 0 } : Room) s m #[(.ref a1)] below meth c s₁ [] 0 0 := Stand.of_body Bd
  have e0 : s₁.heap = h0 := by rw [← hh, Bd.state]; rfl
  have N0 := Fr.nil n0
  have pre0 : ∀ t, Steps p.tables e below (s₁.setTop (mkF m 0 #[.val (.ref a1)] [])) t → Steps p.tables e below (s₁.setTop (entryFrame m #[(.ref a1)] 1)) t := fun t k => castTop (ef_8_R m a1) k
  obtain ⟨T1, X1, e1, st1⟩ := getF X0 hx hZ hown (host := "") (Or.inl (hw _ (List.mem_of_getElem? (i := 60) rfl))) Via.refl e0 F0 (g := (mkF m 1 #[.val (.ref a1)] [(.ref a1)])) rfl rfl (hb hby d8_1)
  obtain ⟨cl2, Ar2, q2, S2, M2, Ha2, G2⟩ := id V0
  obtain ⟨T3, X3, e3, st3⟩ := getF X1 hx hZ hown (host := "") (Or.inl (hw _ (List.mem_of_getElem? (i := 66) rfl))) Via.refl e1 F1 (g := (mkF m 7 #[.val (.ref a1)] [(.ref a1), (.double (Jvm.FP.l2d x.toInt64))])) rfl rfl (hb hby d8_7)
  obtain ⟨fs, hr, hrun, hended, hW, hsame⟩ := X3.leave (v := some (.double r)) (fun h => by rw [Bd.returns] at h; cases h)
  refine ⟨_, _, pre0 _ ?_, hrun, hended, _, _, rfl, ?_, ⟨_, rfl⟩, hW, hsame.mono (by decide) (by decide)⟩
  · show Steps p.tables e below (s₁.setTop (mkF m 0 #[.val (.ref a1)] [])) _
    refine XS.aloadN X0.here hx rfl (hb hby d8_0) rfl rfl ?_
    show Steps p.tables e below (s₁.setTop (mkF m 1 #[.val (.ref a1)] [(.ref a1)])) _
    refine st1 _ ?_
    show Steps p.tables e below (T1.setTop (mkF m 4 #[.val (.ref a1)] [(.ref w)])) _
    refine X1.arraylength hx (by rw [e1]; exact Ar2.1) (State.isArrayOf_alike hZ.alike Ar2.2.1) (g := (mkF m 4 #[.val (.ref a1)] [(.ref w)])) rfl rfl (hb hby d8_4) _ ?_
    rw [len_of S2 M2]
    show Steps p.tables e below (T1.setTop (mkF m 5 #[.val (.ref a1)] [(.int x)])) _
    refine XS.i2dS X1.here hx rfl (hb hby d8_5) rfl (v := (Jvm.FP.l2d x.toInt64)) (Jvm.FP.Core.i2d_l2d x) ?_
    show Steps p.tables e below (T1.setTop (mkF m 6 #[.val (.ref a1)] [(.double (Jvm.FP.l2d x.toInt64))])) _
    refine XS.aloadN X1.here hx rfl (hb hby d8_6) rfl rfl ?_
    show Steps p.tables e below (T1.setTop (mkF m 7 #[.val (.ref a1)] [(.ref a1), (.double (Jvm.FP.l2d x.toInt64))])) _
    refine st3 _ ?_
    show Steps p.tables e below (T3.setTop (mkF m 10 #[.val (.ref a1)] [(.long z), (.double (Jvm.FP.l2d x.toInt64))])) _
    refine XS.l2dS X3.here hx rfl (hb hby d8_10) rfl (v := (Jvm.FP.l2d z)) rfl ?_
    show Steps p.tables e below (T3.setTop (mkF m 11 #[.val (.ref a1)] [(.double (Jvm.FP.l2d z)), (.double (Jvm.FP.l2d x.toInt64))])) _
    refine X3.ldc2DoubleC hx hown (mvT hZ (hw _ (List.mem_of_getElem? (i := 73) rfl))) (g := (mkF m 11 #[.val (.ref a1)] [(.double (Jvm.FP.l2d z)), (.double (Jvm.FP.l2d x.toInt64))])) rfl (hb hby d8_11) _ ?_
    show Steps p.tables e below (T3.setTop (mkF m 14 #[.val (.ref a1)] [(.double (4741671816366391296 : UInt64)), (.double (Jvm.FP.l2d z)), (.double (Jvm.FP.l2d x.toInt64))])) _
    refine XS.ddivS X3.here hx rfl (hb hby d8_14) rfl (v := (own_T z)) (own_nT z1) rfl ?_
    show Steps p.tables e below (T3.setTop (mkF m 15 #[.val (.ref a1)] [(.double (own_T z)), (.double (Jvm.FP.l2d x.toInt64))])) _
    refine XS.ddivS X3.here hx rfl (hb hby d8_15) rfl (v := r) (own_nr (own_x64 x0) z1) hz ?_
    show Steps p.tables e below (T3.setTop (mkF m 16 #[.val (.ref a1)] [(.double r)])) _
    jvm_step X3.here [X3.here.top, hx, (hb hby d8_16), X3.method', Bd.returns, narrow]
    first | (intro acts; rw [hr _ acts rfl rfl rfl]) | rw [hr _ _ rfl rfl rfl]
    exact Steps.refl _
  · show Q_rmP Z a1 w kA x z r h0 n0 _ T3.heap _
    rw [e3]
    exact ⟨rfl, N0, rfl⟩
theorem pn_0 : plainName "com/example/leadout/leadout/bench/ReportPairsPerSecondPinLaw" = true := by first | (simp [plainName, overriddenIn]; done) | decide +kernel
set_option maxRecDepth 65536 in
set_option maxHeartbeats 40000000 in
theorem own_tail {p : Program} {l : Launch} {e : Env} {s : State} {m : MethodId} {args : Array Value} {below : List Frame} {meth : Method} {c : Code} {T0 : State} {locs : List Loc} {Z : State} {a0 : Array Value} {h0 : Heap} {n0 : Nat} {cells slots : Nat} (p1 : Int32) (j2 : Int64) (j3 : Int64) (j4 : Int64) (la : Int32) (lb : Int32) (kk : Int64) (nn : Int64) (mm : Int64) (bP : Addr) (bQ : Addr) (bR : Addr) (bS : Addr) (bT : Addr) (rW : UInt64) (rS : UInt64) (rO : UInt64) (rL : UInt64) (rK : UInt64) (vB : Int32) (vC : Int32) (vD : Int32)
    (X0 : Stand p l e room_1 s m args below meth c T0 locs cells slots) (hx : p.tables.exec = Jvm.exec) (hZ : Z.Warmed39 s.vm) (hw : ∀ d ∈ tables_1, d.before a0 Z = true) (hby : c.code = code) (hml : c.maxLocals = 32) (hown : s.vm.findClass "com/example/leadout/leadout/bench/ReportPairsPerSecondPinLaw" = some m.cls) (e0 : T0.heap = h0) (N0 : Fr n0 locs) (Z0 : n0 ≤ h0.size) (hrK : Jvm.FP.ddiv (Jvm.FP.l2d la.toInt64) (Jvm.FP.l2d kk) = rK) (hnK : Jvm.Free.Fl.NoNaN64 (Jvm.FP.ddiv (Jvm.FP.l2d la.toInt64) (Jvm.FP.l2d kk))) (hcE : cmpValue (Jvm.FP.dcmp rW rK) .l = 0) (hc0 : la = 0 → cmpValue (Jvm.FP.dcmp rS 0) .l = 0) (hc1 : ¬ la = 0 → cmpValue (Jvm.FP.dcmp rS 0) .l = 1) (hvB : cmpValue (Jvm.FP.dcmp rS rO) .g = vB) (hvC : cmpValue (Jvm.FP.dcmp rS rO) .l = vC) (hvD : cmpValue (Jvm.FP.dcmp rL rS) .g = vD) (hB : ¬ lb < la → ¬ (0 : Int32) < vB) (hC : lb < la → ¬ vC < (0 : Int32)) (hD : ¬ (0 : Int32) < vD) :
    ∃ (T' : State) (locs' : List Loc), Stand p l e room_1 s m args below meth c T' locs' cells slots ∧ T'.heap = h0 ∧ Fr n0 locs' ∧
      ∀ target, Steps p.tables e below (T'.setTop (mkF m 306 #[.val (.int p1), .val (.long j2), .second, .val (.long j3), .second, .val (.long j4), .second, .val (.int la), .val (.int lb), .val (.long kk), .second, .val (.long nn), .second, .val (.long mm), .second, .val (.ref bP), .val (.ref bQ), .val (.ref bR), .val (.ref bS), .val (.ref bT), .val (.double rW), .second, .val (.double rS), .second, .val (.double rO), .second, .val (.double rL), .second, .val (.int (1 : Int32)), .val (.int (1 : Int32)), .val (.int (1 : Int32)), .val (.int (1 : Int32))] [(.int (1 : Int32))])) target → Steps p.tables e below (T0.setTop (mkF m 174 #[.val (.int p1), .val (.long j2), .second, .val (.long j3), .second, .val (.long j4), .second, .val (.int la), .val (.int lb), .val (.long kk), .second, .val (.long nn), .second, .val (.long mm), .second, .val (.ref bP), .val (.ref bQ), .val (.ref bR), .val (.ref bS), .val (.ref bT), .val (.double rW), .second, .val (.double rS), .second, .val (.double rO), .second, .val (.double rL), .second, .unset, .unset, .unset, .unset] [])) target := by
  by_cases hla0 : la = (0 : Int32)
  · by_cases hlt : lb < la
    · refine ⟨T0, _, X0, e0, N0, fun target kt => ?_⟩
      show Steps p.tables e below (T0.setTop (mkF m 174 #[.val (.int p1), .val (.long j2), .second, .val (.long j3), .second, .val (.long j4), .second, .val (.int la), .val (.int lb), .val (.long kk), .second, .val (.long nn), .second, .val (.long mm), .second, .val (.ref bP), .val (.ref bQ), .val (.ref bR), .val (.ref bS), .val (.ref bT), .val (.double rW), .second, .val (.double rS), .second, .val (.double rO), .second, .val (.double rL), .second, .unset, .unset, .unset, .unset] [])) _
      refine XS.dload X0.here hx rfl (hb hby at_174) rfl ?_
      show Steps p.tables e below (T0.setTop (mkF m 176 #[.val (.int p1), .val (.long j2), .second, .val (.long j3), .second, .val (.long j4), .second, .val (.int la), .val (.int lb), .val (.long kk), .second, .val (.long nn), .second, .val (.long mm), .second, .val (.ref bP), .val (.ref bQ), .val (.ref bR), .val (.ref bS), .val (.ref bT), .val (.double rW), .second, .val (.double rS), .second, .val (.double rO), .second, .val (.double rL), .second, .unset, .unset, .unset, .unset] [(.double rW)])) _
      refine XS.iload X0.here hx rfl (hb hby at_176) rfl ?_
      show Steps p.tables e below (T0.setTop (mkF m 178 #[.val (.int p1), .val (.long j2), .second, .val (.long j3), .second, .val (.long j4), .second, .val (.int la), .val (.int lb), .val (.long kk), .second, .val (.long nn), .second, .val (.long mm), .second, .val (.ref bP), .val (.ref bQ), .val (.ref bR), .val (.ref bS), .val (.ref bT), .val (.double rW), .second, .val (.double rS), .second, .val (.double rO), .second, .val (.double rL), .second, .unset, .unset, .unset, .unset] [(.int la), (.double rW)])) _
      refine XS.i2dS X0.here hx rfl (hb hby at_178) rfl (v := (Jvm.FP.l2d la.toInt64)) (Jvm.FP.Core.i2d_l2d la) ?_
      show Steps p.tables e below (T0.setTop (mkF m 179 #[.val (.int p1), .val (.long j2), .second, .val (.long j3), .second, .val (.long j4), .second, .val (.int la), .val (.int lb), .val (.long kk), .second, .val (.long nn), .second, .val (.long mm), .second, .val (.ref bP), .val (.ref bQ), .val (.ref bR), .val (.ref bS), .val (.ref bT), .val (.double rW), .second, .val (.double rS), .second, .val (.double rO), .second, .val (.double rL), .second, .unset, .unset, .unset, .unset] [(.double (Jvm.FP.l2d la.toInt64)), (.double rW)])) _
      refine XS.lload X0.here hx rfl (hb hby at_179) rfl ?_
      show Steps p.tables e below (T0.setTop (mkF m 181 #[.val (.int p1), .val (.long j2), .second, .val (.long j3), .second, .val (.long j4), .second, .val (.int la), .val (.int lb), .val (.long kk), .second, .val (.long nn), .second, .val (.long mm), .second, .val (.ref bP), .val (.ref bQ), .val (.ref bR), .val (.ref bS), .val (.ref bT), .val (.double rW), .second, .val (.double rS), .second, .val (.double rO), .second, .val (.double rL), .second, .unset, .unset, .unset, .unset] [(.long kk), (.double (Jvm.FP.l2d la.toInt64)), (.double rW)])) _
      refine XS.l2dS X0.here hx rfl (hb hby at_181) rfl (v := (Jvm.FP.l2d kk)) rfl ?_
      show Steps p.tables e below (T0.setTop (mkF m 182 #[.val (.int p1), .val (.long j2), .second, .val (.long j3), .second, .val (.long j4), .second, .val (.int la), .val (.int lb), .val (.long kk), .second, .val (.long nn), .second, .val (.long mm), .second, .val (.ref bP), .val (.ref bQ), .val (.ref bR), .val (.ref bS), .val (.ref bT), .val (.double rW), .second, .val (.double rS), .second, .val (.double rO), .second, .val (.double rL), .second, .unset, .unset, .unset, .unset] [(.double (Jvm.FP.l2d kk)), (.double (Jvm.FP.l2d la.toInt64)), (.double rW)])) _
      refine XS.ddivS X0.here hx rfl (hb hby at_182) rfl (v := rK) hnK hrK ?_
      show Steps p.tables e below (T0.setTop (mkF m 183 #[.val (.int p1), .val (.long j2), .second, .val (.long j3), .second, .val (.long j4), .second, .val (.int la), .val (.int lb), .val (.long kk), .second, .val (.long nn), .second, .val (.long mm), .second, .val (.ref bP), .val (.ref bQ), .val (.ref bR), .val (.ref bS), .val (.ref bT), .val (.double rW), .second, .val (.double rS), .second, .val (.double rO), .second, .val (.double rL), .second, .unset, .unset, .unset, .unset] [(.double rK), (.double rW)])) _
      refine XS.dcmpS X0.here hx rfl (hb hby at_183) rfl (v := (0 : Int32)) hcE ?_
      show Steps p.tables e below (T0.setTop (mkF m 184 #[.val (.int p1), .val (.long j2), .second, .val (.long j3), .second, .val (.long j4), .second, .val (.int la), .val (.int lb), .val (.long kk), .second, .val (.long nn), .second, .val (.long mm), .second, .val (.ref bP), .val (.ref bQ), .val (.ref bR), .val (.ref bS), .val (.ref bT), .val (.double rW), .second, .val (.double rS), .second, .val (.double rO), .second, .val (.double rL), .second, .unset, .unset, .unset, .unset] [(.int (0 : Int32))])) _
      refine XS.ifNo X0.here hx rfl (hb hby at_184) rfl ((if0 _ _).trans (teq (by decide : (0 : Int32) = (0 : Int32))).2) ?_
      show Steps p.tables e below (T0.setTop (mkF m 187 #[.val (.int p1), .val (.long j2), .second, .val (.long j3), .second, .val (.long j4), .second, .val (.int la), .val (.int lb), .val (.long kk), .second, .val (.long nn), .second, .val (.long mm), .second, .val (.ref bP), .val (.ref bQ), .val (.ref bR), .val (.ref bS), .val (.ref bT), .val (.double rW), .second, .val (.double rS), .second, .val (.double rO), .second, .val (.double rL), .second, .unset, .unset, .unset, .unset] [])) _
      refine XS.iconst X0.here hx rfl (hb hby at_187) ?_
      show Steps p.tables e below (T0.setTop (mkF m 188 #[.val (.int p1), .val (.long j2), .second, .val (.long j3), .second, .val (.long j4), .second, .val (.int la), .val (.int lb), .val (.long kk), .second, .val (.long nn), .second, .val (.long mm), .second, .val (.ref bP), .val (.ref bQ), .val (.ref bR), .val (.ref bS), .val (.ref bT), .val (.double rW), .second, .val (.double rS), .second, .val (.double rO), .second, .val (.double rL), .second, .unset, .unset, .unset, .unset] [(.int (1 : Int32))])) _
      refine XS.goto X0.here hx rfl (pc0 := 188) (pc' := 192) rfl (hb hby at_188) (by decide) (by decide) ?_
      show Steps p.tables e below (T0.setTop (mkF m 192 #[.val (.int p1), .val (.long j2), .second, .val (.long j3), .second, .val (.long j4), .second, .val (.int la), .val (.int lb), .val (.long kk), .second, .val (.long nn), .second, .val (.long mm), .second, .val (.ref bP), .val (.ref bQ), .val (.ref bR), .val (.ref bS), .val (.ref bT), .val (.double rW), .second, .val (.double rS), .second, .val (.double rO), .second, .val (.double rL), .second, .unset, .unset, .unset, .unset] [(.int (1 : Int32))])) _
      refine XS.istore X0.here hx rfl (hb hby at_192) rfl (l' := #[.val (.int p1), .val (.long j2), .second, .val (.long j3), .second, .val (.long j4), .second, .val (.int la), .val (.int lb), .val (.long kk), .second, .val (.long nn), .second, .val (.long mm), .second, .val (.ref bP), .val (.ref bQ), .val (.ref bR), .val (.ref bS), .val (.ref bT), .val (.double rW), .second, .val (.double rS), .second, .val (.double rO), .second, .val (.double rL), .second, .val (.int (1 : Int32)), .unset, .unset, .unset]) rfl ?_
      show Steps p.tables e below (T0.setTop (mkF m 194 #[.val (.int p1), .val (.long j2), .second, .val (.long j3), .second, .val (.long j4), .second, .val (.int la), .val (.int lb), .val (.long kk), .second, .val (.long nn), .second, .val (.long mm), .second, .val (.ref bP), .val (.ref bQ), .val (.ref bR), .val (.ref bS), .val (.ref bT), .val (.double rW), .second, .val (.double rS), .second, .val (.double rO), .second, .val (.double rL), .second, .val (.int (1 : Int32)), .unset, .unset, .unset] [])) _
      refine XS.iload X0.here hx rfl (hb hby at_194) rfl ?_
      show Steps p.tables e below (T0.setTop (mkF m 196 #[.val (.int p1), .val (.long j2), .second, .val (.long j3), .second, .val (.long j4), .second, .val (.int la), .val (.int lb), .val (.long kk), .second, .val (.long nn), .second, .val (.long mm), .second, .val (.ref bP), .val (.ref bQ), .val (.ref bR), .val (.ref bS), .val (.ref bT), .val (.double rW), .second, .val (.double rS), .second, .val (.double rO), .second, .val (.double rL), .second, .val (.int (1 : Int32)), .unset, .unset, .unset] [(.int la)])) _
      refine XS.ifNo X0.here hx rfl (hb hby at_196) rfl ((if0 _ _).trans (teq hla0).2) ?_
      show Steps p.tables e below (T0.setTop (mkF m 199 #[.val (.int p1), .val (.long j2), .second, .val (.long j3), .second, .val (.long j4), .second, .val (.int la), .val (.int lb), .val (.long kk), .second, .val (.long nn), .second, .val (.long mm), .second, .val (.ref bP), .val (.ref bQ), .val (.ref bR), .val (.ref bS), .val (.ref bT), .val (.double rW), .second, .val (.double rS), .second, .val (.double rO), .second, .val (.double rL), .second, .val (.int (1 : Int32)), .unset, .unset, .unset] [])) _
      refine XS.dload X0.here hx rfl (hb hby at_199) rfl ?_
      show Steps p.tables e below (T0.setTop (mkF m 201 #[.val (.int p1), .val (.long j2), .second, .val (.long j3), .second, .val (.long j4), .second, .val (.int la), .val (.int lb), .val (.long kk), .second, .val (.long nn), .second, .val (.long mm), .second, .val (.ref bP), .val (.ref bQ), .val (.ref bR), .val (.ref bS), .val (.ref bT), .val (.double rW), .second, .val (.double rS), .second, .val (.double rO), .second, .val (.double rL), .second, .val (.int (1 : Int32)), .unset, .unset, .unset] [(.double rS)])) _
      refine XS.dconst0 X0.here hx rfl (hb hby at_201) (v := (0 : UInt64)) rfl ?_
      show Steps p.tables e below (T0.setTop (mkF m 202 #[.val (.int p1), .val (.long j2), .second, .val (.long j3), .second, .val (.long j4), .second, .val (.int la), .val (.int lb), .val (.long kk), .second, .val (.long nn), .second, .val (.long mm), .second, .val (.ref bP), .val (.ref bQ), .val (.ref bR), .val (.ref bS), .val (.ref bT), .val (.double rW), .second, .val (.double rS), .second, .val (.double rO), .second, .val (.double rL), .second, .val (.int (1 : Int32)), .unset, .unset, .unset] [(.double (0 : UInt64)), (.double rS)])) _
      refine XS.dcmpS X0.here hx rfl (hb hby at_202) rfl (v := (0 : Int32)) (hc0 hla0) ?_
      show Steps p.tables e below (T0.setTop (mkF m 203 #[.val (.int p1), .val (.long j2), .second, .val (.long j3), .second, .val (.long j4), .second, .val (.int la), .val (.int lb), .val (.long kk), .second, .val (.long nn), .second, .val (.long mm), .second, .val (.ref bP), .val (.ref bQ), .val (.ref bR), .val (.ref bS), .val (.ref bT), .val (.double rW), .second, .val (.double rS), .second, .val (.double rO), .second, .val (.double rL), .second, .val (.int (1 : Int32)), .unset, .unset, .unset] [(.int (0 : Int32))])) _
      refine XS.ifNo X0.here hx rfl (hb hby at_203) rfl ((if0 _ _).trans (teq (by decide : (0 : Int32) = (0 : Int32))).2) ?_
      show Steps p.tables e below (T0.setTop (mkF m 206 #[.val (.int p1), .val (.long j2), .second, .val (.long j3), .second, .val (.long j4), .second, .val (.int la), .val (.int lb), .val (.long kk), .second, .val (.long nn), .second, .val (.long mm), .second, .val (.ref bP), .val (.ref bQ), .val (.ref bR), .val (.ref bS), .val (.ref bT), .val (.double rW), .second, .val (.double rS), .second, .val (.double rO), .second, .val (.double rL), .second, .val (.int (1 : Int32)), .unset, .unset, .unset] [])) _
      refine XS.iconst X0.here hx rfl (hb hby at_206) ?_
      show Steps p.tables e below (T0.setTop (mkF m 207 #[.val (.int p1), .val (.long j2), .second, .val (.long j3), .second, .val (.long j4), .second, .val (.int la), .val (.int lb), .val (.long kk), .second, .val (.long nn), .second, .val (.long mm), .second, .val (.ref bP), .val (.ref bQ), .val (.ref bR), .val (.ref bS), .val (.ref bT), .val (.double rW), .second, .val (.double rS), .second, .val (.double rO), .second, .val (.double rL), .second, .val (.int (1 : Int32)), .unset, .unset, .unset] [(.int (1 : Int32))])) _
      refine XS.goto X0.here hx rfl (pc0 := 207) (pc' := 226) rfl (hb hby at_207) (by decide) (by decide) ?_
      show Steps p.tables e below (T0.setTop (mkF m 226 #[.val (.int p1), .val (.long j2), .second, .val (.long j3), .second, .val (.long j4), .second, .val (.int la), .val (.int lb), .val (.long kk), .second, .val (.long nn), .second, .val (.long mm), .second, .val (.ref bP), .val (.ref bQ), .val (.ref bR), .val (.ref bS), .val (.ref bT), .val (.double rW), .second, .val (.double rS), .second, .val (.double rO), .second, .val (.double rL), .second, .val (.int (1 : Int32)), .unset, .unset, .unset] [(.int (1 : Int32))])) _
      refine XS.istore X0.here hx rfl (hb hby at_226) rfl (l' := #[.val (.int p1), .val (.long j2), .second, .val (.long j3), .second, .val (.long j4), .second, .val (.int la), .val (.int lb), .val (.long kk), .second, .val (.long nn), .second, .val (.long mm), .second, .val (.ref bP), .val (.ref bQ), .val (.ref bR), .val (.ref bS), .val (.ref bT), .val (.double rW), .second, .val (.double rS), .second, .val (.double rO), .second, .val (.double rL), .second, .val (.int (1 : Int32)), .val (.int (1 : Int32)), .unset, .unset]) rfl ?_
      show Steps p.tables e below (T0.setTop (mkF m 228 #[.val (.int p1), .val (.long j2), .second, .val (.long j3), .second, .val (.long j4), .second, .val (.int la), .val (.int lb), .val (.long kk), .second, .val (.long nn), .second, .val (.long mm), .second, .val (.ref bP), .val (.ref bQ), .val (.ref bR), .val (.ref bS), .val (.ref bT), .val (.double rW), .second, .val (.double rS), .second, .val (.double rO), .second, .val (.double rL), .second, .val (.int (1 : Int32)), .val (.int (1 : Int32)), .unset, .unset] [])) _
      refine XS.iload X0.here hx rfl (hb hby at_228) rfl ?_
      show Steps p.tables e below (T0.setTop (mkF m 230 #[.val (.int p1), .val (.long j2), .second, .val (.long j3), .second, .val (.long j4), .second, .val (.int la), .val (.int lb), .val (.long kk), .second, .val (.long nn), .second, .val (.long mm), .second, .val (.ref bP), .val (.ref bQ), .val (.ref bR), .val (.ref bS), .val (.ref bT), .val (.double rW), .second, .val (.double rS), .second, .val (.double rO), .second, .val (.double rL), .second, .val (.int (1 : Int32)), .val (.int (1 : Int32)), .unset, .unset] [(.int la)])) _
      refine XS.iload X0.here hx rfl (hb hby at_230) rfl ?_
      show Steps p.tables e below (T0.setTop (mkF m 232 #[.val (.int p1), .val (.long j2), .second, .val (.long j3), .second, .val (.long j4), .second, .val (.int la), .val (.int lb), .val (.long kk), .second, .val (.long nn), .second, .val (.long mm), .second, .val (.ref bP), .val (.ref bQ), .val (.ref bR), .val (.ref bS), .val (.ref bT), .val (.double rW), .second, .val (.double rS), .second, .val (.double rO), .second, .val (.double rL), .second, .val (.int (1 : Int32)), .val (.int (1 : Int32)), .unset, .unset] [(.int lb), (.int la)])) _
      refine XS.icmpYes X0.here hx rfl (pc0 := 232) (pc' := 251) rfl (hb hby at_232) rfl (tlt hlt).2.2.1 (by decide) (by decide) ?_
      show Steps p.tables e below (T0.setTop (mkF m 251 #[.val (.int p1), .val (.long j2), .second, .val (.long j3), .second, .val (.long j4), .second, .val (.int la), .val (.int lb), .val (.long kk), .second, .val (.long nn), .second, .val (.long mm), .second, .val (.ref bP), .val (.ref bQ), .val (.ref bR), .val (.ref bS), .val (.ref bT), .val (.double rW), .second, .val (.double rS), .second, .val (.double rO), .second, .val (.double rL), .second, .val (.int (1 : Int32)), .val (.int (1 : Int32)), .unset, .unset] [])) _
      refine XS.dload X0.here hx rfl (hb hby at_251) rfl ?_
      show Steps p.tables e below (T0.setTop (mkF m 253 #[.val (.int p1), .val (.long j2), .second, .val (.long j3), .second, .val (.long j4), .second, .val (.int la), .val (.int lb), .val (.long kk), .second, .val (.long nn), .second, .val (.long mm), .second, .val (.ref bP), .val (.ref bQ), .val (.ref bR), .val (.ref bS), .val (.ref bT), .val (.double rW), .second, .val (.double rS), .second, .val (.double rO), .second, .val (.double rL), .second, .val (.int (1 : Int32)), .val (.int (1 : Int32)), .unset, .unset] [(.double rS)])) _
      refine XS.dload X0.here hx rfl (hb hby at_253) rfl ?_
      show Steps p.tables e below (T0.setTop (mkF m 255 #[.val (.int p1), .val (.long j2), .second, .val (.long j3), .second, .val (.long j4), .second, .val (.int la), .val (.int lb), .val (.long kk), .second, .val (.long nn), .second, .val (.long mm), .second, .val (.ref bP), .val (.ref bQ), .val (.ref bR), .val (.ref bS), .val (.ref bT), .val (.double rW), .second, .val (.double rS), .second, .val (.double rO), .second, .val (.double rL), .second, .val (.int (1 : Int32)), .val (.int (1 : Int32)), .unset, .unset] [(.double rO), (.double rS)])) _
      refine XS.dcmpS X0.here hx rfl (hb hby at_255) rfl (v := vC) hvC ?_
      show Steps p.tables e below (T0.setTop (mkF m 256 #[.val (.int p1), .val (.long j2), .second, .val (.long j3), .second, .val (.long j4), .second, .val (.int la), .val (.int lb), .val (.long kk), .second, .val (.long nn), .second, .val (.long mm), .second, .val (.ref bP), .val (.ref bQ), .val (.ref bR), .val (.ref bS), .val (.ref bT), .val (.double rW), .second, .val (.double rS), .second, .val (.double rO), .second, .val (.double rL), .second, .val (.int (1 : Int32)), .val (.int (1 : Int32)), .unset, .unset] [(.int vC)])) _
      refine XS.ifNo X0.here hx rfl (hb hby at_256) rfl ((if0 _ _).trans (flt (hC hlt)).1) ?_
      show Steps p.tables e below (T0.setTop (mkF m 259 #[.val (.int p1), .val (.long j2), .second, .val (.long j3), .second, .val (.long j4), .second, .val (.int la), .val (.int lb), .val (.long kk), .second, .val (.long nn), .second, .val (.long mm), .second, .val (.ref bP), .val (.ref bQ), .val (.ref bR), .val (.ref bS), .val (.ref bT), .val (.double rW), .second, .val (.double rS), .second, .val (.double rO), .second, .val (.double rL), .second, .val (.int (1 : Int32)), .val (.int (1 : Int32)), .unset, .unset] [])) _
      refine XS.iconst X0.here hx rfl (hb hby at_259) ?_
      show Steps p.tables e below (T0.setTop (mkF m 260 #[.val (.int p1), .val (.long j2), .second, .val (.long j3), .second, .val (.long j4), .second, .val (.int la), .val (.int lb), .val (.long kk), .second, .val (.long nn), .second, .val (.long mm), .second, .val (.ref bP), .val (.ref bQ), .val (.ref bR), .val (.ref bS), .val (.ref bT), .val (.double rW), .second, .val (.double rS), .second, .val (.double rO), .second, .val (.double rL), .second, .val (.int (1 : Int32)), .val (.int (1 : Int32)), .unset, .unset] [(.int (1 : Int32))])) _
      refine XS.goto X0.here hx rfl (pc0 := 260) (pc' := 264) rfl (hb hby at_260) (by decide) (by decide) ?_
      show Steps p.tables e below (T0.setTop (mkF m 264 #[.val (.int p1), .val (.long j2), .second, .val (.long j3), .second, .val (.long j4), .second, .val (.int la), .val (.int lb), .val (.long kk), .second, .val (.long nn), .second, .val (.long mm), .second, .val (.ref bP), .val (.ref bQ), .val (.ref bR), .val (.ref bS), .val (.ref bT), .val (.double rW), .second, .val (.double rS), .second, .val (.double rO), .second, .val (.double rL), .second, .val (.int (1 : Int32)), .val (.int (1 : Int32)), .unset, .unset] [(.int (1 : Int32))])) _
      refine XS.istore X0.here hx rfl (hb hby at_264) rfl (l' := #[.val (.int p1), .val (.long j2), .second, .val (.long j3), .second, .val (.long j4), .second, .val (.int la), .val (.int lb), .val (.long kk), .second, .val (.long nn), .second, .val (.long mm), .second, .val (.ref bP), .val (.ref bQ), .val (.ref bR), .val (.ref bS), .val (.ref bT), .val (.double rW), .second, .val (.double rS), .second, .val (.double rO), .second, .val (.double rL), .second, .val (.int (1 : Int32)), .val (.int (1 : Int32)), .val (.int (1 : Int32)), .unset]) rfl ?_
      show Steps p.tables e below (T0.setTop (mkF m 266 #[.val (.int p1), .val (.long j2), .second, .val (.long j3), .second, .val (.long j4), .second, .val (.int la), .val (.int lb), .val (.long kk), .second, .val (.long nn), .second, .val (.long mm), .second, .val (.ref bP), .val (.ref bQ), .val (.ref bR), .val (.ref bS), .val (.ref bT), .val (.double rW), .second, .val (.double rS), .second, .val (.double rO), .second, .val (.double rL), .second, .val (.int (1 : Int32)), .val (.int (1 : Int32)), .val (.int (1 : Int32)), .unset] [])) _
      refine XS.dload X0.here hx rfl (hb hby at_266) rfl ?_
      show Steps p.tables e below (T0.setTop (mkF m 268 #[.val (.int p1), .val (.long j2), .second, .val (.long j3), .second, .val (.long j4), .second, .val (.int la), .val (.int lb), .val (.long kk), .second, .val (.long nn), .second, .val (.long mm), .second, .val (.ref bP), .val (.ref bQ), .val (.ref bR), .val (.ref bS), .val (.ref bT), .val (.double rW), .second, .val (.double rS), .second, .val (.double rO), .second, .val (.double rL), .second, .val (.int (1 : Int32)), .val (.int (1 : Int32)), .val (.int (1 : Int32)), .unset] [(.double rL)])) _
      refine XS.dload X0.here hx rfl (hb hby at_268) rfl ?_
      show Steps p.tables e below (T0.setTop (mkF m 270 #[.val (.int p1), .val (.long j2), .second, .val (.long j3), .second, .val (.long j4), .second, .val (.int la), .val (.int lb), .val (.long kk), .second, .val (.long nn), .second, .val (.long mm), .second, .val (.ref bP), .val (.ref bQ), .val (.ref bR), .val (.ref bS), .val (.ref bT), .val (.double rW), .second, .val (.double rS), .second, .val (.double rO), .second, .val (.double rL), .second, .val (.int (1 : Int32)), .val (.int (1 : Int32)), .val (.int (1 : Int32)), .unset] [(.double rS), (.double rL)])) _
      refine XS.dcmpS X0.here hx rfl (hb hby at_270) rfl (v := vD) hvD ?_
      show Steps p.tables e below (T0.setTop (mkF m 271 #[.val (.int p1), .val (.long j2), .second, .val (.long j3), .second, .val (.long j4), .second, .val (.int la), .val (.int lb), .val (.long kk), .second, .val (.long nn), .second, .val (.long mm), .second, .val (.ref bP), .val (.ref bQ), .val (.ref bR), .val (.ref bS), .val (.ref bT), .val (.double rW), .second, .val (.double rS), .second, .val (.double rO), .second, .val (.double rL), .second, .val (.int (1 : Int32)), .val (.int (1 : Int32)), .val (.int (1 : Int32)), .unset] [(.int vD)])) _
      refine XS.ifNo X0.here hx rfl (hb hby at_271) rfl ((if0 _ _).trans (flt hD).2.2.1) ?_
      show Steps p.tables e below (T0.setTop (mkF m 274 #[.val (.int p1), .val (.long j2), .second, .val (.long j3), .second, .val (.long j4), .second, .val (.int la), .val (.int lb), .val (.long kk), .second, .val (.long nn), .second, .val (.long mm), .second, .val (.ref bP), .val (.ref bQ), .val (.ref bR), .val (.ref bS), .val (.ref bT), .val (.double rW), .second, .val (.double rS), .second, .val (.double rO), .second, .val (.double rL), .second, .val (.int (1 : Int32)), .val (.int (1 : Int32)), .val (.int (1 : Int32)), .unset] [])) _
      refine XS.iconst X0.here hx rfl (hb hby at_274) ?_
      show Steps p.tables e below (T0.setTop (mkF m 275 #[.val (.int p1), .val (.long j2), .second, .val (.long j3), .second, .val (.long j4), .second, .val (.int la), .val (.int lb), .val (.long kk), .second, .val (.long nn), .second, .val (.long mm), .second, .val (.ref bP), .val (.ref bQ), .val (.ref bR), .val (.ref bS), .val (.ref bT), .val (.double rW), .second, .val (.double rS), .second, .val (.double rO), .second, .val (.double rL), .second, .val (.int (1 : Int32)), .val (.int (1 : Int32)), .val (.int (1 : Int32)), .unset] [(.int (1 : Int32))])) _
      refine XS.goto X0.here hx rfl (pc0 := 275) (pc' := 279) rfl (hb hby at_275) (by decide) (by decide) ?_
      show Steps p.tables e below (T0.setTop (mkF m 279 #[.val (.int p1), .val (.long j2), .second, .val (.long j3), .second, .val (.long j4), .second, .val (.int la), .val (.int lb), .val (.long kk), .second, .val (.long nn), .second, .val (.long mm), .second, .val (.ref bP), .val (.ref bQ), .val (.ref bR), .val (.ref bS), .val (.ref bT), .val (.double rW), .second, .val (.double rS), .second, .val (.double rO), .second, .val (.double rL), .second, .val (.int (1 : Int32)), .val (.int (1 : Int32)), .val (.int (1 : Int32)), .unset] [(.int (1 : Int32))])) _
      refine XS.istore X0.here hx rfl (hb hby at_279) rfl (l' := #[.val (.int p1), .val (.long j2), .second, .val (.long j3), .second, .val (.long j4), .second, .val (.int la), .val (.int lb), .val (.long kk), .second, .val (.long nn), .second, .val (.long mm), .second, .val (.ref bP), .val (.ref bQ), .val (.ref bR), .val (.ref bS), .val (.ref bT), .val (.double rW), .second, .val (.double rS), .second, .val (.double rO), .second, .val (.double rL), .second, .val (.int (1 : Int32)), .val (.int (1 : Int32)), .val (.int (1 : Int32)), .val (.int (1 : Int32))]) rfl ?_
      show Steps p.tables e below (T0.setTop (mkF m 281 #[.val (.int p1), .val (.long j2), .second, .val (.long j3), .second, .val (.long j4), .second, .val (.int la), .val (.int lb), .val (.long kk), .second, .val (.long nn), .second, .val (.long mm), .second, .val (.ref bP), .val (.ref bQ), .val (.ref bR), .val (.ref bS), .val (.ref bT), .val (.double rW), .second, .val (.double rS), .second, .val (.double rO), .second, .val (.double rL), .second, .val (.int (1 : Int32)), .val (.int (1 : Int32)), .val (.int (1 : Int32)), .val (.int (1 : Int32))] [])) _
      refine XS.iload X0.here hx rfl (hb hby at_281) rfl ?_
      show Steps p.tables e below (T0.setTop (mkF m 283 #[.val (.int p1), .val (.long j2), .second, .val (.long j3), .second, .val (.long j4), .second, .val (.int la), .val (.int lb), .val (.long kk), .second, .val (.long nn), .second, .val (.long mm), .second, .val (.ref bP), .val (.ref bQ), .val (.ref bR), .val (.ref bS), .val (.ref bT), .val (.double rW), .second, .val (.double rS), .second, .val (.double rO), .second, .val (.double rL), .second, .val (.int (1 : Int32)), .val (.int (1 : Int32)), .val (.int (1 : Int32)), .val (.int (1 : Int32))] [(.int (1 : Int32))])) _
      refine XS.ifNo X0.here hx rfl (hb hby at_283) rfl ((if0 _ _).trans (feq (by decide : ¬ ((1 : Int32) = (0 : Int32)))).1) ?_
      show Steps p.tables e below (T0.setTop (mkF m 286 #[.val (.int p1), .val (.long j2), .second, .val (.long j3), .second, .val (.long j4), .second, .val (.int la), .val (.int lb), .val (.long kk), .second, .val (.long nn), .second, .val (.long mm), .second, .val (.ref bP), .val (.ref bQ), .val (.ref bR), .val (.ref bS), .val (.ref bT), .val (.double rW), .second, .val (.double rS), .second, .val (.double rO), .second, .val (.double rL), .second, .val (.int (1 : Int32)), .val (.int (1 : Int32)), .val (.int (1 : Int32)), .val (.int (1 : Int32))] [])) _
      refine XS.iload X0.here hx rfl (hb hby at_286) rfl ?_
      show Steps p.tables e below (T0.setTop (mkF m 288 #[.val (.int p1), .val (.long j2), .second, .val (.long j3), .second, .val (.long j4), .second, .val (.int la), .val (.int lb), .val (.long kk), .second, .val (.long nn), .second, .val (.long mm), .second, .val (.ref bP), .val (.ref bQ), .val (.ref bR), .val (.ref bS), .val (.ref bT), .val (.double rW), .second, .val (.double rS), .second, .val (.double rO), .second, .val (.double rL), .second, .val (.int (1 : Int32)), .val (.int (1 : Int32)), .val (.int (1 : Int32)), .val (.int (1 : Int32))] [(.int (1 : Int32))])) _
      refine XS.ifNo X0.here hx rfl (hb hby at_288) rfl ((if0 _ _).trans (feq (by decide : ¬ ((1 : Int32) = (0 : Int32)))).1) ?_
      show Steps p.tables e below (T0.setTop (mkF m 291 #[.val (.int p1), .val (.long j2), .second, .val (.long j3), .second, .val (.long j4), .second, .val (.int la), .val (.int lb), .val (.long kk), .second, .val (.long nn), .second, .val (.long mm), .second, .val (.ref bP), .val (.ref bQ), .val (.ref bR), .val (.ref bS), .val (.ref bT), .val (.double rW), .second, .val (.double rS), .second, .val (.double rO), .second, .val (.double rL), .second, .val (.int (1 : Int32)), .val (.int (1 : Int32)), .val (.int (1 : Int32)), .val (.int (1 : Int32))] [])) _
      refine XS.iload X0.here hx rfl (hb hby at_291) rfl ?_
      show Steps p.tables e below (T0.setTop (mkF m 293 #[.val (.int p1), .val (.long j2), .second, .val (.long j3), .second, .val (.long j4), .second, .val (.int la), .val (.int lb), .val (.long kk), .second, .val (.long nn), .second, .val (.long mm), .second, .val (.ref bP), .val (.ref bQ), .val (.ref bR), .val (.ref bS), .val (.ref bT), .val (.double rW), .second, .val (.double rS), .second, .val (.double rO), .second, .val (.double rL), .second, .val (.int (1 : Int32)), .val (.int (1 : Int32)), .val (.int (1 : Int32)), .val (.int (1 : Int32))] [(.int (1 : Int32))])) _
      refine XS.ifNo X0.here hx rfl (hb hby at_293) rfl ((if0 _ _).trans (feq (by decide : ¬ ((1 : Int32) = (0 : Int32)))).1) ?_
      show Steps p.tables e below (T0.setTop (mkF m 296 #[.val (.int p1), .val (.long j2), .second, .val (.long j3), .second, .val (.long j4), .second, .val (.int la), .val (.int lb), .val (.long kk), .second, .val (.long nn), .second, .val (.long mm), .second, .val (.ref bP), .val (.ref bQ), .val (.ref bR), .val (.ref bS), .val (.ref bT), .val (.double rW), .second, .val (.double rS), .second, .val (.double rO), .second, .val (.double rL), .second, .val (.int (1 : Int32)), .val (.int (1 : Int32)), .val (.int (1 : Int32)), .val (.int (1 : Int32))] [])) _
      refine XS.iload X0.here hx rfl (hb hby at_296) rfl ?_
      show Steps p.tables e below (T0.setTop (mkF m 298 #[.val (.int p1), .val (.long j2), .second, .val (.long j3), .second, .val (.long j4), .second, .val (.int la), .val (.int lb), .val (.long kk), .second, .val (.long nn), .second, .val (.long mm), .second, .val (.ref bP), .val (.ref bQ), .val (.ref bR), .val (.ref bS), .val (.ref bT), .val (.double rW), .second, .val (.double rS), .second, .val (.double rO), .second, .val (.double rL), .second, .val (.int (1 : Int32)), .val (.int (1 : Int32)), .val (.int (1 : Int32)), .val (.int (1 : Int32))] [(.int (1 : Int32))])) _
      refine XS.ifNo X0.here hx rfl (hb hby at_298) rfl ((if0 _ _).trans (feq (by decide : ¬ ((1 : Int32) = (0 : Int32)))).1) ?_
      show Steps p.tables e below (T0.setTop (mkF m 301 #[.val (.int p1), .val (.long j2), .second, .val (.long j3), .second, .val (.long j4), .second, .val (.int la), .val (.int lb), .val (.long kk), .second, .val (.long nn), .second, .val (.long mm), .second, .val (.ref bP), .val (.ref bQ), .val (.ref bR), .val (.ref bS), .val (.ref bT), .val (.double rW), .second, .val (.double rS), .second, .val (.double rO), .second, .val (.double rL), .second, .val (.int (1 : Int32)), .val (.int (1 : Int32)), .val (.int (1 : Int32)), .val (.int (1 : Int32))] [])) _
      refine XS.iconst X0.here hx rfl (hb hby at_301) ?_
      show Steps p.tables e below (T0.setTop (mkF m 302 #[.val (.int p1), .val (.long j2), .second, .val (.long j3), .second, .val (.long j4), .second, .val (.int la), .val (.int lb), .val (.long kk), .second, .val (.long nn), .second, .val (.long mm), .second, .val (.ref bP), .val (.ref bQ), .val (.ref bR), .val (.ref bS), .val (.ref bT), .val (.double rW), .second, .val (.double rS), .second, .val (.double rO), .second, .val (.double rL), .second, .val (.int (1 : Int32)), .val (.int (1 : Int32)), .val (.int (1 : Int32)), .val (.int (1 : Int32))] [(.int (1 : Int32))])) _
      refine XS.goto X0.here hx rfl (pc0 := 302) (pc' := 306) rfl (hb hby at_302) (by decide) (by decide) ?_
      exact kt
    · refine ⟨T0, _, X0, e0, N0, fun target kt => ?_⟩
      show Steps p.tables e below (T0.setTop (mkF m 174 #[.val (.int p1), .val (.long j2), .second, .val (.long j3), .second, .val (.long j4), .second, .val (.int la), .val (.int lb), .val (.long kk), .second, .val (.long nn), .second, .val (.long mm), .second, .val (.ref bP), .val (.ref bQ), .val (.ref bR), .val (.ref bS), .val (.ref bT), .val (.double rW), .second, .val (.double rS), .second, .val (.double rO), .second, .val (.double rL), .second, .unset, .unset, .unset, .unset] [])) _
      refine XS.dload X0.here hx rfl (hb hby at_174) rfl ?_
      show Steps p.tables e below (T0.setTop (mkF m 176 #[.val (.int p1), .val (.long j2), .second, .val (.long j3), .second, .val (.long j4), .second, .val (.int la), .val (.int lb), .val (.long kk), .second, .val (.long nn), .second, .val (.long mm), .second, .val (.ref bP), .val (.ref bQ), .val (.ref bR), .val (.ref bS), .val (.ref bT), .val (.double rW), .second, .val (.double rS), .second, .val (.double rO), .second, .val (.double rL), .second, .unset, .unset, .unset, .unset] [(.double rW)])) _
      refine XS.iload X0.here hx rfl (hb hby at_176) rfl ?_
      show Steps p.tables e below (T0.setTop (mkF m 178 #[.val (.int p1), .val (.long j2), .second, .val (.long j3), .second, .val (.long j4), .second, .val (.int la), .val (.int lb), .val (.long kk), .second, .val (.long nn), .second, .val (.long mm), .second, .val (.ref bP), .val (.ref bQ), .val (.ref bR), .val (.ref bS), .val (.ref bT), .val (.double rW), .second, .val (.double rS), .second, .val (.double rO), .second, .val (.double rL), .second, .unset, .unset, .unset, .unset] [(.int la), (.double rW)])) _
      refine XS.i2dS X0.here hx rfl (hb hby at_178) rfl (v := (Jvm.FP.l2d la.toInt64)) (Jvm.FP.Core.i2d_l2d la) ?_
      show Steps p.tables e below (T0.setTop (mkF m 179 #[.val (.int p1), .val (.long j2), .second, .val (.long j3), .second, .val (.long j4), .second, .val (.int la), .val (.int lb), .val (.long kk), .second, .val (.long nn), .second, .val (.long mm), .second, .val (.ref bP), .val (.ref bQ), .val (.ref bR), .val (.ref bS), .val (.ref bT), .val (.double rW), .second, .val (.double rS), .second, .val (.double rO), .second, .val (.double rL), .second, .unset, .unset, .unset, .unset] [(.double (Jvm.FP.l2d la.toInt64)), (.double rW)])) _
      refine XS.lload X0.here hx rfl (hb hby at_179) rfl ?_
      show Steps p.tables e below (T0.setTop (mkF m 181 #[.val (.int p1), .val (.long j2), .second, .val (.long j3), .second, .val (.long j4), .second, .val (.int la), .val (.int lb), .val (.long kk), .second, .val (.long nn), .second, .val (.long mm), .second, .val (.ref bP), .val (.ref bQ), .val (.ref bR), .val (.ref bS), .val (.ref bT), .val (.double rW), .second, .val (.double rS), .second, .val (.double rO), .second, .val (.double rL), .second, .unset, .unset, .unset, .unset] [(.long kk), (.double (Jvm.FP.l2d la.toInt64)), (.double rW)])) _
      refine XS.l2dS X0.here hx rfl (hb hby at_181) rfl (v := (Jvm.FP.l2d kk)) rfl ?_
      show Steps p.tables e below (T0.setTop (mkF m 182 #[.val (.int p1), .val (.long j2), .second, .val (.long j3), .second, .val (.long j4), .second, .val (.int la), .val (.int lb), .val (.long kk), .second, .val (.long nn), .second, .val (.long mm), .second, .val (.ref bP), .val (.ref bQ), .val (.ref bR), .val (.ref bS), .val (.ref bT), .val (.double rW), .second, .val (.double rS), .second, .val (.double rO), .second, .val (.double rL), .second, .unset, .unset, .unset, .unset] [(.double (Jvm.FP.l2d kk)), (.double (Jvm.FP.l2d la.toInt64)), (.double rW)])) _
      refine XS.ddivS X0.here hx rfl (hb hby at_182) rfl (v := rK) hnK hrK ?_
      show Steps p.tables e below (T0.setTop (mkF m 183 #[.val (.int p1), .val (.long j2), .second, .val (.long j3), .second, .val (.long j4), .second, .val (.int la), .val (.int lb), .val (.long kk), .second, .val (.long nn), .second, .val (.long mm), .second, .val (.ref bP), .val (.ref bQ), .val (.ref bR), .val (.ref bS), .val (.ref bT), .val (.double rW), .second, .val (.double rS), .second, .val (.double rO), .second, .val (.double rL), .second, .unset, .unset, .unset, .unset] [(.double rK), (.double rW)])) _
      refine XS.dcmpS X0.here hx rfl (hb hby at_183) rfl (v := (0 : Int32)) hcE ?_
      show Steps p.tables e below (T0.setTop (mkF m 184 #[.val (.int p1), .val (.long j2), .second, .val (.long j3), .second, .val (.long j4), .second, .val (.int la), .val (.int lb), .val (.long kk), .second, .val (.long nn), .second, .val (.long mm), .second, .val (.ref bP), .val (.ref bQ), .val (.ref bR), .val (.ref bS), .val (.ref bT), .val (.double rW), .second, .val (.double rS), .second, .val (.double rO), .second, .val (.double rL), .second, .unset, .unset, .unset, .unset] [(.int (0 : Int32))])) _
      refine XS.ifNo X0.here hx rfl (hb hby at_184) rfl ((if0 _ _).trans (teq (by decide : (0 : Int32) = (0 : Int32))).2) ?_
      show Steps p.tables e below (T0.setTop (mkF m 187 #[.val (.int p1), .val (.long j2), .second, .val (.long j3), .second, .val (.long j4), .second, .val (.int la), .val (.int lb), .val (.long kk), .second, .val (.long nn), .second, .val (.long mm), .second, .val (.ref bP), .val (.ref bQ), .val (.ref bR), .val (.ref bS), .val (.ref bT), .val (.double rW), .second, .val (.double rS), .second, .val (.double rO), .second, .val (.double rL), .second, .unset, .unset, .unset, .unset] [])) _
      refine XS.iconst X0.here hx rfl (hb hby at_187) ?_
      show Steps p.tables e below (T0.setTop (mkF m 188 #[.val (.int p1), .val (.long j2), .second, .val (.long j3), .second, .val (.long j4), .second, .val (.int la), .val (.int lb), .val (.long kk), .second, .val (.long nn), .second, .val (.long mm), .second, .val (.ref bP), .val (.ref bQ), .val (.ref bR), .val (.ref bS), .val (.ref bT), .val (.double rW), .second, .val (.double rS), .second, .val (.double rO), .second, .val (.double rL), .second, .unset, .unset, .unset, .unset] [(.int (1 : Int32))])) _
      refine XS.goto X0.here hx rfl (pc0 := 188) (pc' := 192) rfl (hb hby at_188) (by decide) (by decide) ?_
      show Steps p.tables e below (T0.setTop (mkF m 192 #[.val (.int p1), .val (.long j2), .second, .val (.long j3), .second, .val (.long j4), .second, .val (.int la), .val (.int lb), .val (.long kk), .second, .val (.long nn), .second, .val (.long mm), .second, .val (.ref bP), .val (.ref bQ), .val (.ref bR), .val (.ref bS), .val (.ref bT), .val (.double rW), .second, .val (.double rS), .second, .val (.double rO), .second, .val (.double rL), .second, .unset, .unset, .unset, .unset] [(.int (1 : Int32))])) _
      refine XS.istore X0.here hx rfl (hb hby at_192) rfl (l' := #[.val (.int p1), .val (.long j2), .second, .val (.long j3), .second, .val (.long j4), .second, .val (.int la), .val (.int lb), .val (.long kk), .second, .val (.long nn), .second, .val (.long mm), .second, .val (.ref bP), .val (.ref bQ), .val (.ref bR), .val (.ref bS), .val (.ref bT), .val (.double rW), .second, .val (.double rS), .second, .val (.double rO), .second, .val (.double rL), .second, .val (.int (1 : Int32)), .unset, .unset, .unset]) rfl ?_
      show Steps p.tables e below (T0.setTop (mkF m 194 #[.val (.int p1), .val (.long j2), .second, .val (.long j3), .second, .val (.long j4), .second, .val (.int la), .val (.int lb), .val (.long kk), .second, .val (.long nn), .second, .val (.long mm), .second, .val (.ref bP), .val (.ref bQ), .val (.ref bR), .val (.ref bS), .val (.ref bT), .val (.double rW), .second, .val (.double rS), .second, .val (.double rO), .second, .val (.double rL), .second, .val (.int (1 : Int32)), .unset, .unset, .unset] [])) _
      refine XS.iload X0.here hx rfl (hb hby at_194) rfl ?_
      show Steps p.tables e below (T0.setTop (mkF m 196 #[.val (.int p1), .val (.long j2), .second, .val (.long j3), .second, .val (.long j4), .second, .val (.int la), .val (.int lb), .val (.long kk), .second, .val (.long nn), .second, .val (.long mm), .second, .val (.ref bP), .val (.ref bQ), .val (.ref bR), .val (.ref bS), .val (.ref bT), .val (.double rW), .second, .val (.double rS), .second, .val (.double rO), .second, .val (.double rL), .second, .val (.int (1 : Int32)), .unset, .unset, .unset] [(.int la)])) _
      refine XS.ifNo X0.here hx rfl (hb hby at_196) rfl ((if0 _ _).trans (teq hla0).2) ?_
      show Steps p.tables e below (T0.setTop (mkF m 199 #[.val (.int p1), .val (.long j2), .second, .val (.long j3), .second, .val (.long j4), .second, .val (.int la), .val (.int lb), .val (.long kk), .second, .val (.long nn), .second, .val (.long mm), .second, .val (.ref bP), .val (.ref bQ), .val (.ref bR), .val (.ref bS), .val (.ref bT), .val (.double rW), .second, .val (.double rS), .second, .val (.double rO), .second, .val (.double rL), .second, .val (.int (1 : Int32)), .unset, .unset, .unset] [])) _
      refine XS.dload X0.here hx rfl (hb hby at_199) rfl ?_
      show Steps p.tables e below (T0.setTop (mkF m 201 #[.val (.int p1), .val (.long j2), .second, .val (.long j3), .second, .val (.long j4), .second, .val (.int la), .val (.int lb), .val (.long kk), .second, .val (.long nn), .second, .val (.long mm), .second, .val (.ref bP), .val (.ref bQ), .val (.ref bR), .val (.ref bS), .val (.ref bT), .val (.double rW), .second, .val (.double rS), .second, .val (.double rO), .second, .val (.double rL), .second, .val (.int (1 : Int32)), .unset, .unset, .unset] [(.double rS)])) _
      refine XS.dconst0 X0.here hx rfl (hb hby at_201) (v := (0 : UInt64)) rfl ?_
      show Steps p.tables e below (T0.setTop (mkF m 202 #[.val (.int p1), .val (.long j2), .second, .val (.long j3), .second, .val (.long j4), .second, .val (.int la), .val (.int lb), .val (.long kk), .second, .val (.long nn), .second, .val (.long mm), .second, .val (.ref bP), .val (.ref bQ), .val (.ref bR), .val (.ref bS), .val (.ref bT), .val (.double rW), .second, .val (.double rS), .second, .val (.double rO), .second, .val (.double rL), .second, .val (.int (1 : Int32)), .unset, .unset, .unset] [(.double (0 : UInt64)), (.double rS)])) _
      refine XS.dcmpS X0.here hx rfl (hb hby at_202) rfl (v := (0 : Int32)) (hc0 hla0) ?_
      show Steps p.tables e below (T0.setTop (mkF m 203 #[.val (.int p1), .val (.long j2), .second, .val (.long j3), .second, .val (.long j4), .second, .val (.int la), .val (.int lb), .val (.long kk), .second, .val (.long nn), .second, .val (.long mm), .second, .val (.ref bP), .val (.ref bQ), .val (.ref bR), .val (.ref bS), .val (.ref bT), .val (.double rW), .second, .val (.double rS), .second, .val (.double rO), .second, .val (.double rL), .second, .val (.int (1 : Int32)), .unset, .unset, .unset] [(.int (0 : Int32))])) _
      refine XS.ifNo X0.here hx rfl (hb hby at_203) rfl ((if0 _ _).trans (teq (by decide : (0 : Int32) = (0 : Int32))).2) ?_
      show Steps p.tables e below (T0.setTop (mkF m 206 #[.val (.int p1), .val (.long j2), .second, .val (.long j3), .second, .val (.long j4), .second, .val (.int la), .val (.int lb), .val (.long kk), .second, .val (.long nn), .second, .val (.long mm), .second, .val (.ref bP), .val (.ref bQ), .val (.ref bR), .val (.ref bS), .val (.ref bT), .val (.double rW), .second, .val (.double rS), .second, .val (.double rO), .second, .val (.double rL), .second, .val (.int (1 : Int32)), .unset, .unset, .unset] [])) _
      refine XS.iconst X0.here hx rfl (hb hby at_206) ?_
      show Steps p.tables e below (T0.setTop (mkF m 207 #[.val (.int p1), .val (.long j2), .second, .val (.long j3), .second, .val (.long j4), .second, .val (.int la), .val (.int lb), .val (.long kk), .second, .val (.long nn), .second, .val (.long mm), .second, .val (.ref bP), .val (.ref bQ), .val (.ref bR), .val (.ref bS), .val (.ref bT), .val (.double rW), .second, .val (.double rS), .second, .val (.double rO), .second, .val (.double rL), .second, .val (.int (1 : Int32)), .unset, .unset, .unset] [(.int (1 : Int32))])) _
      refine XS.goto X0.here hx rfl (pc0 := 207) (pc' := 226) rfl (hb hby at_207) (by decide) (by decide) ?_
      show Steps p.tables e below (T0.setTop (mkF m 226 #[.val (.int p1), .val (.long j2), .second, .val (.long j3), .second, .val (.long j4), .second, .val (.int la), .val (.int lb), .val (.long kk), .second, .val (.long nn), .second, .val (.long mm), .second, .val (.ref bP), .val (.ref bQ), .val (.ref bR), .val (.ref bS), .val (.ref bT), .val (.double rW), .second, .val (.double rS), .second, .val (.double rO), .second, .val (.double rL), .second, .val (.int (1 : Int32)), .unset, .unset, .unset] [(.int (1 : Int32))])) _
      refine XS.istore X0.here hx rfl (hb hby at_226) rfl (l' := #[.val (.int p1), .val (.long j2), .second, .val (.long j3), .second, .val (.long j4), .second, .val (.int la), .val (.int lb), .val (.long kk), .second, .val (.long nn), .second, .val (.long mm), .second, .val (.ref bP), .val (.ref bQ), .val (.ref bR), .val (.ref bS), .val (.ref bT), .val (.double rW), .second, .val (.double rS), .second, .val (.double rO), .second, .val (.double rL), .second, .val (.int (1 : Int32)), .val (.int (1 : Int32)), .unset, .unset]) rfl ?_
      show Steps p.tables e below (T0.setTop (mkF m 228 #[.val (.int p1), .val (.long j2), .second, .val (.long j3), .second, .val (.long j4), .second, .val (.int la), .val (.int lb), .val (.long kk), .second, .val (.long nn), .second, .val (.long mm), .second, .val (.ref bP), .val (.ref bQ), .val (.ref bR), .val (.ref bS), .val (.ref bT), .val (.double rW), .second, .val (.double rS), .second, .val (.double rO), .second, .val (.double rL), .second, .val (.int (1 : Int32)), .val (.int (1 : Int32)), .unset, .unset] [])) _
      refine XS.iload X0.here hx rfl (hb hby at_228) rfl ?_
      show Steps p.tables e below (T0.setTop (mkF m 230 #[.val (.int p1), .val (.long j2), .second, .val (.long j3), .second, .val (.long j4), .second, .val (.int la), .val (.int lb), .val (.long kk), .second, .val (.long nn), .second, .val (.long mm), .second, .val (.ref bP), .val (.ref bQ), .val (.ref bR), .val (.ref bS), .val (.ref bT), .val (.double rW), .second, .val (.double rS), .second, .val (.double rO), .second, .val (.double rL), .second, .val (.int (1 : Int32)), .val (.int (1 : Int32)), .unset, .unset] [(.int la)])) _
      refine XS.iload X0.here hx rfl (hb hby at_230) rfl ?_
      show Steps p.tables e below (T0.setTop (mkF m 232 #[.val (.int p1), .val (.long j2), .second, .val (.long j3), .second, .val (.long j4), .second, .val (.int la), .val (.int lb), .val (.long kk), .second, .val (.long nn), .second, .val (.long mm), .second, .val (.ref bP), .val (.ref bQ), .val (.ref bR), .val (.ref bS), .val (.ref bT), .val (.double rW), .second, .val (.double rS), .second, .val (.double rO), .second, .val (.double rL), .second, .val (.int (1 : Int32)), .val (.int (1 : Int32)), .unset, .unset] [(.int lb), (.int la)])) _
      refine XS.icmpNo X0.here hx rfl (hb hby at_232) rfl (flt hlt).2.2.1 ?_
      show Steps p.tables e below (T0.setTop (mkF m 235 #[.val (.int p1), .val (.long j2), .second, .val (.long j3), .second, .val (.long j4), .second, .val (.int la), .val (.int lb), .val (.long kk), .second, .val (.long nn), .second, .val (.long mm), .second, .val (.ref bP), .val (.ref bQ), .val (.ref bR), .val (.ref bS), .val (.ref bT), .val (.double rW), .second, .val (.double rS), .second, .val (.double rO), .second, .val (.double rL), .second, .val (.int (1 : Int32)), .val (.int (1 : Int32)), .unset, .unset] [])) _
      refine XS.dload X0.here hx rfl (hb hby at_235) rfl ?_
      show Steps p.tables e below (T0.setTop (mkF m 237 #[.val (.int p1), .val (.long j2), .second, .val (.long j3), .second, .val (.long j4), .second, .val (.int la), .val (.int lb), .val (.long kk), .second, .val (.long nn), .second, .val (.long mm), .second, .val (.ref bP), .val (.ref bQ), .val (.ref bR), .val (.ref bS), .val (.ref bT), .val (.double rW), .second, .val (.double rS), .second, .val (.double rO), .second, .val (.double rL), .second, .val (.int (1 : Int32)), .val (.int (1 : Int32)), .unset, .unset] [(.double rS)])) _
      refine XS.dload X0.here hx rfl (hb hby at_237) rfl ?_
      show Steps p.tables e below (T0.setTop (mkF m 239 #[.val (.int p1), .val (.long j2), .second, .val (.long j3), .second, .val (.long j4), .second, .val (.int la), .val (.int lb), .val (.long kk), .second, .val (.long nn), .second, .val (.long mm), .second, .val (.ref bP), .val (.ref bQ), .val (.ref bR), .val (.ref bS), .val (.ref bT), .val (.double rW), .second, .val (.double rS), .second, .val (.double rO), .second, .val (.double rL), .second, .val (.int (1 : Int32)), .val (.int (1 : Int32)), .unset, .unset] [(.double rO), (.double rS)])) _
      refine XS.dcmpS X0.here hx rfl (hb hby at_239) rfl (v := vB) hvB ?_
      show Steps p.tables e below (T0.setTop (mkF m 240 #[.val (.int p1), .val (.long j2), .second, .val (.long j3), .second, .val (.long j4), .second, .val (.int la), .val (.int lb), .val (.long kk), .second, .val (.long nn), .second, .val (.long mm), .second, .val (.ref bP), .val (.ref bQ), .val (.ref bR), .val (.ref bS), .val (.ref bT), .val (.double rW), .second, .val (.double rS), .second, .val (.double rO), .second, .val (.double rL), .second, .val (.int (1 : Int32)), .val (.int (1 : Int32)), .unset, .unset] [(.int vB)])) _
      refine XS.ifNo X0.here hx rfl (hb hby at_240) rfl ((if0 _ _).trans (flt (hB hlt)).2.2.1) ?_
      show Steps p.tables e below (T0.setTop (mkF m 243 #[.val (.int p1), .val (.long j2), .second, .val (.long j3), .second, .val (.long j4), .second, .val (.int la), .val (.int lb), .val (.long kk), .second, .val (.long nn), .second, .val (.long mm), .second, .val (.ref bP), .val (.ref bQ), .val (.ref bR), .val (.ref bS), .val (.ref bT), .val (.double rW), .second, .val (.double rS), .second, .val (.double rO), .second, .val (.double rL), .second, .val (.int (1 : Int32)), .val (.int (1 : Int32)), .unset, .unset] [])) _
      refine XS.iconst X0.here hx rfl (hb hby at_243) ?_
      show Steps p.tables e below (T0.setTop (mkF m 244 #[.val (.int p1), .val (.long j2), .second, .val (.long j3), .second, .val (.long j4), .second, .val (.int la), .val (.int lb), .val (.long kk), .second, .val (.long nn), .second, .val (.long mm), .second, .val (.ref bP), .val (.ref bQ), .val (.ref bR), .val (.ref bS), .val (.ref bT), .val (.double rW), .second, .val (.double rS), .second, .val (.double rO), .second, .val (.double rL), .second, .val (.int (1 : Int32)), .val (.int (1 : Int32)), .unset, .unset] [(.int (1 : Int32))])) _
      refine XS.goto X0.here hx rfl (pc0 := 244) (pc' := 264) rfl (hb hby at_244) (by decide) (by decide) ?_
      show Steps p.tables e below (T0.setTop (mkF m 264 #[.val (.int p1), .val (.long j2), .second, .val (.long j3), .second, .val (.long j4), .second, .val (.int la), .val (.int lb), .val (.long kk), .second, .val (.long nn), .second, .val (.long mm), .second, .val (.ref bP), .val (.ref bQ), .val (.ref bR), .val (.ref bS), .val (.ref bT), .val (.double rW), .second, .val (.double rS), .second, .val (.double rO), .second, .val (.double rL), .second, .val (.int (1 : Int32)), .val (.int (1 : Int32)), .unset, .unset] [(.int (1 : Int32))])) _
      refine XS.istore X0.here hx rfl (hb hby at_264) rfl (l' := #[.val (.int p1), .val (.long j2), .second, .val (.long j3), .second, .val (.long j4), .second, .val (.int la), .val (.int lb), .val (.long kk), .second, .val (.long nn), .second, .val (.long mm), .second, .val (.ref bP), .val (.ref bQ), .val (.ref bR), .val (.ref bS), .val (.ref bT), .val (.double rW), .second, .val (.double rS), .second, .val (.double rO), .second, .val (.double rL), .second, .val (.int (1 : Int32)), .val (.int (1 : Int32)), .val (.int (1 : Int32)), .unset]) rfl ?_
      show Steps p.tables e below (T0.setTop (mkF m 266 #[.val (.int p1), .val (.long j2), .second, .val (.long j3), .second, .val (.long j4), .second, .val (.int la), .val (.int lb), .val (.long kk), .second, .val (.long nn), .second, .val (.long mm), .second, .val (.ref bP), .val (.ref bQ), .val (.ref bR), .val (.ref bS), .val (.ref bT), .val (.double rW), .second, .val (.double rS), .second, .val (.double rO), .second, .val (.double rL), .second, .val (.int (1 : Int32)), .val (.int (1 : Int32)), .val (.int (1 : Int32)), .unset] [])) _
      refine XS.dload X0.here hx rfl (hb hby at_266) rfl ?_
      show Steps p.tables e below (T0.setTop (mkF m 268 #[.val (.int p1), .val (.long j2), .second, .val (.long j3), .second, .val (.long j4), .second, .val (.int la), .val (.int lb), .val (.long kk), .second, .val (.long nn), .second, .val (.long mm), .second, .val (.ref bP), .val (.ref bQ), .val (.ref bR), .val (.ref bS), .val (.ref bT), .val (.double rW), .second, .val (.double rS), .second, .val (.double rO), .second, .val (.double rL), .second, .val (.int (1 : Int32)), .val (.int (1 : Int32)), .val (.int (1 : Int32)), .unset] [(.double rL)])) _
      refine XS.dload X0.here hx rfl (hb hby at_268) rfl ?_
      show Steps p.tables e below (T0.setTop (mkF m 270 #[.val (.int p1), .val (.long j2), .second, .val (.long j3), .second, .val (.long j4), .second, .val (.int la), .val (.int lb), .val (.long kk), .second, .val (.long nn), .second, .val (.long mm), .second, .val (.ref bP), .val (.ref bQ), .val (.ref bR), .val (.ref bS), .val (.ref bT), .val (.double rW), .second, .val (.double rS), .second, .val (.double rO), .second, .val (.double rL), .second, .val (.int (1 : Int32)), .val (.int (1 : Int32)), .val (.int (1 : Int32)), .unset] [(.double rS), (.double rL)])) _
      refine XS.dcmpS X0.here hx rfl (hb hby at_270) rfl (v := vD) hvD ?_
      show Steps p.tables e below (T0.setTop (mkF m 271 #[.val (.int p1), .val (.long j2), .second, .val (.long j3), .second, .val (.long j4), .second, .val (.int la), .val (.int lb), .val (.long kk), .second, .val (.long nn), .second, .val (.long mm), .second, .val (.ref bP), .val (.ref bQ), .val (.ref bR), .val (.ref bS), .val (.ref bT), .val (.double rW), .second, .val (.double rS), .second, .val (.double rO), .second, .val (.double rL), .second, .val (.int (1 : Int32)), .val (.int (1 : Int32)), .val (.int (1 : Int32)), .unset] [(.int vD)])) _
      refine XS.ifNo X0.here hx rfl (hb hby at_271) rfl ((if0 _ _).trans (flt hD).2.2.1) ?_
      show Steps p.tables e below (T0.setTop (mkF m 274 #[.val (.int p1), .val (.long j2), .second, .val (.long j3), .second, .val (.long j4), .second, .val (.int la), .val (.int lb), .val (.long kk), .second, .val (.long nn), .second, .val (.long mm), .second, .val (.ref bP), .val (.ref bQ), .val (.ref bR), .val (.ref bS), .val (.ref bT), .val (.double rW), .second, .val (.double rS), .second, .val (.double rO), .second, .val (.double rL), .second, .val (.int (1 : Int32)), .val (.int (1 : Int32)), .val (.int (1 : Int32)), .unset] [])) _
      refine XS.iconst X0.here hx rfl (hb hby at_274) ?_
      show Steps p.tables e below (T0.setTop (mkF m 275 #[.val (.int p1), .val (.long j2), .second, .val (.long j3), .second, .val (.long j4), .second, .val (.int la), .val (.int lb), .val (.long kk), .second, .val (.long nn), .second, .val (.long mm), .second, .val (.ref bP), .val (.ref bQ), .val (.ref bR), .val (.ref bS), .val (.ref bT), .val (.double rW), .second, .val (.double rS), .second, .val (.double rO), .second, .val (.double rL), .second, .val (.int (1 : Int32)), .val (.int (1 : Int32)), .val (.int (1 : Int32)), .unset] [(.int (1 : Int32))])) _
      refine XS.goto X0.here hx rfl (pc0 := 275) (pc' := 279) rfl (hb hby at_275) (by decide) (by decide) ?_
      show Steps p.tables e below (T0.setTop (mkF m 279 #[.val (.int p1), .val (.long j2), .second, .val (.long j3), .second, .val (.long j4), .second, .val (.int la), .val (.int lb), .val (.long kk), .second, .val (.long nn), .second, .val (.long mm), .second, .val (.ref bP), .val (.ref bQ), .val (.ref bR), .val (.ref bS), .val (.ref bT), .val (.double rW), .second, .val (.double rS), .second, .val (.double rO), .second, .val (.double rL), .second, .val (.int (1 : Int32)), .val (.int (1 : Int32)), .val (.int (1 : Int32)), .unset] [(.int (1 : Int32))])) _
      refine XS.istore X0.here hx rfl (hb hby at_279) rfl (l' := #[.val (.int p1), .val (.long j2), .second, .val (.long j3), .second, .val (.long j4), .second, .val (.int la), .val (.int lb), .val (.long kk), .second, .val (.long nn), .second, .val (.long mm), .second, .val (.ref bP), .val (.ref bQ), .val (.ref bR), .val (.ref bS), .val (.ref bT), .val (.double rW), .second, .val (.double rS), .second, .val (.double rO), .second, .val (.double rL), .second, .val (.int (1 : Int32)), .val (.int (1 : Int32)), .val (.int (1 : Int32)), .val (.int (1 : Int32))]) rfl ?_
      show Steps p.tables e below (T0.setTop (mkF m 281 #[.val (.int p1), .val (.long j2), .second, .val (.long j3), .second, .val (.long j4), .second, .val (.int la), .val (.int lb), .val (.long kk), .second, .val (.long nn), .second, .val (.long mm), .second, .val (.ref bP), .val (.ref bQ), .val (.ref bR), .val (.ref bS), .val (.ref bT), .val (.double rW), .second, .val (.double rS), .second, .val (.double rO), .second, .val (.double rL), .second, .val (.int (1 : Int32)), .val (.int (1 : Int32)), .val (.int (1 : Int32)), .val (.int (1 : Int32))] [])) _
      refine XS.iload X0.here hx rfl (hb hby at_281) rfl ?_
      show Steps p.tables e below (T0.setTop (mkF m 283 #[.val (.int p1), .val (.long j2), .second, .val (.long j3), .second, .val (.long j4), .second, .val (.int la), .val (.int lb), .val (.long kk), .second, .val (.long nn), .second, .val (.long mm), .second, .val (.ref bP), .val (.ref bQ), .val (.ref bR), .val (.ref bS), .val (.ref bT), .val (.double rW), .second, .val (.double rS), .second, .val (.double rO), .second, .val (.double rL), .second, .val (.int (1 : Int32)), .val (.int (1 : Int32)), .val (.int (1 : Int32)), .val (.int (1 : Int32))] [(.int (1 : Int32))])) _
      refine XS.ifNo X0.here hx rfl (hb hby at_283) rfl ((if0 _ _).trans (feq (by decide : ¬ ((1 : Int32) = (0 : Int32)))).1) ?_
      show Steps p.tables e below (T0.setTop (mkF m 286 #[.val (.int p1), .val (.long j2), .second, .val (.long j3), .second, .val (.long j4), .second, .val (.int la), .val (.int lb), .val (.long kk), .second, .val (.long nn), .second, .val (.long mm), .second, .val (.ref bP), .val (.ref bQ), .val (.ref bR), .val (.ref bS), .val (.ref bT), .val (.double rW), .second, .val (.double rS), .second, .val (.double rO), .second, .val (.double rL), .second, .val (.int (1 : Int32)), .val (.int (1 : Int32)), .val (.int (1 : Int32)), .val (.int (1 : Int32))] [])) _
      refine XS.iload X0.here hx rfl (hb hby at_286) rfl ?_
      show Steps p.tables e below (T0.setTop (mkF m 288 #[.val (.int p1), .val (.long j2), .second, .val (.long j3), .second, .val (.long j4), .second, .val (.int la), .val (.int lb), .val (.long kk), .second, .val (.long nn), .second, .val (.long mm), .second, .val (.ref bP), .val (.ref bQ), .val (.ref bR), .val (.ref bS), .val (.ref bT), .val (.double rW), .second, .val (.double rS), .second, .val (.double rO), .second, .val (.double rL), .second, .val (.int (1 : Int32)), .val (.int (1 : Int32)), .val (.int (1 : Int32)), .val (.int (1 : Int32))] [(.int (1 : Int32))])) _
      refine XS.ifNo X0.here hx rfl (hb hby at_288) rfl ((if0 _ _).trans (feq (by decide : ¬ ((1 : Int32) = (0 : Int32)))).1) ?_
      show Steps p.tables e below (T0.setTop (mkF m 291 #[.val (.int p1), .val (.long j2), .second, .val (.long j3), .second, .val (.long j4), .second, .val (.int la), .val (.int lb), .val (.long kk), .second, .val (.long nn), .second, .val (.long mm), .second, .val (.ref bP), .val (.ref bQ), .val (.ref bR), .val (.ref bS), .val (.ref bT), .val (.double rW), .second, .val (.double rS), .second, .val (.double rO), .second, .val (.double rL), .second, .val (.int (1 : Int32)), .val (.int (1 : Int32)), .val (.int (1 : Int32)), .val (.int (1 : Int32))] [])) _
      refine XS.iload X0.here hx rfl (hb hby at_291) rfl ?_
      show Steps p.tables e below (T0.setTop (mkF m 293 #[.val (.int p1), .val (.long j2), .second, .val (.long j3), .second, .val (.long j4), .second, .val (.int la), .val (.int lb), .val (.long kk), .second, .val (.long nn), .second, .val (.long mm), .second, .val (.ref bP), .val (.ref bQ), .val (.ref bR), .val (.ref bS), .val (.ref bT), .val (.double rW), .second, .val (.double rS), .second, .val (.double rO), .second, .val (.double rL), .second, .val (.int (1 : Int32)), .val (.int (1 : Int32)), .val (.int (1 : Int32)), .val (.int (1 : Int32))] [(.int (1 : Int32))])) _
      refine XS.ifNo X0.here hx rfl (hb hby at_293) rfl ((if0 _ _).trans (feq (by decide : ¬ ((1 : Int32) = (0 : Int32)))).1) ?_
      show Steps p.tables e below (T0.setTop (mkF m 296 #[.val (.int p1), .val (.long j2), .second, .val (.long j3), .second, .val (.long j4), .second, .val (.int la), .val (.int lb), .val (.long kk), .second, .val (.long nn), .second, .val (.long mm), .second, .val (.ref bP), .val (.ref bQ), .val (.ref bR), .val (.ref bS), .val (.ref bT), .val (.double rW), .second, .val (.double rS), .second, .val (.double rO), .second, .val (.double rL), .second, .val (.int (1 : Int32)), .val (.int (1 : Int32)), .val (.int (1 : Int32)), .val (.int (1 : Int32))] [])) _
      refine XS.iload X0.here hx rfl (hb hby at_296) rfl ?_
      show Steps p.tables e below (T0.setTop (mkF m 298 #[.val (.int p1), .val (.long j2), .second, .val (.long j3), .second, .val (.long j4), .second, .val (.int la), .val (.int lb), .val (.long kk), .second, .val (.long nn), .second, .val (.long mm), .second, .val (.ref bP), .val (.ref bQ), .val (.ref bR), .val (.ref bS), .val (.ref bT), .val (.double rW), .second, .val (.double rS), .second, .val (.double rO), .second, .val (.double rL), .second, .val (.int (1 : Int32)), .val (.int (1 : Int32)), .val (.int (1 : Int32)), .val (.int (1 : Int32))] [(.int (1 : Int32))])) _
      refine XS.ifNo X0.here hx rfl (hb hby at_298) rfl ((if0 _ _).trans (feq (by decide : ¬ ((1 : Int32) = (0 : Int32)))).1) ?_
      show Steps p.tables e below (T0.setTop (mkF m 301 #[.val (.int p1), .val (.long j2), .second, .val (.long j3), .second, .val (.long j4), .second, .val (.int la), .val (.int lb), .val (.long kk), .second, .val (.long nn), .second, .val (.long mm), .second, .val (.ref bP), .val (.ref bQ), .val (.ref bR), .val (.ref bS), .val (.ref bT), .val (.double rW), .second, .val (.double rS), .second, .val (.double rO), .second, .val (.double rL), .second, .val (.int (1 : Int32)), .val (.int (1 : Int32)), .val (.int (1 : Int32)), .val (.int (1 : Int32))] [])) _
      refine XS.iconst X0.here hx rfl (hb hby at_301) ?_
      show Steps p.tables e below (T0.setTop (mkF m 302 #[.val (.int p1), .val (.long j2), .second, .val (.long j3), .second, .val (.long j4), .second, .val (.int la), .val (.int lb), .val (.long kk), .second, .val (.long nn), .second, .val (.long mm), .second, .val (.ref bP), .val (.ref bQ), .val (.ref bR), .val (.ref bS), .val (.ref bT), .val (.double rW), .second, .val (.double rS), .second, .val (.double rO), .second, .val (.double rL), .second, .val (.int (1 : Int32)), .val (.int (1 : Int32)), .val (.int (1 : Int32)), .val (.int (1 : Int32))] [(.int (1 : Int32))])) _
      refine XS.goto X0.here hx rfl (pc0 := 302) (pc' := 306) rfl (hb hby at_302) (by decide) (by decide) ?_
      exact kt
  · by_cases hlt : lb < la
    · refine ⟨T0, _, X0, e0, N0, fun target kt => ?_⟩
      show Steps p.tables e below (T0.setTop (mkF m 174 #[.val (.int p1), .val (.long j2), .second, .val (.long j3), .second, .val (.long j4), .second, .val (.int la), .val (.int lb), .val (.long kk), .second, .val (.long nn), .second, .val (.long mm), .second, .val (.ref bP), .val (.ref bQ), .val (.ref bR), .val (.ref bS), .val (.ref bT), .val (.double rW), .second, .val (.double rS), .second, .val (.double rO), .second, .val (.double rL), .second, .unset, .unset, .unset, .unset] [])) _
      refine XS.dload X0.here hx rfl (hb hby at_174) rfl ?_
      show Steps p.tables e below (T0.setTop (mkF m 176 #[.val (.int p1), .val (.long j2), .second, .val (.long j3), .second, .val (.long j4), .second, .val (.int la), .val (.int lb), .val (.long kk), .second, .val (.long nn), .second, .val (.long mm), .second, .val (.ref bP), .val (.ref bQ), .val (.ref bR), .val (.ref bS), .val (.ref bT), .val (.double rW), .second, .val (.double rS), .second, .val (.double rO), .second, .val (.double rL), .second, .unset, .unset, .unset, .unset] [(.double rW)])) _
      refine XS.iload X0.here hx rfl (hb hby at_176) rfl ?_
      show Steps p.tables e below (T0.setTop (mkF m 178 #[.val (.int p1), .val (.long j2), .second, .val (.long j3), .second, .val (.long j4), .second, .val (.int la), .val (.int lb), .val (.long kk), .second, .val (.long nn), .second, .val (.long mm), .second, .val (.ref bP), .val (.ref bQ), .val (.ref bR), .val (.ref bS), .val (.ref bT), .val (.double rW), .second, .val (.double rS), .second, .val (.double rO), .second, .val (.double rL), .second, .unset, .unset, .unset, .unset] [(.int la), (.double rW)])) _
      refine XS.i2dS X0.here hx rfl (hb hby at_178) rfl (v := (Jvm.FP.l2d la.toInt64)) (Jvm.FP.Core.i2d_l2d la) ?_
      show Steps p.tables e below (T0.setTop (mkF m 179 #[.val (.int p1), .val (.long j2), .second, .val (.long j3), .second, .val (.long j4), .second, .val (.int la), .val (.int lb), .val (.long kk), .second, .val (.long nn), .second, .val (.long mm), .second, .val (.ref bP), .val (.ref bQ), .val (.ref bR), .val (.ref bS), .val (.ref bT), .val (.double rW), .second, .val (.double rS), .second, .val (.double rO), .second, .val (.double rL), .second, .unset, .unset, .unset, .unset] [(.double (Jvm.FP.l2d la.toInt64)), (.double rW)])) _
      refine XS.lload X0.here hx rfl (hb hby at_179) rfl ?_
      show Steps p.tables e below (T0.setTop (mkF m 181 #[.val (.int p1), .val (.long j2), .second, .val (.long j3), .second, .val (.long j4), .second, .val (.int la), .val (.int lb), .val (.long kk), .second, .val (.long nn), .second, .val (.long mm), .second, .val (.ref bP), .val (.ref bQ), .val (.ref bR), .val (.ref bS), .val (.ref bT), .val (.double rW), .second, .val (.double rS), .second, .val (.double rO), .second, .val (.double rL), .second, .unset, .unset, .unset, .unset] [(.long kk), (.double (Jvm.FP.l2d la.toInt64)), (.double rW)])) _
      refine XS.l2dS X0.here hx rfl (hb hby at_181) rfl (v := (Jvm.FP.l2d kk)) rfl ?_
      show Steps p.tables e below (T0.setTop (mkF m 182 #[.val (.int p1), .val (.long j2), .second, .val (.long j3), .second, .val (.long j4), .second, .val (.int la), .val (.int lb), .val (.long kk), .second, .val (.long nn), .second, .val (.long mm), .second, .val (.ref bP), .val (.ref bQ), .val (.ref bR), .val (.ref bS), .val (.ref bT), .val (.double rW), .second, .val (.double rS), .second, .val (.double rO), .second, .val (.double rL), .second, .unset, .unset, .unset, .unset] [(.double (Jvm.FP.l2d kk)), (.double (Jvm.FP.l2d la.toInt64)), (.double rW)])) _
      refine XS.ddivS X0.here hx rfl (hb hby at_182) rfl (v := rK) hnK hrK ?_
      show Steps p.tables e below (T0.setTop (mkF m 183 #[.val (.int p1), .val (.long j2), .second, .val (.long j3), .second, .val (.long j4), .second, .val (.int la), .val (.int lb), .val (.long kk), .second, .val (.long nn), .second, .val (.long mm), .second, .val (.ref bP), .val (.ref bQ), .val (.ref bR), .val (.ref bS), .val (.ref bT), .val (.double rW), .second, .val (.double rS), .second, .val (.double rO), .second, .val (.double rL), .second, .unset, .unset, .unset, .unset] [(.double rK), (.double rW)])) _
      refine XS.dcmpS X0.here hx rfl (hb hby at_183) rfl (v := (0 : Int32)) hcE ?_
      show Steps p.tables e below (T0.setTop (mkF m 184 #[.val (.int p1), .val (.long j2), .second, .val (.long j3), .second, .val (.long j4), .second, .val (.int la), .val (.int lb), .val (.long kk), .second, .val (.long nn), .second, .val (.long mm), .second, .val (.ref bP), .val (.ref bQ), .val (.ref bR), .val (.ref bS), .val (.ref bT), .val (.double rW), .second, .val (.double rS), .second, .val (.double rO), .second, .val (.double rL), .second, .unset, .unset, .unset, .unset] [(.int (0 : Int32))])) _
      refine XS.ifNo X0.here hx rfl (hb hby at_184) rfl ((if0 _ _).trans (teq (by decide : (0 : Int32) = (0 : Int32))).2) ?_
      show Steps p.tables e below (T0.setTop (mkF m 187 #[.val (.int p1), .val (.long j2), .second, .val (.long j3), .second, .val (.long j4), .second, .val (.int la), .val (.int lb), .val (.long kk), .second, .val (.long nn), .second, .val (.long mm), .second, .val (.ref bP), .val (.ref bQ), .val (.ref bR), .val (.ref bS), .val (.ref bT), .val (.double rW), .second, .val (.double rS), .second, .val (.double rO), .second, .val (.double rL), .second, .unset, .unset, .unset, .unset] [])) _
      refine XS.iconst X0.here hx rfl (hb hby at_187) ?_
      show Steps p.tables e below (T0.setTop (mkF m 188 #[.val (.int p1), .val (.long j2), .second, .val (.long j3), .second, .val (.long j4), .second, .val (.int la), .val (.int lb), .val (.long kk), .second, .val (.long nn), .second, .val (.long mm), .second, .val (.ref bP), .val (.ref bQ), .val (.ref bR), .val (.ref bS), .val (.ref bT), .val (.double rW), .second, .val (.double rS), .second, .val (.double rO), .second, .val (.double rL), .second, .unset, .unset, .unset, .unset] [(.int (1 : Int32))])) _
      refine XS.goto X0.here hx rfl (pc0 := 188) (pc' := 192) rfl (hb hby at_188) (by decide) (by decide) ?_
      show Steps p.tables e below (T0.setTop (mkF m 192 #[.val (.int p1), .val (.long j2), .second, .val (.long j3), .second, .val (.long j4), .second, .val (.int la), .val (.int lb), .val (.long kk), .second, .val (.long nn), .second, .val (.long mm), .second, .val (.ref bP), .val (.ref bQ), .val (.ref bR), .val (.ref bS), .val (.ref bT), .val (.double rW), .second, .val (.double rS), .second, .val (.double rO), .second, .val (.double rL), .second, .unset, .unset, .unset, .unset] [(.int (1 : Int32))])) _
      refine XS.istore X0.here hx rfl (hb hby at_192) rfl (l' := #[.val (.int p1), .val (.long j2), .second, .val (.long j3), .second, .val (.long j4), .second, .val (.int la), .val (.int lb), .val (.long kk), .second, .val (.long nn), .second, .val (.long mm), .second, .val (.ref bP), .val (.ref bQ), .val (.ref bR), .val (.ref bS), .val (.ref bT), .val (.double rW), .second, .val (.double rS), .second, .val (.double rO), .second, .val (.double rL), .second, .val (.int (1 : Int32)), .unset, .unset, .unset]) rfl ?_
      show Steps p.tables e below (T0.setTop (mkF m 194 #[.val (.int p1), .val (.long j2), .second, .val (.long j3), .second, .val (.long j4), .second, .val (.int la), .val (.int lb), .val (.long kk), .second, .val (.long nn), .second, .val (.long mm), .second, .val (.ref bP), .val (.ref bQ), .val (.ref bR), .val (.ref bS), .val (.ref bT), .val (.double rW), .second, .val (.double rS), .second, .val (.double rO), .second, .val (.double rL), .second, .val (.int (1 : Int32)), .unset, .unset, .unset] [])) _
      refine XS.iload X0.here hx rfl (hb hby at_194) rfl ?_
      show Steps p.tables e below (T0.setTop (mkF m 196 #[.val (.int p1), .val (.long j2), .second, .val (.long j3), .second, .val (.long j4), .second, .val (.int la), .val (.int lb), .val (.long kk), .second, .val (.long nn), .second, .val (.long mm), .second, .val (.ref bP), .val (.ref bQ), .val (.ref bR), .val (.ref bS), .val (.ref bT), .val (.double rW), .second, .val (.double rS), .second, .val (.double rO), .second, .val (.double rL), .second, .val (.int (1 : Int32)), .unset, .unset, .unset] [(.int la)])) _
      refine XS.ifYes X0.here hx rfl (pc0 := 196) (pc' := 214) rfl (hb hby at_196) rfl ((if0 _ _).trans (feq hla0).2) (by decide) (by decide) ?_
      show Steps p.tables e below (T0.setTop (mkF m 214 #[.val (.int p1), .val (.long j2), .second, .val (.long j3), .second, .val (.long j4), .second, .val (.int la), .val (.int lb), .val (.long kk), .second, .val (.long nn), .second, .val (.long mm), .second, .val (.ref bP), .val (.ref bQ), .val (.ref bR), .val (.ref bS), .val (.ref bT), .val (.double rW), .second, .val (.double rS), .second, .val (.double rO), .second, .val (.double rL), .second, .val (.int (1 : Int32)), .unset, .unset, .unset] [])) _
      refine XS.dload X0.here hx rfl (hb hby at_214) rfl ?_
      show Steps p.tables e below (T0.setTop (mkF m 216 #[.val (.int p1), .val (.long j2), .second, .val (.long j3), .second, .val (.long j4), .second, .val (.int la), .val (.int lb), .val (.long kk), .second, .val (.long nn), .second, .val (.long mm), .second, .val (.ref bP), .val (.ref bQ), .val (.ref bR), .val (.ref bS), .val (.ref bT), .val (.double rW), .second, .val (.double rS), .second, .val (.double rO), .second, .val (.double rL), .second, .val (.int (1 : Int32)), .unset, .unset, .unset] [(.double rS)])) _
      refine XS.dconst0 X0.here hx rfl (hb hby at_216) (v := (0 : UInt64)) rfl ?_
      show Steps p.tables e below (T0.setTop (mkF m 217 #[.val (.int p1), .val (.long j2), .second, .val (.long j3), .second, .val (.long j4), .second, .val (.int la), .val (.int lb), .val (.long kk), .second, .val (.long nn), .second, .val (.long mm), .second, .val (.ref bP), .val (.ref bQ), .val (.ref bR), .val (.ref bS), .val (.ref bT), .val (.double rW), .second, .val (.double rS), .second, .val (.double rO), .second, .val (.double rL), .second, .val (.int (1 : Int32)), .unset, .unset, .unset] [(.double (0 : UInt64)), (.double rS)])) _
      refine XS.dcmpS X0.here hx rfl (hb hby at_217) rfl (v := (1 : Int32)) (hc1 hla0) ?_
      show Steps p.tables e below (T0.setTop (mkF m 218 #[.val (.int p1), .val (.long j2), .second, .val (.long j3), .second, .val (.long j4), .second, .val (.int la), .val (.int lb), .val (.long kk), .second, .val (.long nn), .second, .val (.long mm), .second, .val (.ref bP), .val (.ref bQ), .val (.ref bR), .val (.ref bS), .val (.ref bT), .val (.double rW), .second, .val (.double rS), .second, .val (.double rO), .second, .val (.double rL), .second, .val (.int (1 : Int32)), .unset, .unset, .unset] [(.int (1 : Int32))])) _
      refine XS.ifNo X0.here hx rfl (hb hby at_218) rfl ((if0 _ _).trans (tlt (by decide : (0 : Int32) < (1 : Int32))).2.2.2) ?_
      show Steps p.tables e below (T0.setTop (mkF m 221 #[.val (.int p1), .val (.long j2), .second, .val (.long j3), .second, .val (.long j4), .second, .val (.int la), .val (.int lb), .val (.long kk), .second, .val (.long nn), .second, .val (.long mm), .second, .val (.ref bP), .val (.ref bQ), .val (.ref bR), .val (.ref bS), .val (.ref bT), .val (.double rW), .second, .val (.double rS), .second, .val (.double rO), .second, .val (.double rL), .second, .val (.int (1 : Int32)), .unset, .unset, .unset] [])) _
      refine XS.iconst X0.here hx rfl (hb hby at_221) ?_
      show Steps p.tables e below (T0.setTop (mkF m 222 #[.val (.int p1), .val (.long j2), .second, .val (.long j3), .second, .val (.long j4), .second, .val (.int la), .val (.int lb), .val (.long kk), .second, .val (.long nn), .second, .val (.long mm), .second, .val (.ref bP), .val (.ref bQ), .val (.ref bR), .val (.ref bS), .val (.ref bT), .val (.double rW), .second, .val (.double rS), .second, .val (.double rO), .second, .val (.double rL), .second, .val (.int (1 : Int32)), .unset, .unset, .unset] [(.int (1 : Int32))])) _
      refine XS.goto X0.here hx rfl (pc0 := 222) (pc' := 226) rfl (hb hby at_222) (by decide) (by decide) ?_
      show Steps p.tables e below (T0.setTop (mkF m 226 #[.val (.int p1), .val (.long j2), .second, .val (.long j3), .second, .val (.long j4), .second, .val (.int la), .val (.int lb), .val (.long kk), .second, .val (.long nn), .second, .val (.long mm), .second, .val (.ref bP), .val (.ref bQ), .val (.ref bR), .val (.ref bS), .val (.ref bT), .val (.double rW), .second, .val (.double rS), .second, .val (.double rO), .second, .val (.double rL), .second, .val (.int (1 : Int32)), .unset, .unset, .unset] [(.int (1 : Int32))])) _
      refine XS.istore X0.here hx rfl (hb hby at_226) rfl (l' := #[.val (.int p1), .val (.long j2), .second, .val (.long j3), .second, .val (.long j4), .second, .val (.int la), .val (.int lb), .val (.long kk), .second, .val (.long nn), .second, .val (.long mm), .second, .val (.ref bP), .val (.ref bQ), .val (.ref bR), .val (.ref bS), .val (.ref bT), .val (.double rW), .second, .val (.double rS), .second, .val (.double rO), .second, .val (.double rL), .second, .val (.int (1 : Int32)), .val (.int (1 : Int32)), .unset, .unset]) rfl ?_
      show Steps p.tables e below (T0.setTop (mkF m 228 #[.val (.int p1), .val (.long j2), .second, .val (.long j3), .second, .val (.long j4), .second, .val (.int la), .val (.int lb), .val (.long kk), .second, .val (.long nn), .second, .val (.long mm), .second, .val (.ref bP), .val (.ref bQ), .val (.ref bR), .val (.ref bS), .val (.ref bT), .val (.double rW), .second, .val (.double rS), .second, .val (.double rO), .second, .val (.double rL), .second, .val (.int (1 : Int32)), .val (.int (1 : Int32)), .unset, .unset] [])) _
      refine XS.iload X0.here hx rfl (hb hby at_228) rfl ?_
      show Steps p.tables e below (T0.setTop (mkF m 230 #[.val (.int p1), .val (.long j2), .second, .val (.long j3), .second, .val (.long j4), .second, .val (.int la), .val (.int lb), .val (.long kk), .second, .val (.long nn), .second, .val (.long mm), .second, .val (.ref bP), .val (.ref bQ), .val (.ref bR), .val (.ref bS), .val (.ref bT), .val (.double rW), .second, .val (.double rS), .second, .val (.double rO), .second, .val (.double rL), .second, .val (.int (1 : Int32)), .val (.int (1 : Int32)), .unset, .unset] [(.int la)])) _
      refine XS.iload X0.here hx rfl (hb hby at_230) rfl ?_
      show Steps p.tables e below (T0.setTop (mkF m 232 #[.val (.int p1), .val (.long j2), .second, .val (.long j3), .second, .val (.long j4), .second, .val (.int la), .val (.int lb), .val (.long kk), .second, .val (.long nn), .second, .val (.long mm), .second, .val (.ref bP), .val (.ref bQ), .val (.ref bR), .val (.ref bS), .val (.ref bT), .val (.double rW), .second, .val (.double rS), .second, .val (.double rO), .second, .val (.double rL), .second, .val (.int (1 : Int32)), .val (.int (1 : Int32)), .unset, .unset] [(.int lb), (.int la)])) _
      refine XS.icmpYes X0.here hx rfl (pc0 := 232) (pc' := 251) rfl (hb hby at_232) rfl (tlt hlt).2.2.1 (by decide) (by decide) ?_
      show Steps p.tables e below (T0.setTop (mkF m 251 #[.val (.int p1), .val (.long j2), .second, .val (.long j3), .second, .val (.long j4), .second, .val (.int la), .val (.int lb), .val (.long kk), .second, .val (.long nn), .second, .val (.long mm), .second, .val (.ref bP), .val (.ref bQ), .val (.ref bR), .val (.ref bS), .val (.ref bT), .val (.double rW), .second, .val (.double rS), .second, .val (.double rO), .second, .val (.double rL), .second, .val (.int (1 : Int32)), .val (.int (1 : Int32)), .unset, .unset] [])) _
      refine XS.dload X0.here hx rfl (hb hby at_251) rfl ?_
      show Steps p.tables e below (T0.setTop (mkF m 253 #[.val (.int p1), .val (.long j2), .second, .val (.long j3), .second, .val (.long j4), .second, .val (.int la), .val (.int lb), .val (.long kk), .second, .val (.long nn), .second, .val (.long mm), .second, .val (.ref bP), .val (.ref bQ), .val (.ref bR), .val (.ref bS), .val (.ref bT), .val (.double rW), .second, .val (.double rS), .second, .val (.double rO), .second, .val (.double rL), .second, .val (.int (1 : Int32)), .val (.int (1 : Int32)), .unset, .unset] [(.double rS)])) _
      refine XS.dload X0.here hx rfl (hb hby at_253) rfl ?_
      show Steps p.tables e below (T0.setTop (mkF m 255 #[.val (.int p1), .val (.long j2), .second, .val (.long j3), .second, .val (.long j4), .second, .val (.int la), .val (.int lb), .val (.long kk), .second, .val (.long nn), .second, .val (.long mm), .second, .val (.ref bP), .val (.ref bQ), .val (.ref bR), .val (.ref bS), .val (.ref bT), .val (.double rW), .second, .val (.double rS), .second, .val (.double rO), .second, .val (.double rL), .second, .val (.int (1 : Int32)), .val (.int (1 : Int32)), .unset, .unset] [(.double rO), (.double rS)])) _
      refine XS.dcmpS X0.here hx rfl (hb hby at_255) rfl (v := vC) hvC ?_
      show Steps p.tables e below (T0.setTop (mkF m 256 #[.val (.int p1), .val (.long j2), .second, .val (.long j3), .second, .val (.long j4), .second, .val (.int la), .val (.int lb), .val (.long kk), .second, .val (.long nn), .second, .val (.long mm), .second, .val (.ref bP), .val (.ref bQ), .val (.ref bR), .val (.ref bS), .val (.ref bT), .val (.double rW), .second, .val (.double rS), .second, .val (.double rO), .second, .val (.double rL), .second, .val (.int (1 : Int32)), .val (.int (1 : Int32)), .unset, .unset] [(.int vC)])) _
      refine XS.ifNo X0.here hx rfl (hb hby at_256) rfl ((if0 _ _).trans (flt (hC hlt)).1) ?_
      show Steps p.tables e below (T0.setTop (mkF m 259 #[.val (.int p1), .val (.long j2), .second, .val (.long j3), .second, .val (.long j4), .second, .val (.int la), .val (.int lb), .val (.long kk), .second, .val (.long nn), .second, .val (.long mm), .second, .val (.ref bP), .val (.ref bQ), .val (.ref bR), .val (.ref bS), .val (.ref bT), .val (.double rW), .second, .val (.double rS), .second, .val (.double rO), .second, .val (.double rL), .second, .val (.int (1 : Int32)), .val (.int (1 : Int32)), .unset, .unset] [])) _
      refine XS.iconst X0.here hx rfl (hb hby at_259) ?_
      show Steps p.tables e below (T0.setTop (mkF m 260 #[.val (.int p1), .val (.long j2), .second, .val (.long j3), .second, .val (.long j4), .second, .val (.int la), .val (.int lb), .val (.long kk), .second, .val (.long nn), .second, .val (.long mm), .second, .val (.ref bP), .val (.ref bQ), .val (.ref bR), .val (.ref bS), .val (.ref bT), .val (.double rW), .second, .val (.double rS), .second, .val (.double rO), .second, .val (.double rL), .second, .val (.int (1 : Int32)), .val (.int (1 : Int32)), .unset, .unset] [(.int (1 : Int32))])) _
      refine XS.goto X0.here hx rfl (pc0 := 260) (pc' := 264) rfl (hb hby at_260) (by decide) (by decide) ?_
      show Steps p.tables e below (T0.setTop (mkF m 264 #[.val (.int p1), .val (.long j2), .second, .val (.long j3), .second, .val (.long j4), .second, .val (.int la), .val (.int lb), .val (.long kk), .second, .val (.long nn), .second, .val (.long mm), .second, .val (.ref bP), .val (.ref bQ), .val (.ref bR), .val (.ref bS), .val (.ref bT), .val (.double rW), .second, .val (.double rS), .second, .val (.double rO), .second, .val (.double rL), .second, .val (.int (1 : Int32)), .val (.int (1 : Int32)), .unset, .unset] [(.int (1 : Int32))])) _
      refine XS.istore X0.here hx rfl (hb hby at_264) rfl (l' := #[.val (.int p1), .val (.long j2), .second, .val (.long j3), .second, .val (.long j4), .second, .val (.int la), .val (.int lb), .val (.long kk), .second, .val (.long nn), .second, .val (.long mm), .second, .val (.ref bP), .val (.ref bQ), .val (.ref bR), .val (.ref bS), .val (.ref bT), .val (.double rW), .second, .val (.double rS), .second, .val (.double rO), .second, .val (.double rL), .second, .val (.int (1 : Int32)), .val (.int (1 : Int32)), .val (.int (1 : Int32)), .unset]) rfl ?_
      show Steps p.tables e below (T0.setTop (mkF m 266 #[.val (.int p1), .val (.long j2), .second, .val (.long j3), .second, .val (.long j4), .second, .val (.int la), .val (.int lb), .val (.long kk), .second, .val (.long nn), .second, .val (.long mm), .second, .val (.ref bP), .val (.ref bQ), .val (.ref bR), .val (.ref bS), .val (.ref bT), .val (.double rW), .second, .val (.double rS), .second, .val (.double rO), .second, .val (.double rL), .second, .val (.int (1 : Int32)), .val (.int (1 : Int32)), .val (.int (1 : Int32)), .unset] [])) _
      refine XS.dload X0.here hx rfl (hb hby at_266) rfl ?_
      show Steps p.tables e below (T0.setTop (mkF m 268 #[.val (.int p1), .val (.long j2), .second, .val (.long j3), .second, .val (.long j4), .second, .val (.int la), .val (.int lb), .val (.long kk), .second, .val (.long nn), .second, .val (.long mm), .second, .val (.ref bP), .val (.ref bQ), .val (.ref bR), .val (.ref bS), .val (.ref bT), .val (.double rW), .second, .val (.double rS), .second, .val (.double rO), .second, .val (.double rL), .second, .val (.int (1 : Int32)), .val (.int (1 : Int32)), .val (.int (1 : Int32)), .unset] [(.double rL)])) _
      refine XS.dload X0.here hx rfl (hb hby at_268) rfl ?_
      show Steps p.tables e below (T0.setTop (mkF m 270 #[.val (.int p1), .val (.long j2), .second, .val (.long j3), .second, .val (.long j4), .second, .val (.int la), .val (.int lb), .val (.long kk), .second, .val (.long nn), .second, .val (.long mm), .second, .val (.ref bP), .val (.ref bQ), .val (.ref bR), .val (.ref bS), .val (.ref bT), .val (.double rW), .second, .val (.double rS), .second, .val (.double rO), .second, .val (.double rL), .second, .val (.int (1 : Int32)), .val (.int (1 : Int32)), .val (.int (1 : Int32)), .unset] [(.double rS), (.double rL)])) _
      refine XS.dcmpS X0.here hx rfl (hb hby at_270) rfl (v := vD) hvD ?_
      show Steps p.tables e below (T0.setTop (mkF m 271 #[.val (.int p1), .val (.long j2), .second, .val (.long j3), .second, .val (.long j4), .second, .val (.int la), .val (.int lb), .val (.long kk), .second, .val (.long nn), .second, .val (.long mm), .second, .val (.ref bP), .val (.ref bQ), .val (.ref bR), .val (.ref bS), .val (.ref bT), .val (.double rW), .second, .val (.double rS), .second, .val (.double rO), .second, .val (.double rL), .second, .val (.int (1 : Int32)), .val (.int (1 : Int32)), .val (.int (1 : Int32)), .unset] [(.int vD)])) _
      refine XS.ifNo X0.here hx rfl (hb hby at_271) rfl ((if0 _ _).trans (flt hD).2.2.1) ?_
      show Steps p.tables e below (T0.setTop (mkF m 274 #[.val (.int p1), .val (.long j2), .second, .val (.long j3), .second, .val (.long j4), .second, .val (.int la), .val (.int lb), .val (.long kk), .second, .val (.long nn), .second, .val (.long mm), .second, .val (.ref bP), .val (.ref bQ), .val (.ref bR), .val (.ref bS), .val (.ref bT), .val (.double rW), .second, .val (.double rS), .second, .val (.double rO), .second, .val (.double rL), .second, .val (.int (1 : Int32)), .val (.int (1 : Int32)), .val (.int (1 : Int32)), .unset] [])) _
      refine XS.iconst X0.here hx rfl (hb hby at_274) ?_
      show Steps p.tables e below (T0.setTop (mkF m 275 #[.val (.int p1), .val (.long j2), .second, .val (.long j3), .second, .val (.long j4), .second, .val (.int la), .val (.int lb), .val (.long kk), .second, .val (.long nn), .second, .val (.long mm), .second, .val (.ref bP), .val (.ref bQ), .val (.ref bR), .val (.ref bS), .val (.ref bT), .val (.double rW), .second, .val (.double rS), .second, .val (.double rO), .second, .val (.double rL), .second, .val (.int (1 : Int32)), .val (.int (1 : Int32)), .val (.int (1 : Int32)), .unset] [(.int (1 : Int32))])) _
      refine XS.goto X0.here hx rfl (pc0 := 275) (pc' := 279) rfl (hb hby at_275) (by decide) (by decide) ?_
      show Steps p.tables e below (T0.setTop (mkF m 279 #[.val (.int p1), .val (.long j2), .second, .val (.long j3), .second, .val (.long j4), .second, .val (.int la), .val (.int lb), .val (.long kk), .second, .val (.long nn), .second, .val (.long mm), .second, .val (.ref bP), .val (.ref bQ), .val (.ref bR), .val (.ref bS), .val (.ref bT), .val (.double rW), .second, .val (.double rS), .second, .val (.double rO), .second, .val (.double rL), .second, .val (.int (1 : Int32)), .val (.int (1 : Int32)), .val (.int (1 : Int32)), .unset] [(.int (1 : Int32))])) _
      refine XS.istore X0.here hx rfl (hb hby at_279) rfl (l' := #[.val (.int p1), .val (.long j2), .second, .val (.long j3), .second, .val (.long j4), .second, .val (.int la), .val (.int lb), .val (.long kk), .second, .val (.long nn), .second, .val (.long mm), .second, .val (.ref bP), .val (.ref bQ), .val (.ref bR), .val (.ref bS), .val (.ref bT), .val (.double rW), .second, .val (.double rS), .second, .val (.double rO), .second, .val (.double rL), .second, .val (.int (1 : Int32)), .val (.int (1 : Int32)), .val (.int (1 : Int32)), .val (.int (1 : Int32))]) rfl ?_
      show Steps p.tables e below (T0.setTop (mkF m 281 #[.val (.int p1), .val (.long j2), .second, .val (.long j3), .second, .val (.long j4), .second, .val (.int la), .val (.int lb), .val (.long kk), .second, .val (.long nn), .second, .val (.long mm), .second, .val (.ref bP), .val (.ref bQ), .val (.ref bR), .val (.ref bS), .val (.ref bT), .val (.double rW), .second, .val (.double rS), .second, .val (.double rO), .second, .val (.double rL), .second, .val (.int (1 : Int32)), .val (.int (1 : Int32)), .val (.int (1 : Int32)), .val (.int (1 : Int32))] [])) _
      refine XS.iload X0.here hx rfl (hb hby at_281) rfl ?_
      show Steps p.tables e below (T0.setTop (mkF m 283 #[.val (.int p1), .val (.long j2), .second, .val (.long j3), .second, .val (.long j4), .second, .val (.int la), .val (.int lb), .val (.long kk), .second, .val (.long nn), .second, .val (.long mm), .second, .val (.ref bP), .val (.ref bQ), .val (.ref bR), .val (.ref bS), .val (.ref bT), .val (.double rW), .second, .val (.double rS), .second, .val (.double rO), .second, .val (.double rL), .second, .val (.int (1 : Int32)), .val (.int (1 : Int32)), .val (.int (1 : Int32)), .val (.int (1 : Int32))] [(.int (1 : Int32))])) _
      refine XS.ifNo X0.here hx rfl (hb hby at_283) rfl ((if0 _ _).trans (feq (by decide : ¬ ((1 : Int32) = (0 : Int32)))).1) ?_
      show Steps p.tables e below (T0.setTop (mkF m 286 #[.val (.int p1), .val (.long j2), .second, .val (.long j3), .second, .val (.long j4), .second, .val (.int la), .val (.int lb), .val (.long kk), .second, .val (.long nn), .second, .val (.long mm), .second, .val (.ref bP), .val (.ref bQ), .val (.ref bR), .val (.ref bS), .val (.ref bT), .val (.double rW), .second, .val (.double rS), .second, .val (.double rO), .second, .val (.double rL), .second, .val (.int (1 : Int32)), .val (.int (1 : Int32)), .val (.int (1 : Int32)), .val (.int (1 : Int32))] [])) _
      refine XS.iload X0.here hx rfl (hb hby at_286) rfl ?_
      show Steps p.tables e below (T0.setTop (mkF m 288 #[.val (.int p1), .val (.long j2), .second, .val (.long j3), .second, .val (.long j4), .second, .val (.int la), .val (.int lb), .val (.long kk), .second, .val (.long nn), .second, .val (.long mm), .second, .val (.ref bP), .val (.ref bQ), .val (.ref bR), .val (.ref bS), .val (.ref bT), .val (.double rW), .second, .val (.double rS), .second, .val (.double rO), .second, .val (.double rL), .second, .val (.int (1 : Int32)), .val (.int (1 : Int32)), .val (.int (1 : Int32)), .val (.int (1 : Int32))] [(.int (1 : Int32))])) _
      refine XS.ifNo X0.here hx rfl (hb hby at_288) rfl ((if0 _ _).trans (feq (by decide : ¬ ((1 : Int32) = (0 : Int32)))).1) ?_
      show Steps p.tables e below (T0.setTop (mkF m 291 #[.val (.int p1), .val (.long j2), .second, .val (.long j3), .second, .val (.long j4), .second, .val (.int la), .val (.int lb), .val (.long kk), .second, .val (.long nn), .second, .val (.long mm), .second, .val (.ref bP), .val (.ref bQ), .val (.ref bR), .val (.ref bS), .val (.ref bT), .val (.double rW), .second, .val (.double rS), .second, .val (.double rO), .second, .val (.double rL), .second, .val (.int (1 : Int32)), .val (.int (1 : Int32)), .val (.int (1 : Int32)), .val (.int (1 : Int32))] [])) _
      refine XS.iload X0.here hx rfl (hb hby at_291) rfl ?_
      show Steps p.tables e below (T0.setTop (mkF m 293 #[.val (.int p1), .val (.long j2), .second, .val (.long j3), .second, .val (.long j4), .second, .val (.int la), .val (.int lb), .val (.long kk), .second, .val (.long nn), .second, .val (.long mm), .second, .val (.ref bP), .val (.ref bQ), .val (.ref bR), .val (.ref bS), .val (.ref bT), .val (.double rW), .second, .val (.double rS), .second, .val (.double rO), .second, .val (.double rL), .second, .val (.int (1 : Int32)), .val (.int (1 : Int32)), .val (.int (1 : Int32)), .val (.int (1 : Int32))] [(.int (1 : Int32))])) _
      refine XS.ifNo X0.here hx rfl (hb hby at_293) rfl ((if0 _ _).trans (feq (by decide : ¬ ((1 : Int32) = (0 : Int32)))).1) ?_
      show Steps p.tables e below (T0.setTop (mkF m 296 #[.val (.int p1), .val (.long j2), .second, .val (.long j3), .second, .val (.long j4), .second, .val (.int la), .val (.int lb), .val (.long kk), .second, .val (.long nn), .second, .val (.long mm), .second, .val (.ref bP), .val (.ref bQ), .val (.ref bR), .val (.ref bS), .val (.ref bT), .val (.double rW), .second, .val (.double rS), .second, .val (.double rO), .second, .val (.double rL), .second, .val (.int (1 : Int32)), .val (.int (1 : Int32)), .val (.int (1 : Int32)), .val (.int (1 : Int32))] [])) _
      refine XS.iload X0.here hx rfl (hb hby at_296) rfl ?_
      show Steps p.tables e below (T0.setTop (mkF m 298 #[.val (.int p1), .val (.long j2), .second, .val (.long j3), .second, .val (.long j4), .second, .val (.int la), .val (.int lb), .val (.long kk), .second, .val (.long nn), .second, .val (.long mm), .second, .val (.ref bP), .val (.ref bQ), .val (.ref bR), .val (.ref bS), .val (.ref bT), .val (.double rW), .second, .val (.double rS), .second, .val (.double rO), .second, .val (.double rL), .second, .val (.int (1 : Int32)), .val (.int (1 : Int32)), .val (.int (1 : Int32)), .val (.int (1 : Int32))] [(.int (1 : Int32))])) _
      refine XS.ifNo X0.here hx rfl (hb hby at_298) rfl ((if0 _ _).trans (feq (by decide : ¬ ((1 : Int32) = (0 : Int32)))).1) ?_
      show Steps p.tables e below (T0.setTop (mkF m 301 #[.val (.int p1), .val (.long j2), .second, .val (.long j3), .second, .val (.long j4), .second, .val (.int la), .val (.int lb), .val (.long kk), .second, .val (.long nn), .second, .val (.long mm), .second, .val (.ref bP), .val (.ref bQ), .val (.ref bR), .val (.ref bS), .val (.ref bT), .val (.double rW), .second, .val (.double rS), .second, .val (.double rO), .second, .val (.double rL), .second, .val (.int (1 : Int32)), .val (.int (1 : Int32)), .val (.int (1 : Int32)), .val (.int (1 : Int32))] [])) _
      refine XS.iconst X0.here hx rfl (hb hby at_301) ?_
      show Steps p.tables e below (T0.setTop (mkF m 302 #[.val (.int p1), .val (.long j2), .second, .val (.long j3), .second, .val (.long j4), .second, .val (.int la), .val (.int lb), .val (.long kk), .second, .val (.long nn), .second, .val (.long mm), .second, .val (.ref bP), .val (.ref bQ), .val (.ref bR), .val (.ref bS), .val (.ref bT), .val (.double rW), .second, .val (.double rS), .second, .val (.double rO), .second, .val (.double rL), .second, .val (.int (1 : Int32)), .val (.int (1 : Int32)), .val (.int (1 : Int32)), .val (.int (1 : Int32))] [(.int (1 : Int32))])) _
      refine XS.goto X0.here hx rfl (pc0 := 302) (pc' := 306) rfl (hb hby at_302) (by decide) (by decide) ?_
      exact kt
    · refine ⟨T0, _, X0, e0, N0, fun target kt => ?_⟩
      show Steps p.tables e below (T0.setTop (mkF m 174 #[.val (.int p1), .val (.long j2), .second, .val (.long j3), .second, .val (.long j4), .second, .val (.int la), .val (.int lb), .val (.long kk), .second, .val (.long nn), .second, .val (.long mm), .second, .val (.ref bP), .val (.ref bQ), .val (.ref bR), .val (.ref bS), .val (.ref bT), .val (.double rW), .second, .val (.double rS), .second, .val (.double rO), .second, .val (.double rL), .second, .unset, .unset, .unset, .unset] [])) _
      refine XS.dload X0.here hx rfl (hb hby at_174) rfl ?_
      show Steps p.tables e below (T0.setTop (mkF m 176 #[.val (.int p1), .val (.long j2), .second, .val (.long j3), .second, .val (.long j4), .second, .val (.int la), .val (.int lb), .val (.long kk), .second, .val (.long nn), .second, .val (.long mm), .second, .val (.ref bP), .val (.ref bQ), .val (.ref bR), .val (.ref bS), .val (.ref bT), .val (.double rW), .second, .val (.double rS), .second, .val (.double rO), .second, .val (.double rL), .second, .unset, .unset, .unset, .unset] [(.double rW)])) _
      refine XS.iload X0.here hx rfl (hb hby at_176) rfl ?_
      show Steps p.tables e below (T0.setTop (mkF m 178 #[.val (.int p1), .val (.long j2), .second, .val (.long j3), .second, .val (.long j4), .second, .val (.int la), .val (.int lb), .val (.long kk), .second, .val (.long nn), .second, .val (.long mm), .second, .val (.ref bP), .val (.ref bQ), .val (.ref bR), .val (.ref bS), .val (.ref bT), .val (.double rW), .second, .val (.double rS), .second, .val (.double rO), .second, .val (.double rL), .second, .unset, .unset, .unset, .unset] [(.int la), (.double rW)])) _
      refine XS.i2dS X0.here hx rfl (hb hby at_178) rfl (v := (Jvm.FP.l2d la.toInt64)) (Jvm.FP.Core.i2d_l2d la) ?_
      show Steps p.tables e below (T0.setTop (mkF m 179 #[.val (.int p1), .val (.long j2), .second, .val (.long j3), .second, .val (.long j4), .second, .val (.int la), .val (.int lb), .val (.long kk), .second, .val (.long nn), .second, .val (.long mm), .second, .val (.ref bP), .val (.ref bQ), .val (.ref bR), .val (.ref bS), .val (.ref bT), .val (.double rW), .second, .val (.double rS), .second, .val (.double rO), .second, .val (.double rL), .second, .unset, .unset, .unset, .unset] [(.double (Jvm.FP.l2d la.toInt64)), (.double rW)])) _
      refine XS.lload X0.here hx rfl (hb hby at_179) rfl ?_
      show Steps p.tables e below (T0.setTop (mkF m 181 #[.val (.int p1), .val (.long j2), .second, .val (.long j3), .second, .val (.long j4), .second, .val (.int la), .val (.int lb), .val (.long kk), .second, .val (.long nn), .second, .val (.long mm), .second, .val (.ref bP), .val (.ref bQ), .val (.ref bR), .val (.ref bS), .val (.ref bT), .val (.double rW), .second, .val (.double rS), .second, .val (.double rO), .second, .val (.double rL), .second, .unset, .unset, .unset, .unset] [(.long kk), (.double (Jvm.FP.l2d la.toInt64)), (.double rW)])) _
      refine XS.l2dS X0.here hx rfl (hb hby at_181) rfl (v := (Jvm.FP.l2d kk)) rfl ?_
      show Steps p.tables e below (T0.setTop (mkF m 182 #[.val (.int p1), .val (.long j2), .second, .val (.long j3), .second, .val (.long j4), .second, .val (.int la), .val (.int lb), .val (.long kk), .second, .val (.long nn), .second, .val (.long mm), .second, .val (.ref bP), .val (.ref bQ), .val (.ref bR), .val (.ref bS), .val (.ref bT), .val (.double rW), .second, .val (.double rS), .second, .val (.double rO), .second, .val (.double rL), .second, .unset, .unset, .unset, .unset] [(.double (Jvm.FP.l2d kk)), (.double (Jvm.FP.l2d la.toInt64)), (.double rW)])) _
      refine XS.ddivS X0.here hx rfl (hb hby at_182) rfl (v := rK) hnK hrK ?_
      show Steps p.tables e below (T0.setTop (mkF m 183 #[.val (.int p1), .val (.long j2), .second, .val (.long j3), .second, .val (.long j4), .second, .val (.int la), .val (.int lb), .val (.long kk), .second, .val (.long nn), .second, .val (.long mm), .second, .val (.ref bP), .val (.ref bQ), .val (.ref bR), .val (.ref bS), .val (.ref bT), .val (.double rW), .second, .val (.double rS), .second, .val (.double rO), .second, .val (.double rL), .second, .unset, .unset, .unset, .unset] [(.double rK), (.double rW)])) _
      refine XS.dcmpS X0.here hx rfl (hb hby at_183) rfl (v := (0 : Int32)) hcE ?_
      show Steps p.tables e below (T0.setTop (mkF m 184 #[.val (.int p1), .val (.long j2), .second, .val (.long j3), .second, .val (.long j4), .second, .val (.int la), .val (.int lb), .val (.long kk), .second, .val (.long nn), .second, .val (.long mm), .second, .val (.ref bP), .val (.ref bQ), .val (.ref bR), .val (.ref bS), .val (.ref bT), .val (.double rW), .second, .val (.double rS), .second, .val (.double rO), .second, .val (.double rL), .second, .unset, .unset, .unset, .unset] [(.int (0 : Int32))])) _
      refine XS.ifNo X0.here hx rfl (hb hby at_184) rfl ((if0 _ _).trans (teq (by decide : (0 : Int32) = (0 : Int32))).2) ?_
      show Steps p.tables e below (T0.setTop (mkF m 187 #[.val (.int p1), .val (.long j2), .second, .val (.long j3), .second, .val (.long j4), .second, .val (.int la), .val (.int lb), .val (.long kk), .second, .val (.long nn), .second, .val (.long mm), .second, .val (.ref bP), .val (.ref bQ), .val (.ref bR), .val (.ref bS), .val (.ref bT), .val (.double rW), .second, .val (.double rS), .second, .val (.double rO), .second, .val (.double rL), .second, .unset, .unset, .unset, .unset] [])) _
      refine XS.iconst X0.here hx rfl (hb hby at_187) ?_
      show Steps p.tables e below (T0.setTop (mkF m 188 #[.val (.int p1), .val (.long j2), .second, .val (.long j3), .second, .val (.long j4), .second, .val (.int la), .val (.int lb), .val (.long kk), .second, .val (.long nn), .second, .val (.long mm), .second, .val (.ref bP), .val (.ref bQ), .val (.ref bR), .val (.ref bS), .val (.ref bT), .val (.double rW), .second, .val (.double rS), .second, .val (.double rO), .second, .val (.double rL), .second, .unset, .unset, .unset, .unset] [(.int (1 : Int32))])) _
      refine XS.goto X0.here hx rfl (pc0 := 188) (pc' := 192) rfl (hb hby at_188) (by decide) (by decide) ?_
      show Steps p.tables e below (T0.setTop (mkF m 192 #[.val (.int p1), .val (.long j2), .second, .val (.long j3), .second, .val (.long j4), .second, .val (.int la), .val (.int lb), .val (.long kk), .second, .val (.long nn), .second, .val (.long mm), .second, .val (.ref bP), .val (.ref bQ), .val (.ref bR), .val (.ref bS), .val (.ref bT), .val (.double rW), .second, .val (.double rS), .second, .val (.double rO), .second, .val (.double rL), .second, .unset, .unset, .unset, .unset] [(.int (1 : Int32))])) _
      refine XS.istore X0.here hx rfl (hb hby at_192) rfl (l' := #[.val (.int p1), .val (.long j2), .second, .val (.long j3), .second, .val (.long j4), .second, .val (.int la), .val (.int lb), .val (.long kk), .second, .val (.long nn), .second, .val (.long mm), .second, .val (.ref bP), .val (.ref bQ), .val (.ref bR), .val (.ref bS), .val (.ref bT), .val (.double rW), .second, .val (.double rS), .second, .val (.double rO), .second, .val (.double rL), .second, .val (.int (1 : Int32)), .unset, .unset, .unset]) rfl ?_
      show Steps p.tables e below (T0.setTop (mkF m 194 #[.val (.int p1), .val (.long j2), .second, .val (.long j3), .second, .val (.long j4), .second, .val (.int la), .val (.int lb), .val (.long kk), .second, .val (.long nn), .second, .val (.long mm), .second, .val (.ref bP), .val (.ref bQ), .val (.ref bR), .val (.ref bS), .val (.ref bT), .val (.double rW), .second, .val (.double rS), .second, .val (.double rO), .second, .val (.double rL), .second, .val (.int (1 : Int32)), .unset, .unset, .unset] [])) _
      refine XS.iload X0.here hx rfl (hb hby at_194) rfl ?_
      show Steps p.tables e below (T0.setTop (mkF m 196 #[.val (.int p1), .val (.long j2), .second, .val (.long j3), .second, .val (.long j4), .second, .val (.int la), .val (.int lb), .val (.long kk), .second, .val (.long nn), .second, .val (.long mm), .second, .val (.ref bP), .val (.ref bQ), .val (.ref bR), .val (.ref bS), .val (.ref bT), .val (.double rW), .second, .val (.double rS), .second, .val (.double rO), .second, .val (.double rL), .second, .val (.int (1 : Int32)), .unset, .unset, .unset] [(.int la)])) _
      refine XS.ifYes X0.here hx rfl (pc0 := 196) (pc' := 214) rfl (hb hby at_196) rfl ((if0 _ _).trans (feq hla0).2) (by decide) (by decide) ?_
      show Steps p.tables e below (T0.setTop (mkF m 214 #[.val (.int p1), .val (.long j2), .second, .val (.long j3), .second, .val (.long j4), .second, .val (.int la), .val (.int lb), .val (.long kk), .second, .val (.long nn), .second, .val (.long mm), .second, .val (.ref bP), .val (.ref bQ), .val (.ref bR), .val (.ref bS), .val (.ref bT), .val (.double rW), .second, .val (.double rS), .second, .val (.double rO), .second, .val (.double rL), .second, .val (.int (1 : Int32)), .unset, .unset, .unset] [])) _
      refine XS.dload X0.here hx rfl (hb hby at_214) rfl ?_
      show Steps p.tables e below (T0.setTop (mkF m 216 #[.val (.int p1), .val (.long j2), .second, .val (.long j3), .second, .val (.long j4), .second, .val (.int la), .val (.int lb), .val (.long kk), .second, .val (.long nn), .second, .val (.long mm), .second, .val (.ref bP), .val (.ref bQ), .val (.ref bR), .val (.ref bS), .val (.ref bT), .val (.double rW), .second, .val (.double rS), .second, .val (.double rO), .second, .val (.double rL), .second, .val (.int (1 : Int32)), .unset, .unset, .unset] [(.double rS)])) _
      refine XS.dconst0 X0.here hx rfl (hb hby at_216) (v := (0 : UInt64)) rfl ?_
      show Steps p.tables e below (T0.setTop (mkF m 217 #[.val (.int p1), .val (.long j2), .second, .val (.long j3), .second, .val (.long j4), .second, .val (.int la), .val (.int lb), .val (.long kk), .second, .val (.long nn), .second, .val (.long mm), .second, .val (.ref bP), .val (.ref bQ), .val (.ref bR), .val (.ref bS), .val (.ref bT), .val (.double rW), .second, .val (.double rS), .second, .val (.double rO), .second, .val (.double rL), .second, .val (.int (1 : Int32)), .unset, .unset, .unset] [(.double (0 : UInt64)), (.double rS)])) _
      refine XS.dcmpS X0.here hx rfl (hb hby at_217) rfl (v := (1 : Int32)) (hc1 hla0) ?_
      show Steps p.tables e below (T0.setTop (mkF m 218 #[.val (.int p1), .val (.long j2), .second, .val (.long j3), .second, .val (.long j4), .second, .val (.int la), .val (.int lb), .val (.long kk), .second, .val (.long nn), .second, .val (.long mm), .second, .val (.ref bP), .val (.ref bQ), .val (.ref bR), .val (.ref bS), .val (.ref bT), .val (.double rW), .second, .val (.double rS), .second, .val (.double rO), .second, .val (.double rL), .second, .val (.int (1 : Int32)), .unset, .unset, .unset] [(.int (1 : Int32))])) _
      refine XS.ifNo X0.here hx rfl (hb hby at_218) rfl ((if0 _ _).trans (tlt (by decide : (0 : Int32) < (1 : Int32))).2.2.2) ?_
      show Steps p.tables e below (T0.setTop (mkF m 221 #[.val (.int p1), .val (.long j2), .second, .val (.long j3), .second, .val (.long j4), .second, .val (.int la), .val (.int lb), .val (.long kk), .second, .val (.long nn), .second, .val (.long mm), .second, .val (.ref bP), .val (.ref bQ), .val (.ref bR), .val (.ref bS), .val (.ref bT), .val (.double rW), .second, .val (.double rS), .second, .val (.double rO), .second, .val (.double rL), .second, .val (.int (1 : Int32)), .unset, .unset, .unset] [])) _
      refine XS.iconst X0.here hx rfl (hb hby at_221) ?_
      show Steps p.tables e below (T0.setTop (mkF m 222 #[.val (.int p1), .val (.long j2), .second, .val (.long j3), .second, .val (.long j4), .second, .val (.int la), .val (.int lb), .val (.long kk), .second, .val (.long nn), .second, .val (.long mm), .second, .val (.ref bP), .val (.ref bQ), .val (.ref bR), .val (.ref bS), .val (.ref bT), .val (.double rW), .second, .val (.double rS), .second, .val (.double rO), .second, .val (.double rL), .second, .val (.int (1 : Int32)), .unset, .unset, .unset] [(.int (1 : Int32))])) _
      refine XS.goto X0.here hx rfl (pc0 := 222) (pc' := 226) rfl (hb hby at_222) (by decide) (by decide) ?_
      show Steps p.tables e below (T0.setTop (mkF m 226 #[.val (.int p1), .val (.long j2), .second, .val (.long j3), .second, .val (.long j4), .second, .val (.int la), .val (.int lb), .val (.long kk), .second, .val (.long nn), .second, .val (.long mm), .second, .val (.ref bP), .val (.ref bQ), .val (.ref bR), .val (.ref bS), .val (.ref bT), .val (.double rW), .second, .val (.double rS), .second, .val (.double rO), .second, .val (.double rL), .second, .val (.int (1 : Int32)), .unset, .unset, .unset] [(.int (1 : Int32))])) _
      refine XS.istore X0.here hx rfl (hb hby at_226) rfl (l' := #[.val (.int p1), .val (.long j2), .second, .val (.long j3), .second, .val (.long j4), .second, .val (.int la), .val (.int lb), .val (.long kk), .second, .val (.long nn), .second, .val (.long mm), .second, .val (.ref bP), .val (.ref bQ), .val (.ref bR), .val (.ref bS), .val (.ref bT), .val (.double rW), .second, .val (.double rS), .second, .val (.double rO), .second, .val (.double rL), .second, .val (.int (1 : Int32)), .val (.int (1 : Int32)), .unset, .unset]) rfl ?_
      show Steps p.tables e below (T0.setTop (mkF m 228 #[.val (.int p1), .val (.long j2), .second, .val (.long j3), .second, .val (.long j4), .second, .val (.int la), .val (.int lb), .val (.long kk), .second, .val (.long nn), .second, .val (.long mm), .second, .val (.ref bP), .val (.ref bQ), .val (.ref bR), .val (.ref bS), .val (.ref bT), .val (.double rW), .second, .val (.double rS), .second, .val (.double rO), .second, .val (.double rL), .second, .val (.int (1 : Int32)), .val (.int (1 : Int32)), .unset, .unset] [])) _
      refine XS.iload X0.here hx rfl (hb hby at_228) rfl ?_
      show Steps p.tables e below (T0.setTop (mkF m 230 #[.val (.int p1), .val (.long j2), .second, .val (.long j3), .second, .val (.long j4), .second, .val (.int la), .val (.int lb), .val (.long kk), .second, .val (.long nn), .second, .val (.long mm), .second, .val (.ref bP), .val (.ref bQ), .val (.ref bR), .val (.ref bS), .val (.ref bT), .val (.double rW), .second, .val (.double rS), .second, .val (.double rO), .second, .val (.double rL), .second, .val (.int (1 : Int32)), .val (.int (1 : Int32)), .unset, .unset] [(.int la)])) _
      refine XS.iload X0.here hx rfl (hb hby at_230) rfl ?_
      show Steps p.tables e below (T0.setTop (mkF m 232 #[.val (.int p1), .val (.long j2), .second, .val (.long j3), .second, .val (.long j4), .second, .val (.int la), .val (.int lb), .val (.long kk), .second, .val (.long nn), .second, .val (.long mm), .second, .val (.ref bP), .val (.ref bQ), .val (.ref bR), .val (.ref bS), .val (.ref bT), .val (.double rW), .second, .val (.double rS), .second, .val (.double rO), .second, .val (.double rL), .second, .val (.int (1 : Int32)), .val (.int (1 : Int32)), .unset, .unset] [(.int lb), (.int la)])) _
      refine XS.icmpNo X0.here hx rfl (hb hby at_232) rfl (flt hlt).2.2.1 ?_
      show Steps p.tables e below (T0.setTop (mkF m 235 #[.val (.int p1), .val (.long j2), .second, .val (.long j3), .second, .val (.long j4), .second, .val (.int la), .val (.int lb), .val (.long kk), .second, .val (.long nn), .second, .val (.long mm), .second, .val (.ref bP), .val (.ref bQ), .val (.ref bR), .val (.ref bS), .val (.ref bT), .val (.double rW), .second, .val (.double rS), .second, .val (.double rO), .second, .val (.double rL), .second, .val (.int (1 : Int32)), .val (.int (1 : Int32)), .unset, .unset] [])) _
      refine XS.dload X0.here hx rfl (hb hby at_235) rfl ?_
      show Steps p.tables e below (T0.setTop (mkF m 237 #[.val (.int p1), .val (.long j2), .second, .val (.long j3), .second, .val (.long j4), .second, .val (.int la), .val (.int lb), .val (.long kk), .second, .val (.long nn), .second, .val (.long mm), .second, .val (.ref bP), .val (.ref bQ), .val (.ref bR), .val (.ref bS), .val (.ref bT), .val (.double rW), .second, .val (.double rS), .second, .val (.double rO), .second, .val (.double rL), .second, .val (.int (1 : Int32)), .val (.int (1 : Int32)), .unset, .unset] [(.double rS)])) _
      refine XS.dload X0.here hx rfl (hb hby at_237) rfl ?_
      show Steps p.tables e below (T0.setTop (mkF m 239 #[.val (.int p1), .val (.long j2), .second, .val (.long j3), .second, .val (.long j4), .second, .val (.int la), .val (.int lb), .val (.long kk), .second, .val (.long nn), .second, .val (.long mm), .second, .val (.ref bP), .val (.ref bQ), .val (.ref bR), .val (.ref bS), .val (.ref bT), .val (.double rW), .second, .val (.double rS), .second, .val (.double rO), .second, .val (.double rL), .second, .val (.int (1 : Int32)), .val (.int (1 : Int32)), .unset, .unset] [(.double rO), (.double rS)])) _
      refine XS.dcmpS X0.here hx rfl (hb hby at_239) rfl (v := vB) hvB ?_
      show Steps p.tables e below (T0.setTop (mkF m 240 #[.val (.int p1), .val (.long j2), .second, .val (.long j3), .second, .val (.long j4), .second, .val (.int la), .val (.int lb), .val (.long kk), .second, .val (.long nn), .second, .val (.long mm), .second, .val (.ref bP), .val (.ref bQ), .val (.ref bR), .val (.ref bS), .val (.ref bT), .val (.double rW), .second, .val (.double rS), .second, .val (.double rO), .second, .val (.double rL), .second, .val (.int (1 : Int32)), .val (.int (1 : Int32)), .unset, .unset] [(.int vB)])) _
      refine XS.ifNo X0.here hx rfl (hb hby at_240) rfl ((if0 _ _).trans (flt (hB hlt)).2.2.1) ?_
      show Steps p.tables e below (T0.setTop (mkF m 243 #[.val (.int p1), .val (.long j2), .second, .val (.long j3), .second, .val (.long j4), .second, .val (.int la), .val (.int lb), .val (.long kk), .second, .val (.long nn), .second, .val (.long mm), .second, .val (.ref bP), .val (.ref bQ), .val (.ref bR), .val (.ref bS), .val (.ref bT), .val (.double rW), .second, .val (.double rS), .second, .val (.double rO), .second, .val (.double rL), .second, .val (.int (1 : Int32)), .val (.int (1 : Int32)), .unset, .unset] [])) _
      refine XS.iconst X0.here hx rfl (hb hby at_243) ?_
      show Steps p.tables e below (T0.setTop (mkF m 244 #[.val (.int p1), .val (.long j2), .second, .val (.long j3), .second, .val (.long j4), .second, .val (.int la), .val (.int lb), .val (.long kk), .second, .val (.long nn), .second, .val (.long mm), .second, .val (.ref bP), .val (.ref bQ), .val (.ref bR), .val (.ref bS), .val (.ref bT), .val (.double rW), .second, .val (.double rS), .second, .val (.double rO), .second, .val (.double rL), .second, .val (.int (1 : Int32)), .val (.int (1 : Int32)), .unset, .unset] [(.int (1 : Int32))])) _
      refine XS.goto X0.here hx rfl (pc0 := 244) (pc' := 264) rfl (hb hby at_244) (by decide) (by decide) ?_
      show Steps p.tables e below (T0.setTop (mkF m 264 #[.val (.int p1), .val (.long j2), .second, .val (.long j3), .second, .val (.long j4), .second, .val (.int la), .val (.int lb), .val (.long kk), .second, .val (.long nn), .second, .val (.long mm), .second, .val (.ref bP), .val (.ref bQ), .val (.ref bR), .val (.ref bS), .val (.ref bT), .val (.double rW), .second, .val (.double rS), .second, .val (.double rO), .second, .val (.double rL), .second, .val (.int (1 : Int32)), .val (.int (1 : Int32)), .unset, .unset] [(.int (1 : Int32))])) _
      refine XS.istore X0.here hx rfl (hb hby at_264) rfl (l' := #[.val (.int p1), .val (.long j2), .second, .val (.long j3), .second, .val (.long j4), .second, .val (.int la), .val (.int lb), .val (.long kk), .second, .val (.long nn), .second, .val (.long mm), .second, .val (.ref bP), .val (.ref bQ), .val (.ref bR), .val (.ref bS), .val (.ref bT), .val (.double rW), .second, .val (.double rS), .second, .val (.double rO), .second, .val (.double rL), .second, .val (.int (1 : Int32)), .val (.int (1 : Int32)), .val (.int (1 : Int32)), .unset]) rfl ?_
      show Steps p.tables e below (T0.setTop (mkF m 266 #[.val (.int p1), .val (.long j2), .second, .val (.long j3), .second, .val (.long j4), .second, .val (.int la), .val (.int lb), .val (.long kk), .second, .val (.long nn), .second, .val (.long mm), .second, .val (.ref bP), .val (.ref bQ), .val (.ref bR), .val (.ref bS), .val (.ref bT), .val (.double rW), .second, .val (.double rS), .second, .val (.double rO), .second, .val (.double rL), .second, .val (.int (1 : Int32)), .val (.int (1 : Int32)), .val (.int (1 : Int32)), .unset] [])) _
      refine XS.dload X0.here hx rfl (hb hby at_266) rfl ?_
      show Steps p.tables e below (T0.setTop (mkF m 268 #[.val (.int p1), .val (.long j2), .second, .val (.long j3), .second, .val (.long j4), .second, .val (.int la), .val (.int lb), .val (.long kk), .second, .val (.long nn), .second, .val (.long mm), .second, .val (.ref bP), .val (.ref bQ), .val (.ref bR), .val (.ref bS), .val (.ref bT), .val (.double rW), .second, .val (.double rS), .second, .val (.double rO), .second, .val (.double rL), .second, .val (.int (1 : Int32)), .val (.int (1 : Int32)), .val (.int (1 : Int32)), .unset] [(.double rL)])) _
      refine XS.dload X0.here hx rfl (hb hby at_268) rfl ?_
      show Steps p.tables e below (T0.setTop (mkF m 270 #[.val (.int p1), .val (.long j2), .second, .val (.long j3), .second, .val (.long j4), .second, .val (.int la), .val (.int lb), .val (.long kk), .second, .val (.long nn), .second, .val (.long mm), .second, .val (.ref bP), .val (.ref bQ), .val (.ref bR), .val (.ref bS), .val (.ref bT), .val (.double rW), .second, .val (.double rS), .second, .val (.double rO), .second, .val (.double rL), .second, .val (.int (1 : Int32)), .val (.int (1 : Int32)), .val (.int (1 : Int32)), .unset] [(.double rS), (.double rL)])) _
      refine XS.dcmpS X0.here hx rfl (hb hby at_270) rfl (v := vD) hvD ?_
      show Steps p.tables e below (T0.setTop (mkF m 271 #[.val (.int p1), .val (.long j2), .second, .val (.long j3), .second, .val (.long j4), .second, .val (.int la), .val (.int lb), .val (.long kk), .second, .val (.long nn), .second, .val (.long mm), .second, .val (.ref bP), .val (.ref bQ), .val (.ref bR), .val (.ref bS), .val (.ref bT), .val (.double rW), .second, .val (.double rS), .second, .val (.double rO), .second, .val (.double rL), .second, .val (.int (1 : Int32)), .val (.int (1 : Int32)), .val (.int (1 : Int32)), .unset] [(.int vD)])) _
      refine XS.ifNo X0.here hx rfl (hb hby at_271) rfl ((if0 _ _).trans (flt hD).2.2.1) ?_
      show Steps p.tables e below (T0.setTop (mkF m 274 #[.val (.int p1), .val (.long j2), .second, .val (.long j3), .second, .val (.long j4), .second, .val (.int la), .val (.int lb), .val (.long kk), .second, .val (.long nn), .second, .val (.long mm), .second, .val (.ref bP), .val (.ref bQ), .val (.ref bR), .val (.ref bS), .val (.ref bT), .val (.double rW), .second, .val (.double rS), .second, .val (.double rO), .second, .val (.double rL), .second, .val (.int (1 : Int32)), .val (.int (1 : Int32)), .val (.int (1 : Int32)), .unset] [])) _
      refine XS.iconst X0.here hx rfl (hb hby at_274) ?_
      show Steps p.tables e below (T0.setTop (mkF m 275 #[.val (.int p1), .val (.long j2), .second, .val (.long j3), .second, .val (.long j4), .second, .val (.int la), .val (.int lb), .val (.long kk), .second, .val (.long nn), .second, .val (.long mm), .second, .val (.ref bP), .val (.ref bQ), .val (.ref bR), .val (.ref bS), .val (.ref bT), .val (.double rW), .second, .val (.double rS), .second, .val (.double rO), .second, .val (.double rL), .second, .val (.int (1 : Int32)), .val (.int (1 : Int32)), .val (.int (1 : Int32)), .unset] [(.int (1 : Int32))])) _
      refine XS.goto X0.here hx rfl (pc0 := 275) (pc' := 279) rfl (hb hby at_275) (by decide) (by decide) ?_
      show Steps p.tables e below (T0.setTop (mkF m 279 #[.val (.int p1), .val (.long j2), .second, .val (.long j3), .second, .val (.long j4), .second, .val (.int la), .val (.int lb), .val (.long kk), .second, .val (.long nn), .second, .val (.long mm), .second, .val (.ref bP), .val (.ref bQ), .val (.ref bR), .val (.ref bS), .val (.ref bT), .val (.double rW), .second, .val (.double rS), .second, .val (.double rO), .second, .val (.double rL), .second, .val (.int (1 : Int32)), .val (.int (1 : Int32)), .val (.int (1 : Int32)), .unset] [(.int (1 : Int32))])) _
      refine XS.istore X0.here hx rfl (hb hby at_279) rfl (l' := #[.val (.int p1), .val (.long j2), .second, .val (.long j3), .second, .val (.long j4), .second, .val (.int la), .val (.int lb), .val (.long kk), .second, .val (.long nn), .second, .val (.long mm), .second, .val (.ref bP), .val (.ref bQ), .val (.ref bR), .val (.ref bS), .val (.ref bT), .val (.double rW), .second, .val (.double rS), .second, .val (.double rO), .second, .val (.double rL), .second, .val (.int (1 : Int32)), .val (.int (1 : Int32)), .val (.int (1 : Int32)), .val (.int (1 : Int32))]) rfl ?_
      show Steps p.tables e below (T0.setTop (mkF m 281 #[.val (.int p1), .val (.long j2), .second, .val (.long j3), .second, .val (.long j4), .second, .val (.int la), .val (.int lb), .val (.long kk), .second, .val (.long nn), .second, .val (.long mm), .second, .val (.ref bP), .val (.ref bQ), .val (.ref bR), .val (.ref bS), .val (.ref bT), .val (.double rW), .second, .val (.double rS), .second, .val (.double rO), .second, .val (.double rL), .second, .val (.int (1 : Int32)), .val (.int (1 : Int32)), .val (.int (1 : Int32)), .val (.int (1 : Int32))] [])) _
      refine XS.iload X0.here hx rfl (hb hby at_281) rfl ?_
      show Steps p.tables e below (T0.setTop (mkF m 283 #[.val (.int p1), .val (.long j2), .second, .val (.long j3), .second, .val (.long j4), .second, .val (.int la), .val (.int lb), .val (.long kk), .second, .val (.long nn), .second, .val (.long mm), .second, .val (.ref bP), .val (.ref bQ), .val (.ref bR), .val (.ref bS), .val (.ref bT), .val (.double rW), .second, .val (.double rS), .second, .val (.double rO), .second, .val (.double rL), .second, .val (.int (1 : Int32)), .val (.int (1 : Int32)), .val (.int (1 : Int32)), .val (.int (1 : Int32))] [(.int (1 : Int32))])) _
      refine XS.ifNo X0.here hx rfl (hb hby at_283) rfl ((if0 _ _).trans (feq (by decide : ¬ ((1 : Int32) = (0 : Int32)))).1) ?_
      show Steps p.tables e below (T0.setTop (mkF m 286 #[.val (.int p1), .val (.long j2), .second, .val (.long j3), .second, .val (.long j4), .second, .val (.int la), .val (.int lb), .val (.long kk), .second, .val (.long nn), .second, .val (.long mm), .second, .val (.ref bP), .val (.ref bQ), .val (.ref bR), .val (.ref bS), .val (.ref bT), .val (.double rW), .second, .val (.double rS), .second, .val (.double rO), .second, .val (.double rL), .second, .val (.int (1 : Int32)), .val (.int (1 : Int32)), .val (.int (1 : Int32)), .val (.int (1 : Int32))] [])) _
      refine XS.iload X0.here hx rfl (hb hby at_286) rfl ?_
      show Steps p.tables e below (T0.setTop (mkF m 288 #[.val (.int p1), .val (.long j2), .second, .val (.long j3), .second, .val (.long j4), .second, .val (.int la), .val (.int lb), .val (.long kk), .second, .val (.long nn), .second, .val (.long mm), .second, .val (.ref bP), .val (.ref bQ), .val (.ref bR), .val (.ref bS), .val (.ref bT), .val (.double rW), .second, .val (.double rS), .second, .val (.double rO), .second, .val (.double rL), .second, .val (.int (1 : Int32)), .val (.int (1 : Int32)), .val (.int (1 : Int32)), .val (.int (1 : Int32))] [(.int (1 : Int32))])) _
      refine XS.ifNo X0.here hx rfl (hb hby at_288) rfl ((if0 _ _).trans (feq (by decide : ¬ ((1 : Int32) = (0 : Int32)))).1) ?_
      show Steps p.tables e below (T0.setTop (mkF m 291 #[.val (.int p1), .val (.long j2), .second, .val (.long j3), .second, .val (.long j4), .second, .val (.int la), .val (.int lb), .val (.long kk), .second, .val (.long nn), .second, .val (.long mm), .second, .val (.ref bP), .val (.ref bQ), .val (.ref bR), .val (.ref bS), .val (.ref bT), .val (.double rW), .second, .val (.double rS), .second, .val (.double rO), .second, .val (.double rL), .second, .val (.int (1 : Int32)), .val (.int (1 : Int32)), .val (.int (1 : Int32)), .val (.int (1 : Int32))] [])) _
      refine XS.iload X0.here hx rfl (hb hby at_291) rfl ?_
      show Steps p.tables e below (T0.setTop (mkF m 293 #[.val (.int p1), .val (.long j2), .second, .val (.long j3), .second, .val (.long j4), .second, .val (.int la), .val (.int lb), .val (.long kk), .second, .val (.long nn), .second, .val (.long mm), .second, .val (.ref bP), .val (.ref bQ), .val (.ref bR), .val (.ref bS), .val (.ref bT), .val (.double rW), .second, .val (.double rS), .second, .val (.double rO), .second, .val (.double rL), .second, .val (.int (1 : Int32)), .val (.int (1 : Int32)), .val (.int (1 : Int32)), .val (.int (1 : Int32))] [(.int (1 : Int32))])) _
      refine XS.ifNo X0.here hx rfl (hb hby at_293) rfl ((if0 _ _).trans (feq (by decide : ¬ ((1 : Int32) = (0 : Int32)))).1) ?_
      show Steps p.tables e below (T0.setTop (mkF m 296 #[.val (.int p1), .val (.long j2), .second, .val (.long j3), .second, .val (.long j4), .second, .val (.int la), .val (.int lb), .val (.long kk), .second, .val (.long nn), .second, .val (.long mm), .second, .val (.ref bP), .val (.ref bQ), .val (.ref bR), .val (.ref bS), .val (.ref bT), .val (.double rW), .second, .val (.double rS), .second, .val (.double rO), .second, .val (.double rL), .second, .val (.int (1 : Int32)), .val (.int (1 : Int32)), .val (.int (1 : Int32)), .val (.int (1 : Int32))] [])) _
      refine XS.iload X0.here hx rfl (hb hby at_296) rfl ?_
      show Steps p.tables e below (T0.setTop (mkF m 298 #[.val (.int p1), .val (.long j2), .second, .val (.long j3), .second, .val (.long j4), .second, .val (.int la), .val (.int lb), .val (.long kk), .second, .val (.long nn), .second, .val (.long mm), .second, .val (.ref bP), .val (.ref bQ), .val (.ref bR), .val (.ref bS), .val (.ref bT), .val (.double rW), .second, .val (.double rS), .second, .val (.double rO), .second, .val (.double rL), .second, .val (.int (1 : Int32)), .val (.int (1 : Int32)), .val (.int (1 : Int32)), .val (.int (1 : Int32))] [(.int (1 : Int32))])) _
      refine XS.ifNo X0.here hx rfl (hb hby at_298) rfl ((if0 _ _).trans (feq (by decide : ¬ ((1 : Int32) = (0 : Int32)))).1) ?_
      show Steps p.tables e below (T0.setTop (mkF m 301 #[.val (.int p1), .val (.long j2), .second, .val (.long j3), .second, .val (.long j4), .second, .val (.int la), .val (.int lb), .val (.long kk), .second, .val (.long nn), .second, .val (.long mm), .second, .val (.ref bP), .val (.ref bQ), .val (.ref bR), .val (.ref bS), .val (.ref bT), .val (.double rW), .second, .val (.double rS), .second, .val (.double rO), .second, .val (.double rL), .second, .val (.int (1 : Int32)), .val (.int (1 : Int32)), .val (.int (1 : Int32)), .val (.int (1 : Int32))] [])) _
      refine XS.iconst X0.here hx rfl (hb hby at_301) ?_
      show Steps p.tables e below (T0.setTop (mkF m 302 #[.val (.int p1), .val (.long j2), .second, .val (.long j3), .second, .val (.long j4), .second, .val (.int la), .val (.int lb), .val (.long kk), .second, .val (.long nn), .second, .val (.long mm), .second, .val (.ref bP), .val (.ref bQ), .val (.ref bR), .val (.ref bS), .val (.ref bT), .val (.double rW), .second, .val (.double rS), .second, .val (.double rO), .second, .val (.double rL), .second, .val (.int (1 : Int32)), .val (.int (1 : Int32)), .val (.int (1 : Int32)), .val (.int (1 : Int32))] [(.int (1 : Int32))])) _
      refine XS.goto X0.here hx rfl (pc0 := 302) (pc' := 306) rfl (hb hby at_302) (by decide) (by decide) ?_
      exact kt
theorem ef_0_IJJJ (m : MethodId) (x0 : Int32) (x1 : Int64) (x2 : Int64) (x3 : Int64) : entryFrame m #[(.int x0), (.long x1), (.long x2), (.long x3)] maxLocals = mkF m 0 #[.val (.int x0), .val (.long x1), .second, .val (.long x2), .second, .val (.long x3), .second, .unset, .unset, .unset, .unset, .unset, .unset, .unset, .unset, .unset, .unset, .unset, .unset, .unset, .unset, .unset, .unset, .unset, .unset, .unset, .unset, .unset, .unset, .unset, .unset, .unset] [] := by first | (simp [entryFrame, mkF, argsToLocals, Value.category, maxLocals]; done) | rfl
theorem pd_0 : parseMethodDescriptor "(JJ)J" = some ⟨[.long, .long], some .long⟩ := by decide +kernel
theorem pd_2 : parseMethodDescriptor "(Ljava/lang/String;II[JILjava/util/List;J)V" = some ⟨[(.object "java/lang/String"), .int, .int, (.array .long), .int, (.object "java/util/List"), .long], none⟩ := by decide +kernel
theorem pd_3 : parseMethodDescriptor "()D" = some ⟨[], some .double⟩ := by decide +kernel
def Q_rm0 (Z : State) (p1 : Int32) (j2 : Int64) (j3 : Int64) (j4 : Int64) (dc : Addr) (h0 : Heap) (n0 : Nat) (v : Option Value) (h : Heap) (L : List Loc) : Prop := v = some (.int (1 : Int32)) ∧ Fr n0 L
set_option maxRecDepth 65536 in
set_option maxHeartbeats 40000000 in
theorem rm0 (l : Launch) (Z : State) (a0 : Array Value) (hw : ∀ d ∈ tables_1, d.before a0 Z = true) (ws : List Jvm.Cond) (p1 : Int32) (j2 : Int64) (j3 : Int64) (j4 : Int64) (dc : Addr) (h0 : Heap) (n0 : Nat) (Z0 : n0 ≤ h0.size) (S0 : Sta Z h0 "java/util/ArrayList" "DEFAULTCAPACITY_EMPTY_ELEMENTDATA" "[Ljava/lang/Object;" (.ref dc)) :
    MetFree l x (head1 (Jvm.Cond.code x code maxLocals ret :: ws) room_1) (fun a U => a = #[(.int p1), (.long j2), (.long j3), (.long j4)] ∧ Z.Warmed39 U.vm ∧ U.heap = h0) (fun _ _ _ _ _ => True) (fun _ U o U' => ∃ v L, o = .returned v ∧ Q_rm0 Z p1 j2 j3 j4 dc h0 n0 v U'.heap L ∧ ReturnedEndW U o U' L room_1.cells room_1.slots) := by
  refine MetFree.of_bodySF (plainFor_of_name pn_0) hisR ?_
  intro p e s m args below meth c s₁ Bd hml0 hP hK
  obtain ⟨rfl, hZ, hh⟩ := hP
  have hx := Bd.exec
  have hby := Bd.bytes
  have hml : c.maxLocals = 32 := hml0
  have hown : s.vm.findClass "com/example/leadout/leadout/bench/ReportPairsPerSecondPinLaw" = some m.cls := findClass_of_methodNamed Bd.named
  have hnm := (name_of_methodNamed Bd.named Bd.method).1
  have X0 : Stand p l e room_1 s m #[(.int p1), (.long j2), (.long j3), (.long j4)] below meth c s₁ [] 0 0 := Stand.of_body Bd
  have e0 : s₁.heap = h0 := by rw [← hh, Bd.state]; rfl
  have N0 := Fr.nil n0
  have pre0 : ∀ t, Steps p.tables e below (s₁.setTop (mkF m 0 #[.val (.int p1), .val (.long j2), .second, .val (.long j3), .second, .val (.long j4), .second, .unset, .unset, .unset, .unset, .unset, .unset, .unset, .unset, .unset, .unset, .unset, .unset, .unset, .unset, .unset, .unset, .unset, .unset, .unset, .unset, .unset, .unset, .unset, .unset, .unset] [])) t → Steps p.tables e below (s₁.setTop (entryFrame m #[(.int p1), (.long j2), (.long j3), (.long j4)] maxLocals)) t := fun t k => castTop (ef_0_IJJJ m p1 j2 j3 j4) k
  obtain ⟨la, hla⟩ : ∃ z, (p1 &&& (15 : Int32)) = z := ⟨_, rfl⟩
  obtain ⟨la0, la1⟩ : 0 ≤ la.toInt ∧ la.toInt < 16 := by rw [← hla]; exact own_m15 _
  obtain ⟨lb, hlb⟩ : ∃ z, (((p1.toUInt32 >>> ((4 : Int32) &&& 31).toUInt32).toInt32) &&& (15 : Int32)) = z := ⟨_, rfl⟩
  obtain ⟨lb0, lb1⟩ : 0 ≤ lb.toInt ∧ lb.toInt < 16 := by rw [← hlb]; exact own_m15 _
  obtain ⟨kk, hkk⟩ : ∃ z, ((j2 &&& (1048575 : Int64)) + (1 : Int64)) = z := ⟨_, rfl⟩
  obtain ⟨kk1, kk2⟩ : 1 ≤ kk.toInt ∧ kk.toInt ≤ 1048576 := by rw [← hkk]; exact own_kk _
  obtain ⟨nn, hnn⟩ : ∃ z, own_max (j3 &&& (4611686018427387903 : Int64)) (1 : Int64) = z := ⟨_, rfl⟩
  obtain ⟨nn1, nn2⟩ := own_max1 (own_M j3).2 hnn
  obtain ⟨mm, hmm⟩ : ∃ z, (j4 &&& (4611686018427387903 : Int64)) = z := ⟨_, rfl⟩
  obtain ⟨mm1, mm2⟩ : 0 ≤ mm.toInt ∧ mm.toInt ≤ 4611686018427387903 := by rw [← hmm]; exact own_M _
  obtain ⟨kn, hkn⟩ : ∃ z, (kk * (1000000000 : Int64)) = z := ⟨_, rfl⟩
  have kn0 : kn.toInt = kk.toInt * 1000000000 := by rw [← hkn]; exact own_kn kk1 kk2
  have kn1 : 1 ≤ kn.toInt := by omega
  obtain ⟨nm, hnx⟩ : ∃ z, (nn + mm) = z := ⟨_, rfl⟩
  have nm0 : nm.toInt = nn.toInt + mm.toInt := by rw [← hnx]; exact own_nm nn1 nn2 mm1 mm2
  have nm1 : 1 ≤ nm.toInt := by omega
  obtain ⟨rW, hrW⟩ : ∃ z, own_r la.toInt64 kn = z := ⟨_, rfl⟩
  obtain ⟨rS, hrS⟩ : ∃ z, own_r la.toInt64 nn = z := ⟨_, rfl⟩
  obtain ⟨rO, hrO⟩ : ∃ z, own_r lb.toInt64 nn = z := ⟨_, rfl⟩
  obtain ⟨rL, hrL⟩ : ∃ z, own_r la.toInt64 nm = z := ⟨_, rfl⟩
  obtain ⟨rK, hrK⟩ : ∃ z, Jvm.FP.ddiv (Jvm.FP.l2d la.toInt64) (Jvm.FP.l2d kk) = z := ⟨_, rfl⟩
  obtain ⟨vB, hvB⟩ : ∃ z, cmpValue (Jvm.FP.dcmp rS rO) .g = z := ⟨_, rfl⟩
  obtain ⟨vC, hvC⟩ : ∃ z, cmpValue (Jvm.FP.dcmp rS rO) .l = z := ⟨_, rfl⟩
  obtain ⟨vD, hvD⟩ : ∃ z, cmpValue (Jvm.FP.dcmp rL rS) .g = z := ⟨_, rfl⟩
  have xa : la.toInt64.toInt = la.toInt := Int32.toInt_toInt64 la
  have xb : lb.toInt64.toInt = lb.toInt := Int32.toInt_toInt64 lb
  have hcE : cmpValue (Jvm.FP.dcmp rW rK) .l = 0 := by rw [← hrW, ← hrK]; exact own_eq (own_x64 la0) kk1 kk2 kn0
  have hc0 : la = 0 → cmpValue (Jvm.FP.dcmp rS 0) .l = 0 := by intro q; rw [← hrS, q]; exact own_sign0 nn1
  have hc1 : ¬ la = 0 → cmpValue (Jvm.FP.dcmp rS 0) .l = 1 := by intro q; rw [← hrS]; exact own_sign1 (by have q0 : la.toInt ≠ 0 := fun y => q (Int32.toInt_inj.mp y); omega) nn1
  have hB : ¬ lb < la → ¬ (0 : Int32) < vB := by intro q; rw [Int32.lt_iff_toInt_lt] at q; rw [← hvB, ← hrS, ← hrO]; exact (own_le (own_x64 la0) (by omega) nn1 (Int.le_refl _)).1
  have hC : lb < la → ¬ vC < (0 : Int32) := by intro q; rw [Int32.lt_iff_toInt_lt] at q; rw [← hvC, ← hrS, ← hrO]; exact (own_le (own_x64 lb0) (by omega) nn1 (Int.le_refl _)).2
  have hD : ¬ (0 : Int32) < vD := by rw [← hvD, ← hrL, ← hrS]; exact (own_le (own_x64 la0) (Int.le_refl _) nn1 (by omega)).1
  have hnK := own_nK (own_x64 la0) kk1 kk2 kn0
  obtain ⟨_, _, ⟨T1, L1, k1, n1⟩, -, X1, ⟨Lc1, hQ1, l1, y1, z1⟩, st1⟩ := Jvm.LawKit.callS X0 hx (y := (⟨"java/lang/Math", "max", "(JJ)J"⟩ : MethodName)) hown (mvT hZ (hw _ (List.mem_of_getElem? (i := 2) rfl))) (mvT hZ (hw _ (List.mem_of_getElem? (i := 3) rfl))) (mvT hZ (hw _ (List.mem_of_getElem? (i := 4) rfl))) (mvT hZ (hw _ (List.mem_of_getElem? (i := 5) rfl))) (by decide) (backOf (W := 0) (rmX l Z a0 hw [] (j3 &&& (4611686018427387903 : Int64)) (1 : Int64) nn h0 n0 Z0 hnn) hZ (hw _ (List.mem_of_getElem? (i := 5) rfl)) (hw _ (List.mem_of_getElem? (i := 4) rfl)) (by decide) (by decide)) (g := (mkF m 29 #[.val (.int p1), .val (.long j2), .second, .val (.long j3), .second, .val (.long j4), .second, .val (.int la), .val (.int lb), .val (.long kk), .second, .unset, .unset, .unset, .unset, .unset, .unset, .unset, .unset, .unset, .unset, .unset, .unset, .unset, .unset, .unset, .unset, .unset, .unset, .unset, .unset, .unset] [(.long (1 : Int64)), (.long (j3 &&& (4611686018427387903 : Int64)))])) rfl (by rw [hml]; rfl) (argsL := [(.long (j3 &&& (4611686018427387903 : Int64))), (.long (1 : Int64))]) (rest := []) (lenOf pd_0 rfl) rfl (by show 2 * 0 + _ ≤ _; exact Nat.le_of_eq rfl) (hb hby at_29) (fun _ _ => ⟨rfl, e0, (by decide : 0 + 0 ≤ _), (by decide : 0 + 0 ≤ _)⟩)
  dsimp only [Pt.U, Pt.locs, Pt.cells, Pt.slots] at X1 l1 y1 z1 st1 hQ1
  subst l1 y1 z1
  obtain ⟨rfl, Nq1, e1⟩ := hQ1
  have N1 := Fr.app N0 Nq1
  obtain ⟨T2, h2, X2, e2, E2, A2, D2, -, st2⟩ := newO X1 hx hZ hown (hw _ (List.mem_of_getElem? (i := 6) rfl)) (hw _ (List.mem_of_getElem? (i := 7) rfl)) (hw _ (List.mem_of_getElem? (i := 8) rfl)) e1 (g := (mkF m 42 #[.val (.int p1), .val (.long j2), .second, .val (.long j3), .second, .val (.long j4), .second, .val (.int la), .val (.int lb), .val (.long kk), .second, .val (.long nn), .second, .val (.long mm), .second, .unset, .unset, .unset, .unset, .unset, .unset, .unset, .unset, .unset, .unset, .unset, .unset, .unset, .unset, .unset, .unset, .unset] [])) rfl (hb hby at_42) (by decide) (by decide)
  obtain ⟨b2, g2⟩ : ∃ z, z = h0.size := ⟨_, rfl⟩
  rw [← g2] at A2 D2 st2
  have ge_b2 : n0 ≤ b2 := Nat.le_trans Z0 (Nat.le_of_eq g2.symm)
  have sz_b2 : h0.size ≤ b2 := Nat.le_trans (Keep.refl h0 []).1 (Nat.le_of_eq g2.symm)
  have S0_2 := S0.ext E2
  have Z2 : n0 ≤ h2.size := Nat.le_trans Z0 E2.1
  have Kp2 : Keep h0 h2 [] := (Keep.refl h0 []).ext E2
  have F_modCount_b2 : Fld Z h2 b2 "java/util/AbstractList" "modCount" "I" (.int (0 : Int32)) := D2 (Or.inl (hw _ (List.mem_of_getElem? (i := 28) rfl))) (ty := .int) (by decide)
  have F_elementData_b2 : Fld Z h2 b2 "java/util/ArrayList" "elementData" "[Ljava/lang/Object;" .null := D2 (Or.inl (hw _ (List.mem_of_getElem? (i := 31) rfl))) (ty := (.array (.object "java/lang/Object"))) (by decide)
  obtain ⟨_, _, ⟨T3, L3, k3, n3⟩, -, X3, ⟨Lc3, hQ3, l3, y3, z3⟩, st3⟩ := X2.specialBack hx (y := (⟨"java/util/ArrayList", "<init>", "()V"⟩ : MethodName)) rfl hown (mvT hZ (hw _ (List.mem_of_getElem? (i := 9) rfl))) (mvT hZ (hw _ (List.mem_of_getElem? (i := 10) rfl))) (mvT hZ (hw _ (List.mem_of_getElem? (i := 11) rfl))) (by decide) (backOf (W := 1) (rmA l Z a0 hw [] b2 dc h2 n0 Z2 A2 F_modCount_b2 F_elementData_b2 S0_2 ge_b2) hZ (hw _ (List.mem_of_getElem? (i := 11) rfl)) (hw _ (List.mem_of_getElem? (i := 8) rfl)) (by decide) (by decide)) (g := (mkF m 46 #[.val (.int p1), .val (.long j2), .second, .val (.long j3), .second, .val (.long j4), .second, .val (.int la), .val (.int lb), .val (.long kk), .second, .val (.long nn), .second, .val (.long mm), .second, .unset, .unset, .unset, .unset, .unset, .unset, .unset, .unset, .unset, .unset, .unset, .unset, .unset, .unset, .unset, .unset, .unset] [(.ref b2), (.ref b2)])) rfl (by rw [hml]; rfl) (Steps.refl _) (a := b2) (argsL := []) (rest := [(.ref b2)]) (lenOf pd_1 rfl) rfl (by show 2 * 0 + _ ≤ _; exact Nat.le_of_eq rfl) (hb hby at_46) (fun _ _ => ⟨rfl, e2, (by decide : 1 + 0 ≤ _), (by decide : 3 + 0 ≤ _)⟩)
  dsimp only [Pt.U, Pt.locs, Pt.cells, Pt.slots] at X3 l3 y3 z3 st3 hQ3
  subst l3 y3 z3
  obtain ⟨rfl, Nq3, K3, ex3⟩ := hQ3
  have S0_3 := own_sta_keep S0_2 K3 (allS (Exa.nostat A2) all0)
  have A2_3 := A2.keep K3
  have Z3 : n0 ≤ T3.heap.size := Nat.le_trans Z2 K3.1
  have Kp3 : Keep h0 T3.heap [] := Kp2.trans K3 (allS (Or.inr sz_b2) all0)
  have N3 := Fr.app N1 Nq3
  obtain ⟨T4, h4, X4, e4, E4, A4, D4, -, st4⟩ := newO X3 hx hZ hown (hw _ (List.mem_of_getElem? (i := 32) rfl)) (hw _ (List.mem_of_getElem? (i := 33) rfl)) (hw _ (List.mem_of_getElem? (i := 34) rfl)) rfl (g := (mkF m 51 #[.val (.int p1), .val (.long j2), .second, .val (.long j3), .second, .val (.long j4), .second, .val (.int la), .val (.int lb), .val (.long kk), .second, .val (.long nn), .second, .val (.long mm), .second, .val (.ref b2), .unset, .unset, .unset, .unset, .unset, .unset, .unset, .unset, .unset, .unset, .unset, .unset, .unset, .unset, .unset, .unset] [])) rfl (hb hby at_51) (by decide) (by decide)
  obtain ⟨b4, g4⟩ : ∃ z, z = T3.heap.size := ⟨_, rfl⟩
  rw [← g4] at A4 D4 st4
  have ne_b2_b4 : b2 ≠ b4 := Nat.ne_of_lt (Nat.lt_of_lt_of_eq ex3.lt g4.symm)
  have ge_b4 : n0 ≤ b4 := Nat.le_trans Z3 (Nat.le_of_eq g4.symm)
  have sz_b4 : h0.size ≤ b4 := Nat.le_trans Kp3.1 (Nat.le_of_eq g4.symm)
  have ex3_4 := ex3.ext E4
  have Z4 : n0 ≤ h4.size := Nat.le_trans Z3 E4.1
  have Kp4 : Keep h0 h4 [] := Kp3.ext E4
  have F_door_b4 : Fld Z h4 b4 "com/example/leadout/leadout/bench/Load$Report" "door" "Ljava/lang/String;" .null := D4 (Or.inr (hw _ (List.mem_of_getElem? (i := 55) rfl))) (ty := (.object "java/lang/String")) (by decide)
  have F_clients_b4 : Fld Z h4 b4 "com/example/leadout/leadout/bench/Load$Report" "clients" "I" (.int (0 : Int32)) := D4 (Or.inr (hw _ (List.mem_of_getElem? (i := 57) rfl))) (ty := .int) (by decide)
  have F_pairsEach_b4 : Fld Z h4 b4 "com/example/leadout/leadout/bench/Load$Report" "pairsEach" "I" (.int (0 : Int32)) := D4 (Or.inr (hw _ (List.mem_of_getElem? (i := 59) rfl))) (ty := .int) (by decide)
  have F_roundTrips_b4 : Fld Z h4 b4 "com/example/leadout/leadout/bench/Load$Report" "roundTrips" "[J" .null := D4 (Or.inr (hw _ (List.mem_of_getElem? (i := 61) rfl))) (ty := (.array .long)) (by decide)
  have F_errors_b4 : Fld Z h4 b4 "com/example/leadout/leadout/bench/Load$Report" "errors" "I" (.int (0 : Int32)) := D4 (Or.inr (hw _ (List.mem_of_getElem? (i := 63) rfl))) (ty := .int) (by decide)
  have F_firstErrors_b4 : Fld Z h4 b4 "com/example/leadout/leadout/bench/Load$Report" "firstErrors" "Ljava/util/List;" .null := D4 (Or.inr (hw _ (List.mem_of_getElem? (i := 65) rfl))) (ty := (.object "java/util/List")) (by decide)
  have F_nanos_b4 : Fld Z h4 b4 "com/example/leadout/leadout/bench/Load$Report" "nanos" "J" (.long (0 : Int64)) := D4 (Or.inr (hw _ (List.mem_of_getElem? (i := 67) rfl))) (ty := .long) (by decide)
  obtain ⟨ad5, T5, h5, kk5, X5, e5, E5, hS5, KZ5, hZ5, hown5, st5⟩ := ldcS (s := s) (vm0 := s.vm) X4 hx hZ hown (hw _ (List.mem_of_getElem? (i := 35) rfl)) (own_wS hw) e4 ((State.WarmedH.refl s).since 0) (Nat.zero_le _) (g := (mkF m 55 #[.val (.int p1), .val (.long j2), .second, .val (.long j3), .second, .val (.long j4), .second, .val (.int la), .val (.int lb), .val (.long kk), .second, .val (.long nn), .second, .val (.long mm), .second, .val (.ref b2), .unset, .unset, .unset, .unset, .unset, .unset, .unset, .unset, .unset, .unset, .unset, .unset, .unset, .unset, .unset, .unset] [(.ref b4), (.ref b4)])) rfl (hb hby at_55) (n := 4) (by decide) (by decide) (by decide) (by decide)
  have ex3_5 := ex3_4.ext E5
  have A4_5 := A4.ext E5
  have F_door_b4_5 := F_door_b4.ext E5
  have F_clients_b4_5 := F_clients_b4.ext E5
  have F_pairsEach_b4_5 := F_pairsEach_b4.ext E5
  have F_roundTrips_b4_5 := F_roundTrips_b4.ext E5
  have F_errors_b4_5 := F_errors_b4.ext E5
  have F_firstErrors_b4_5 := F_firstErrors_b4.ext E5
  have F_nanos_b4_5 := F_nanos_b4.ext E5
  have Z5 : n0 ≤ h5.size := Nat.le_trans Z4 E5.1
  have Kp5 : Keep h0 h5 [] := Kp4.ext E5
  obtain ⟨T6, h6, k6, X6, e6, E6, A6, st6⟩ := newP X5 hx hZ5 (hw _ (List.mem_of_getElem? (i := 43) rfl)) e5 (g := (mkF m 61 #[.val (.int p1), .val (.long j2), .second, .val (.long j3), .second, .val (.long j4), .second, .val (.int la), .val (.int lb), .val (.long kk), .second, .val (.long nn), .second, .val (.long mm), .second, .val (.ref b2), .unset, .unset, .unset, .unset, .unset, .unset, .unset, .unset, .unset, .unset, .unset, .unset, .unset, .unset, .unset, .unset] [(.int la), (.int (1 : Int32)), (.int (1 : Int32)), (.ref ad5), (.ref b4), (.ref b4)])) rfl (hb hby at_61) rfl (own_neg la0) (cap := 15) (own_cap la0 la1) (by decide) (by decide) (by decide)
  obtain ⟨b6, g6⟩ : ∃ z, z = h5.size := ⟨_, rfl⟩
  rw [← g6] at A6 st6
  have ne_b2_b6 : b2 ≠ b6 := Nat.ne_of_lt (Nat.lt_of_lt_of_eq ex3_5.lt g6.symm)
  have ne_b4_b6 : b4 ≠ b6 := Nat.ne_of_lt (Nat.lt_of_lt_of_eq A4_5.lt g6.symm)
  have ge_b6 : n0 ≤ b6 := Nat.le_trans Z5 (Nat.le_of_eq g6.symm)
  have sz_b6 : h0.size ≤ b6 := Nat.le_trans Kp5.1 (Nat.le_of_eq g6.symm)
  have ex3_6 := ex3_5.ext E6
  have A4_6 := A4_5.ext E6
  have F_door_b4_6 := F_door_b4_5.ext E6
  have F_clients_b4_6 := F_clients_b4_5.ext E6
  have F_pairsEach_b4_6 := F_pairsEach_b4_5.ext E6
  have F_roundTrips_b4_6 := F_roundTrips_b4_5.ext E6
  have F_errors_b4_6 := F_errors_b4_5.ext E6
  have F_firstErrors_b4_6 := F_firstErrors_b4_5.ext E6
  have F_nanos_b4_6 := F_nanos_b4_5.ext E6
  have Z6 : n0 ≤ h6.size := Nat.le_trans Z5 E6.1
  have KZ6 : kk5 ≤ h6.size := Nat.le_trans KZ5 E6.1
  have Kp6 : Keep h0 h6 [] := Kp5.ext E6
  have V_b6 : Arv Z h6 b6 k6 .long la [] (.long (0 : Int64)) := Arv.new A6 (own_neg la0)
  obtain ⟨_, _, ⟨T7, L7, k7, n7⟩, -, X7, ⟨Lc7, hQ7, l7, y7, z7⟩, st7⟩ := X6.specialBack hx (y := (⟨"com/example/leadout/leadout/bench/Load$Report", "<init>", "(Ljava/lang/String;II[JILjava/util/List;J)V"⟩ : MethodName)) rfl hown5 (mvT hZ5 (hw _ (List.mem_of_getElem? (i := 45) rfl))) (mvT hZ5 (hw _ (List.mem_of_getElem? (i := 46) rfl))) (mvT hZ5 (hw _ (List.mem_of_getElem? (i := 47) rfl))) (by decide) (backOf (W := 1) (rmI l Z a0 hw [] b4 ad5 (1 : Int32) (1 : Int32) b6 (0 : Int32) b2 kn h6 n0 Z6 A4_6 F_door_b4_6 F_clients_b4_6 F_pairsEach_b4_6 F_roundTrips_b4_6 F_errors_b4_6 F_firstErrors_b4_6 F_nanos_b4_6 ge_b4) hZ5 (hw _ (List.mem_of_getElem? (i := 47) rfl)) (hw _ (List.mem_of_getElem? (i := 34) rfl)) (by decide) (by decide)) (g := (mkF m 72 #[.val (.int p1), .val (.long j2), .second, .val (.long j3), .second, .val (.long j4), .second, .val (.int la), .val (.int lb), .val (.long kk), .second, .val (.long nn), .second, .val (.long mm), .second, .val (.ref b2), .unset, .unset, .unset, .unset, .unset, .unset, .unset, .unset, .unset, .unset, .unset, .unset, .unset, .unset, .unset, .unset] [(.long kn), (.ref b2), (.int (0 : Int32)), (.ref b6), (.int (1 : Int32)), (.int (1 : Int32)), (.ref ad5), (.ref b4), (.ref b4)])) rfl (by rw [hml]; rfl) (Steps.refl _) (a := b4) (argsL := [(.ref ad5), (.int (1 : Int32)), (.int (1 : Int32)), (.ref b6), (.int (0 : Int32)), (.ref b2), (.long kn)]) (rest := [(.ref b4)]) (lenOf pd_2 rfl) rfl (by show 2 * 0 + _ ≤ _; exact Nat.le_of_eq rfl) (hb hby at_72) (fun _ _ => ⟨rfl, e6, (by decide : 5 + 0 ≤ _), (by decide : 33 + 0 ≤ _)⟩)
  dsimp only [Pt.U, Pt.locs, Pt.cells, Pt.slots] at X7 l7 y7 z7 st7 hQ7
  subst l7 y7 z7
  obtain ⟨rfl, Nq7, K7, ex7, fr7, fz7⟩ := hQ7
  have ex3_7 := ex3_6.keep K7
  have A4_7 := A4_6.keep K7
  have V_b6_7 := V_b6.keep K7 (ninS (Ne.symm ne_b4_b6) nin0)
  have Z7 : n0 ≤ T7.heap.size := Nat.le_trans Z6 K7.1
  have KZ7 : kk5 ≤ T7.heap.size := Nat.le_trans KZ6 K7.1
  have Kp7 : Keep h0 T7.heap [] := Kp6.trans K7 (allS (Or.inr sz_b4) all0)
  have N7 := Fr.app N3 Nq7
  obtain ⟨T8, h8, X8, e8, E8, A8, D8, -, st8⟩ := newO X7 hx hZ5 hown5 (hw _ (List.mem_of_getElem? (i := 32) rfl)) (hw _ (List.mem_of_getElem? (i := 33) rfl)) (hw _ (List.mem_of_getElem? (i := 34) rfl)) rfl (g := (mkF m 77 #[.val (.int p1), .val (.long j2), .second, .val (.long j3), .second, .val (.long j4), .second, .val (.int la), .val (.int lb), .val (.long kk), .second, .val (.long nn), .second, .val (.long mm), .second, .val (.ref b2), .val (.ref b4), .unset, .unset, .unset, .unset, .unset, .unset, .unset, .unset, .unset, .unset, .unset, .unset, .unset, .unset, .unset] [])) rfl (hb hby at_77) (by decide) (by decide)
  obtain ⟨b8, g8⟩ : ∃ z, z = T7.heap.size := ⟨_, rfl⟩
  rw [← g8] at A8 D8 st8
  have ne_b2_b8 : b2 ≠ b8 := Nat.ne_of_lt (Nat.lt_of_lt_of_eq ex3_7.lt g8.symm)
  have ne_b4_b8 : b4 ≠ b8 := Nat.ne_of_lt (Nat.lt_of_lt_of_eq ex7.lt g8.symm)
  have ne_b6_b8 : b6 ≠ b8 := Nat.ne_of_lt (Nat.lt_of_lt_of_eq V_b6_7.lt g8.symm)
  have ge_b8 : n0 ≤ b8 := Nat.le_trans Z7 (Nat.le_of_eq g8.symm)
  have sz_b8 : h0.size ≤ b8 := Nat.le_trans Kp7.1 (Nat.le_of_eq g8.symm)
  have ex3_8 := ex3_7.ext E8
  have ex7_8 := ex7.ext E8
  have V_b6_8 := V_b6_7.ext E8
  have fr7_8 := fr7.ext E8
  have fz7_8 := fz7.ext E8
  have Z8 : n0 ≤ h8.size := Nat.le_trans Z7 E8.1
  have KZ8 : kk5 ≤ h8.size := Nat.le_trans KZ7 E8.1
  have Kp8 : Keep h0 h8 [] := Kp7.ext E8
  have F_door_b8 : Fld Z h8 b8 "com/example/leadout/leadout/bench/Load$Report" "door" "Ljava/lang/String;" .null := D8 (Or.inr (hw _ (List.mem_of_getElem? (i := 55) rfl))) (ty := (.object "java/lang/String")) (by decide)
  have F_clients_b8 : Fld Z h8 b8 "com/example/leadout/leadout/bench/Load$Report" "clients" "I" (.int (0 : Int32)) := D8 (Or.inr (hw _ (List.mem_of_getElem? (i := 57) rfl))) (ty := .int) (by decide)
  have F_pairsEach_b8 : Fld Z h8 b8 "com/example/leadout/leadout/bench/Load$Report" "pairsEach" "I" (.int (0 : Int32)) := D8 (Or.inr (hw _ (List.mem_of_getElem? (i := 59) rfl))) (ty := .int) (by decide)
  have F_roundTrips_b8 : Fld Z h8 b8 "com/example/leadout/leadout/bench/Load$Report" "roundTrips" "[J" .null := D8 (Or.inr (hw _ (List.mem_of_getElem? (i := 61) rfl))) (ty := (.array .long)) (by decide)
  have F_errors_b8 : Fld Z h8 b8 "com/example/leadout/leadout/bench/Load$Report" "errors" "I" (.int (0 : Int32)) := D8 (Or.inr (hw _ (List.mem_of_getElem? (i := 63) rfl))) (ty := .int) (by decide)
  have F_firstErrors_b8 : Fld Z h8 b8 "com/example/leadout/leadout/bench/Load$Report" "firstErrors" "Ljava/util/List;" .null := D8 (Or.inr (hw _ (List.mem_of_getElem? (i := 65) rfl))) (ty := (.object "java/util/List")) (by decide)
  have F_nanos_b8 : Fld Z h8 b8 "com/example/leadout/leadout/bench/Load$Report" "nanos" "J" (.long (0 : Int64)) := D8 (Or.inr (hw _ (List.mem_of_getElem? (i := 67) rfl))) (ty := .long) (by decide)
  obtain ⟨ad9, T9, h9, kk9, X9, e9, E9, hS9, KZ9, hZ9, hown9, st9⟩ := ldcS (s := s) (vm0 := T5.vm) X8 hx hZ5 hown5 (hw _ (List.mem_of_getElem? (i := 35) rfl)) (own_wS hw) e8 hS5 KZ8 (g := (mkF m 81 #[.val (.int p1), .val (.long j2), .second, .val (.long j3), .second, .val (.long j4), .second, .val (.int la), .val (.int lb), .val (.long kk), .second, .val (.long nn), .second, .val (.long mm), .second, .val (.ref b2), .val (.ref b4), .unset, .unset, .unset, .unset, .unset, .unset, .unset, .unset, .unset, .unset, .unset, .unset, .unset, .unset, .unset] [(.ref b8), (.ref b8)])) rfl (hb hby at_81) (n := 4) (by decide) (by decide) (by decide) (by decide)
  have ex3_9 := ex3_8.ext E9
  have ex7_9 := ex7_8.ext E9
  have V_b6_9 := V_b6_8.ext E9
  have fr7_9 := fr7_8.ext E9
  have fz7_9 := fz7_8.ext E9
  have A8_9 := A8.ext E9
  have F_door_b8_9 := F_door_b8.ext E9
  have F_clients_b8_9 := F_clients_b8.ext E9
  have F_pairsEach_b8_9 := F_pairsEach_b8.ext E9
  have F_roundTrips_b8_9 := F_roundTrips_b8.ext E9
  have F_errors_b8_9 := F_errors_b8.ext E9
  have F_firstErrors_b8_9 := F_firstErrors_b8.ext E9
  have F_nanos_b8_9 := F_nanos_b8.ext E9
  have Z9 : n0 ≤ h9.size := Nat.le_trans Z8 E9.1
  have Kp9 : Keep h0 h9 [] := Kp8.ext E9
  obtain ⟨T10, h10, k10, X10, e10, E10, A10, st10⟩ := newP X9 hx hZ9 (hw _ (List.mem_of_getElem? (i := 43) rfl)) e9 (g := (mkF m 87 #[.val (.int p1), .val (.long j2), .second, .val (.long j3), .second, .val (.long j4), .second, .val (.int la), .val (.int lb), .val (.long kk), .second, .val (.long nn), .second, .val (.long mm), .second, .val (.ref b2), .val (.ref b4), .unset, .unset, .unset, .unset, .unset, .unset, .unset, .unset, .unset, .unset, .unset, .unset, .unset, .unset, .unset] [(.int la), (.int (1 : Int32)), (.int (1 : Int32)), (.ref ad9), (.ref b8), (.ref b8)])) rfl (hb hby at_87) rfl (own_neg la0) (cap := 15) (own_cap la0 la1) (by decide) (by decide) (by decide)
  obtain ⟨b10, g10⟩ : ∃ z, z = h9.size := ⟨_, rfl⟩
  rw [← g10] at A10 st10
  have ne_b2_b10 : b2 ≠ b10 := Nat.ne_of_lt (Nat.lt_of_lt_of_eq ex3_9.lt g10.symm)
  have ne_b4_b10 : b4 ≠ b10 := Nat.ne_of_lt (Nat.lt_of_lt_of_eq ex7_9.lt g10.symm)
  have ne_b6_b10 : b6 ≠ b10 := Nat.ne_of_lt (Nat.lt_of_lt_of_eq V_b6_9.lt g10.symm)
  have ne_b8_b10 : b8 ≠ b10 := Nat.ne_of_lt (Nat.lt_of_lt_of_eq A8_9.lt g10.symm)
  have ge_b10 : n0 ≤ b10 := Nat.le_trans Z9 (Nat.le_of_eq g10.symm)
  have sz_b10 : h0.size ≤ b10 := Nat.le_trans Kp9.1 (Nat.le_of_eq g10.symm)
  have ex3_10 := ex3_9.ext E10
  have ex7_10 := ex7_9.ext E10
  have V_b6_10 := V_b6_9.ext E10
  have fr7_10 := fr7_9.ext E10
  have fz7_10 := fz7_9.ext E10
  have A8_10 := A8_9.ext E10
  have F_door_b8_10 := F_door_b8_9.ext E10
  have F_clients_b8_10 := F_clients_b8_9.ext E10
  have F_pairsEach_b8_10 := F_pairsEach_b8_9.ext E10
  have F_roundTrips_b8_10 := F_roundTrips_b8_9.ext E10
  have F_errors_b8_10 := F_errors_b8_9.ext E10
  have F_firstErrors_b8_10 := F_firstErrors_b8_9.ext E10
  have F_nanos_b8_10 := F_nanos_b8_9.ext E10
  have Z10 : n0 ≤ h10.size := Nat.le_trans Z9 E10.1
  have KZ10 : kk9 ≤ h10.size := Nat.le_trans KZ9 E10.1
  have Kp10 : Keep h0 h10 [] := Kp9.ext E10
  have V_b10 : Arv Z h10 b10 k10 .long la [] (.long (0 : Int64)) := Arv.new A10 (own_neg la0)
  obtain ⟨_, _, ⟨T11, L11, k11, n11⟩, -, X11, ⟨Lc11, hQ11, l11, y11, z11⟩, st11⟩ := X10.specialBack hx (y := (⟨"com/example/leadout/leadout/bench/Load$Report", "<init>", "(Ljava/lang/String;II[JILjava/util/List;J)V"⟩ : MethodName)) rfl hown9 (mvT hZ9 (hw _ (List.mem_of_getElem? (i := 45) rfl))) (mvT hZ9 (hw _ (List.mem_of_getElem? (i := 46) rfl))) (mvT hZ9 (hw _ (List.mem_of_getElem? (i := 47) rfl))) (by decide) (backOf (W := 1) (rmI l Z a0 hw [] b8 ad9 (1 : Int32) (1 : Int32) b10 (0 : Int32) b2 nn h10 n0 Z10 A8_10 F_door_b8_10 F_clients_b8_10 F_pairsEach_b8_10 F_roundTrips_b8_10 F_errors_b8_10 F_firstErrors_b8_10 F_nanos_b8_10 ge_b8) hZ9 (hw _ (List.mem_of_getElem? (i := 47) rfl)) (hw _ (List.mem_of_getElem? (i := 34) rfl)) (by decide) (by decide)) (g := (mkF m 94 #[.val (.int p1), .val (.long j2), .second, .val (.long j3), .second, .val (.long j4), .second, .val (.int la), .val (.int lb), .val (.long kk), .second, .val (.long nn), .second, .val (.long mm), .second, .val (.ref b2), .val (.ref b4), .unset, .unset, .unset, .unset, .unset, .unset, .unset, .unset, .unset, .unset, .unset, .unset, .unset, .unset, .unset] [(.long nn), (.ref b2), (.int (0 : Int32)), (.ref b10), (.int (1 : Int32)), (.int (1 : Int32)), (.ref ad9), (.ref b8), (.ref b8)])) rfl (by rw [hml]; rfl) (Steps.refl _) (a := b8) (argsL := [(.ref ad9), (.int (1 : Int32)), (.int (1 : Int32)), (.ref b10), (.int (0 : Int32)), (.ref b2), (.long nn)]) (rest := [(.ref b8)]) (lenOf pd_2 rfl) rfl (by show 2 * 0 + _ ≤ _; exact Nat.le_of_eq rfl) (hb hby at_94) (fun _ _ => ⟨rfl, e10, (by decide : 9 + 0 ≤ _), (by decide : 63 + 0 ≤ _)⟩)
  dsimp only [Pt.U, Pt.locs, Pt.cells, Pt.slots] at X11 l11 y11 z11 st11 hQ11
  subst l11 y11 z11
  obtain ⟨rfl, Nq11, K11, ex11, fr11, fz11⟩ := hQ11
  have ex3_11 := ex3_10.keep K11
  have ex7_11 := ex7_10.keep K11
  have V_b6_11 := V_b6_10.keep K11 (ninS ne_b6_b8 nin0)
  have fr7_11 := fr7_10.keep K11 (ninS ne_b4_b8 nin0)
  have fz7_11 := fz7_10.keep K11 (ninS ne_b4_b8 nin0)
  have A8_11 := A8_10.keep K11
  have V_b10_11 := V_b10.keep K11 (ninS (Ne.symm ne_b8_b10) nin0)
  have Z11 : n0 ≤ T11.heap.size := Nat.le_trans Z10 K11.1
  have KZ11 : kk9 ≤ T11.heap.size := Nat.le_trans KZ10 K11.1
  have Kp11 : Keep h0 T11.heap [] := Kp10.trans K11 (allS (Or.inr sz_b8) all0)
  have N11 := Fr.app N7 Nq11
  obtain ⟨T12, h12, X12, e12, E12, A12, D12, -, st12⟩ := newO X11 hx hZ9 hown9 (hw _ (List.mem_of_getElem? (i := 32) rfl)) (hw _ (List.mem_of_getElem? (i := 33) rfl)) (hw _ (List.mem_of_getElem? (i := 34) rfl)) rfl (g := (mkF m 99 #[.val (.int p1), .val (.long j2), .second, .val (.long j3), .second, .val (.long j4), .second, .val (.int la), .val (.int lb), .val (.long kk), .second, .val (.long nn), .second, .val (.long mm), .second, .val (.ref b2), .val (.ref b4), .val (.ref b8), .unset, .unset, .unset, .unset, .unset, .unset, .unset, .unset, .unset, .unset, .unset, .unset, .unset, .unset] [])) rfl (hb hby at_99) (by decide) (by decide)
  obtain ⟨b12, g12⟩ : ∃ z, z = T11.heap.size := ⟨_, rfl⟩
  rw [← g12] at A12 D12 st12
  have ne_b2_b12 : b2 ≠ b12 := Nat.ne_of_lt (Nat.lt_of_lt_of_eq ex3_11.lt g12.symm)
  have ne_b4_b12 : b4 ≠ b12 := Nat.ne_of_lt (Nat.lt_of_lt_of_eq ex7_11.lt g12.symm)
  have ne_b6_b12 : b6 ≠ b12 := Nat.ne_of_lt (Nat.lt_of_lt_of_eq V_b6_11.lt g12.symm)
  have ne_b8_b12 : b8 ≠ b12 := Nat.ne_of_lt (Nat.lt_of_lt_of_eq ex11.lt g12.symm)
  have ne_b10_b12 : b10 ≠ b12 := Nat.ne_of_lt (Nat.lt_of_lt_of_eq V_b10_11.lt g12.symm)
  have ge_b12 : n0 ≤ b12 := Nat.le_trans Z11 (Nat.le_of_eq g12.symm)
  have sz_b12 : h0.size ≤ b12 := Nat.le_trans Kp11.1 (Nat.le_of_eq g12.symm)
  have ex3_12 := ex3_11.ext E12
  have ex7_12 := ex7_11.ext E12
  have V_b6_12 := V_b6_11.ext E12
  have fr7_12 := fr7_11.ext E12
  have fz7_12 := fz7_11.ext E12
  have ex11_12 := ex11.ext E12
  have V_b10_12 := V_b10_11.ext E12
  have fr11_12 := fr11.ext E12
  have fz11_12 := fz11.ext E12
  have Z12 : n0 ≤ h12.size := Nat.le_trans Z11 E12.1
  have KZ12 : kk9 ≤ h12.size := Nat.le_trans KZ11 E12.1
  have Kp12 : Keep h0 h12 [] := Kp11.ext E12
  have F_door_b12 : Fld Z h12 b12 "com/example/leadout/leadout/bench/Load$Report" "door" "Ljava/lang/String;" .null := D12 (Or.inr (hw _ (List.mem_of_getElem? (i := 55) rfl))) (ty := (.object "java/lang/String")) (by decide)
  have F_clients_b12 : Fld Z h12 b12 "com/example/leadout/leadout/bench/Load$Report" "clients" "I" (.int (0 : Int32)) := D12 (Or.inr (hw _ (List.mem_of_getElem? (i := 57) rfl))) (ty := .int) (by decide)
  have F_pairsEach_b12 : Fld Z h12 b12 "com/example/leadout/leadout/bench/Load$Report" "pairsEach" "I" (.int (0 : Int32)) := D12 (Or.inr (hw _ (List.mem_of_getElem? (i := 59) rfl))) (ty := .int) (by decide)
  have F_roundTrips_b12 : Fld Z h12 b12 "com/example/leadout/leadout/bench/Load$Report" "roundTrips" "[J" .null := D12 (Or.inr (hw _ (List.mem_of_getElem? (i := 61) rfl))) (ty := (.array .long)) (by decide)
  have F_errors_b12 : Fld Z h12 b12 "com/example/leadout/leadout/bench/Load$Report" "errors" "I" (.int (0 : Int32)) := D12 (Or.inr (hw _ (List.mem_of_getElem? (i := 63) rfl))) (ty := .int) (by decide)
  have F_firstErrors_b12 : Fld Z h12 b12 "com/example/leadout/leadout/bench/Load$Report" "firstErrors" "Ljava/util/List;" .null := D12 (Or.inr (hw _ (List.mem_of_getElem? (i := 65) rfl))) (ty := (.object "java/util/List")) (by decide)
  have F_nanos_b12 : Fld Z h12 b12 "com/example/leadout/leadout/bench/Load$Report" "nanos" "J" (.long (0 : Int64)) := D12 (Or.inr (hw _ (List.mem_of_getElem? (i := 67) rfl))) (ty := .long) (by decide)
  obtain ⟨ad13, T13, h13, kk13, X13, e13, E13, hS13, KZ13, hZ13, hown13, st13⟩ := ldcS (s := s) (vm0 := T9.vm) X12 hx hZ9 hown9 (hw _ (List.mem_of_getElem? (i := 35) rfl)) (own_wS hw) e12 hS9 KZ12 (g := (mkF m 103 #[.val (.int p1), .val (.long j2), .second, .val (.long j3), .second, .val (.long j4), .second, .val (.int la), .val (.int lb), .val (.long kk), .second, .val (.long nn), .second, .val (.long mm), .second, .val (.ref b2), .val (.ref b4), .val (.ref b8), .unset, .unset, .unset, .unset, .unset, .unset, .unset, .unset, .unset, .unset, .unset, .unset, .unset, .unset] [(.ref b12), (.ref b12)])) rfl (hb hby at_103) (n := 4) (by decide) (by decide) (by decide) (by decide)
  have ex3_13 := ex3_12.ext E13
  have ex7_13 := ex7_12.ext E13
  have V_b6_13 := V_b6_12.ext E13
  have fr7_13 := fr7_12.ext E13
  have fz7_13 := fz7_12.ext E13
  have ex11_13 := ex11_12.ext E13
  have V_b10_13 := V_b10_12.ext E13
  have fr11_13 := fr11_12.ext E13
  have fz11_13 := fz11_12.ext E13
  have A12_13 := A12.ext E13
  have F_door_b12_13 := F_door_b12.ext E13
  have F_clients_b12_13 := F_clients_b12.ext E13
  have F_pairsEach_b12_13 := F_pairsEach_b12.ext E13
  have F_roundTrips_b12_13 := F_roundTrips_b12.ext E13
  have F_errors_b12_13 := F_errors_b12.ext E13
  have F_firstErrors_b12_13 := F_firstErrors_b12.ext E13
  have F_nanos_b12_13 := F_nanos_b12.ext E13
  have Z13 : n0 ≤ h13.size := Nat.le_trans Z12 E13.1
  have Kp13 : Keep h0 h13 [] := Kp12.ext E13
  obtain ⟨T14, h14, k14, X14, e14, E14, A14, st14⟩ := newP X13 hx hZ13 (hw _ (List.mem_of_getElem? (i := 43) rfl)) e13 (g := (mkF m 109 #[.val (.int p1), .val (.long j2), .second, .val (.long j3), .second, .val (.long j4), .second, .val (.int la), .val (.int lb), .val (.long kk), .second, .val (.long nn), .second, .val (.long mm), .second, .val (.ref b2), .val (.ref b4), .val (.ref b8), .unset, .unset, .unset, .unset, .unset, .unset, .unset, .unset, .unset, .unset, .unset, .unset, .unset, .unset] [(.int lb), (.int (1 : Int32)), (.int (1 : Int32)), (.ref ad13), (.ref b12), (.ref b12)])) rfl (hb hby at_109) rfl (own_neg lb0) (cap := 15) (own_cap lb0 lb1) (by decide) (by decide) (by decide)
  obtain ⟨b14, g14⟩ : ∃ z, z = h13.size := ⟨_, rfl⟩
  rw [← g14] at A14 st14
  have ne_b2_b14 : b2 ≠ b14 := Nat.ne_of_lt (Nat.lt_of_lt_of_eq ex3_13.lt g14.symm)
  have ne_b4_b14 : b4 ≠ b14 := Nat.ne_of_lt (Nat.lt_of_lt_of_eq ex7_13.lt g14.symm)
  have ne_b6_b14 : b6 ≠ b14 := Nat.ne_of_lt (Nat.lt_of_lt_of_eq V_b6_13.lt g14.symm)
  have ne_b8_b14 : b8 ≠ b14 := Nat.ne_of_lt (Nat.lt_of_lt_of_eq ex11_13.lt g14.symm)
  have ne_b10_b14 : b10 ≠ b14 := Nat.ne_of_lt (Nat.lt_of_lt_of_eq V_b10_13.lt g14.symm)
  have ne_b12_b14 : b12 ≠ b14 := Nat.ne_of_lt (Nat.lt_of_lt_of_eq A12_13.lt g14.symm)
  have ge_b14 : n0 ≤ b14 := Nat.le_trans Z13 (Nat.le_of_eq g14.symm)
  have sz_b14 : h0.size ≤ b14 := Nat.le_trans Kp13.1 (Nat.le_of_eq g14.symm)
  have ex3_14 := ex3_13.ext E14
  have ex7_14 := ex7_13.ext E14
  have V_b6_14 := V_b6_13.ext E14
  have fr7_14 := fr7_13.ext E14
  have fz7_14 := fz7_13.ext E14
  have ex11_14 := ex11_13.ext E14
  have V_b10_14 := V_b10_13.ext E14
  have fr11_14 := fr11_13.ext E14
  have fz11_14 := fz11_13.ext E14
  have A12_14 := A12_13.ext E14
  have F_door_b12_14 := F_door_b12_13.ext E14
  have F_clients_b12_14 := F_clients_b12_13.ext E14
  have F_pairsEach_b12_14 := F_pairsEach_b12_13.ext E14
  have F_roundTrips_b12_14 := F_roundTrips_b12_13.ext E14
  have F_errors_b12_14 := F_errors_b12_13.ext E14
  have F_firstErrors_b12_14 := F_firstErrors_b12_13.ext E14
  have F_nanos_b12_14 := F_nanos_b12_13.ext E14
  have Z14 : n0 ≤ h14.size := Nat.le_trans Z13 E14.1
  have KZ14 : kk13 ≤ h14.size := Nat.le_trans KZ13 E14.1
  have Kp14 : Keep h0 h14 [] := Kp13.ext E14
  have V_b14 : Arv Z h14 b14 k14 .long lb [] (.long (0 : Int64)) := Arv.new A14 (own_neg lb0)
  obtain ⟨_, _, ⟨T15, L15, k15, n15⟩, -, X15, ⟨Lc15, hQ15, l15, y15, z15⟩, st15⟩ := X14.specialBack hx (y := (⟨"com/example/leadout/leadout/bench/Load$Report", "<init>", "(Ljava/lang/String;II[JILjava/util/List;J)V"⟩ : MethodName)) rfl hown13 (mvT hZ13 (hw _ (List.mem_of_getElem? (i := 45) rfl))) (mvT hZ13 (hw _ (List.mem_of_getElem? (i := 46) rfl))) (mvT hZ13 (hw _ (List.mem_of_getElem? (i := 47) rfl))) (by decide) (backOf (W := 1) (rmI l Z a0 hw [] b12 ad13 (1 : Int32) (1 : Int32) b14 (0 : Int32) b2 nn h14 n0 Z14 A12_14 F_door_b12_14 F_clients_b12_14 F_pairsEach_b12_14 F_roundTrips_b12_14 F_errors_b12_14 F_firstErrors_b12_14 F_nanos_b12_14 ge_b12) hZ13 (hw _ (List.mem_of_getElem? (i := 47) rfl)) (hw _ (List.mem_of_getElem? (i := 34) rfl)) (by decide) (by decide)) (g := (mkF m 116 #[.val (.int p1), .val (.long j2), .second, .val (.long j3), .second, .val (.long j4), .second, .val (.int la), .val (.int lb), .val (.long kk), .second, .val (.long nn), .second, .val (.long mm), .second, .val (.ref b2), .val (.ref b4), .val (.ref b8), .unset, .unset, .unset, .unset, .unset, .unset, .unset, .unset, .unset, .unset, .unset, .unset, .unset, .unset] [(.long nn), (.ref b2), (.int (0 : Int32)), (.ref b14), (.int (1 : Int32)), (.int (1 : Int32)), (.ref ad13), (.ref b12), (.ref b12)])) rfl (by rw [hml]; rfl) (Steps.refl _) (a := b12) (argsL := [(.ref ad13), (.int (1 : Int32)), (.int (1 : Int32)), (.ref b14), (.int (0 : Int32)), (.ref b2), (.long nn)]) (rest := [(.ref b12)]) (lenOf pd_2 rfl) rfl (by show 2 * 0 + _ ≤ _; exact Nat.le_of_eq rfl) (hb hby at_116) (fun _ _ => ⟨rfl, e14, (by decide : 13 + 0 ≤ _), (by decide : 93 + 0 ≤ _)⟩)
  dsimp only [Pt.U, Pt.locs, Pt.cells, Pt.slots] at X15 l15 y15 z15 st15 hQ15
  subst l15 y15 z15
  obtain ⟨rfl, Nq15, K15, ex15, fr15, fz15⟩ := hQ15
  have ex3_15 := ex3_14.keep K15
  have ex7_15 := ex7_14.keep K15
  have V_b6_15 := V_b6_14.keep K15 (ninS ne_b6_b12 nin0)
  have fr7_15 := fr7_14.keep K15 (ninS ne_b4_b12 nin0)
  have fz7_15 := fz7_14.keep K15 (ninS ne_b4_b12 nin0)
  have ex11_15 := ex11_14.keep K15
  have V_b10_15 := V_b10_14.keep K15 (ninS ne_b10_b12 nin0)
  have fr11_15 := fr11_14.keep K15 (ninS ne_b8_b12 nin0)
  have fz11_15 := fz11_14.keep K15 (ninS ne_b8_b12 nin0)
  have A12_15 := A12_14.keep K15
  have V_b14_15 := V_b14.keep K15 (ninS (Ne.symm ne_b12_b14) nin0)
  have Z15 : n0 ≤ T15.heap.size := Nat.le_trans Z14 K15.1
  have KZ15 : kk13 ≤ T15.heap.size := Nat.le_trans KZ14 K15.1
  have Kp15 : Keep h0 T15.heap [] := Kp14.trans K15 (allS (Or.inr sz_b12) all0)
  have N15 := Fr.app N11 Nq15
  obtain ⟨T16, h16, X16, e16, E16, A16, D16, -, st16⟩ := newO X15 hx hZ13 hown13 (hw _ (List.mem_of_getElem? (i := 32) rfl)) (hw _ (List.mem_of_getElem? (i := 33) rfl)) (hw _ (List.mem_of_getElem? (i := 34) rfl)) rfl (g := (mkF m 121 #[.val (.int p1), .val (.long j2), .second, .val (.long j3), .second, .val (.long j4), .second, .val (.int la), .val (.int lb), .val (.long kk), .second, .val (.long nn), .second, .val (.long mm), .second, .val (.ref b2), .val (.ref b4), .val (.ref b8), .val (.ref b12), .unset, .unset, .unset, .unset, .unset, .unset, .unset, .unset, .unset, .unset, .unset, .unset, .unset] [])) rfl (hb hby at_121) (by decide) (by decide)
  obtain ⟨b16, g16⟩ : ∃ z, z = T15.heap.size := ⟨_, rfl⟩
  rw [← g16] at A16 D16 st16
  have ne_b2_b16 : b2 ≠ b16 := Nat.ne_of_lt (Nat.lt_of_lt_of_eq ex3_15.lt g16.symm)
  have ne_b4_b16 : b4 ≠ b16 := Nat.ne_of_lt (Nat.lt_of_lt_of_eq ex7_15.lt g16.symm)
  have ne_b6_b16 : b6 ≠ b16 := Nat.ne_of_lt (Nat.lt_of_lt_of_eq V_b6_15.lt g16.symm)
  have ne_b8_b16 : b8 ≠ b16 := Nat.ne_of_lt (Nat.lt_of_lt_of_eq ex11_15.lt g16.symm)
  have ne_b10_b16 : b10 ≠ b16 := Nat.ne_of_lt (Nat.lt_of_lt_of_eq V_b10_15.lt g16.symm)
  have ne_b12_b16 : b12 ≠ b16 := Nat.ne_of_lt (Nat.lt_of_lt_of_eq ex15.lt g16.symm)
  have ne_b14_b16 : b14 ≠ b16 := Nat.ne_of_lt (Nat.lt_of_lt_of_eq V_b14_15.lt g16.symm)
  have ge_b16 : n0 ≤ b16 := Nat.le_trans Z15 (Nat.le_of_eq g16.symm)
  have sz_b16 : h0.size ≤ b16 := Nat.le_trans Kp15.1 (Nat.le_of_eq g16.symm)
  have ex3_16 := ex3_15.ext E16
  have ex7_16 := ex7_15.ext E16
  have V_b6_16 := V_b6_15.ext E16
  have fr7_16 := fr7_15.ext E16
  have fz7_16 := fz7_15.ext E16
  have ex11_16 := ex11_15.ext E16
  have V_b10_16 := V_b10_15.ext E16
  have fr11_16 := fr11_15.ext E16
  have fz11_16 := fz11_15.ext E16
  have ex15_16 := ex15.ext E16
  have V_b14_16 := V_b14_15.ext E16
  have fr15_16 := fr15.ext E16
  have fz15_16 := fz15.ext E16
  have Z16 : n0 ≤ h16.size := Nat.le_trans Z15 E16.1
  have KZ16 : kk13 ≤ h16.size := Nat.le_trans KZ15 E16.1
  have Kp16 : Keep h0 h16 [] := Kp15.ext E16
  have F_door_b16 : Fld Z h16 b16 "com/example/leadout/leadout/bench/Load$Report" "door" "Ljava/lang/String;" .null := D16 (Or.inr (hw _ (List.mem_of_getElem? (i := 55) rfl))) (ty := (.object "java/lang/String")) (by decide)
  have F_clients_b16 : Fld Z h16 b16 "com/example/leadout/leadout/bench/Load$Report" "clients" "I" (.int (0 : Int32)) := D16 (Or.inr (hw _ (List.mem_of_getElem? (i := 57) rfl))) (ty := .int) (by decide)
  have F_pairsEach_b16 : Fld Z h16 b16 "com/example/leadout/leadout/bench/Load$Report" "pairsEach" "I" (.int (0 : Int32)) := D16 (Or.inr (hw _ (List.mem_of_getElem? (i := 59) rfl))) (ty := .int) (by decide)
  have F_roundTrips_b16 : Fld Z h16 b16 "com/example/leadout/leadout/bench/Load$Report" "roundTrips" "[J" .null := D16 (Or.inr (hw _ (List.mem_of_getElem? (i := 61) rfl))) (ty := (.array .long)) (by decide)
  have F_errors_b16 : Fld Z h16 b16 "com/example/leadout/leadout/bench/Load$Report" "errors" "I" (.int (0 : Int32)) := D16 (Or.inr (hw _ (List.mem_of_getElem? (i := 63) rfl))) (ty := .int) (by decide)
  have F_firstErrors_b16 : Fld Z h16 b16 "com/example/leadout/leadout/bench/Load$Report" "firstErrors" "Ljava/util/List;" .null := D16 (Or.inr (hw _ (List.mem_of_getElem? (i := 65) rfl))) (ty := (.object "java/util/List")) (by decide)
  have F_nanos_b16 : Fld Z h16 b16 "com/example/leadout/leadout/bench/Load$Report" "nanos" "J" (.long (0 : Int64)) := D16 (Or.inr (hw _ (List.mem_of_getElem? (i := 67) rfl))) (ty := .long) (by decide)
  obtain ⟨ad17, T17, h17, kk17, X17, e17, E17, hS17, KZ17, hZ17, hown17, st17⟩ := ldcS (s := s) (vm0 := T13.vm) X16 hx hZ13 hown13 (hw _ (List.mem_of_getElem? (i := 35) rfl)) (own_wS hw) e16 hS13 KZ16 (g := (mkF m 125 #[.val (.int p1), .val (.long j2), .second, .val (.long j3), .second, .val (.long j4), .second, .val (.int la), .val (.int lb), .val (.long kk), .second, .val (.long nn), .second, .val (.long mm), .second, .val (.ref b2), .val (.ref b4), .val (.ref b8), .val (.ref b12), .unset, .unset, .unset, .unset, .unset, .unset, .unset, .unset, .unset, .unset, .unset, .unset, .unset] [(.ref b16), (.ref b16)])) rfl (hb hby at_125) (n := 4) (by decide) (by decide) (by decide) (by decide)
  have ex3_17 := ex3_16.ext E17
  have ex7_17 := ex7_16.ext E17
  have V_b6_17 := V_b6_16.ext E17
  have fr7_17 := fr7_16.ext E17
  have fz7_17 := fz7_16.ext E17
  have ex11_17 := ex11_16.ext E17
  have V_b10_17 := V_b10_16.ext E17
  have fr11_17 := fr11_16.ext E17
  have fz11_17 := fz11_16.ext E17
  have ex15_17 := ex15_16.ext E17
  have V_b14_17 := V_b14_16.ext E17
  have fr15_17 := fr15_16.ext E17
  have fz15_17 := fz15_16.ext E17
  have A16_17 := A16.ext E17
  have F_door_b16_17 := F_door_b16.ext E17
  have F_clients_b16_17 := F_clients_b16.ext E17
  have F_pairsEach_b16_17 := F_pairsEach_b16.ext E17
  have F_roundTrips_b16_17 := F_roundTrips_b16.ext E17
  have F_errors_b16_17 := F_errors_b16.ext E17
  have F_firstErrors_b16_17 := F_firstErrors_b16.ext E17
  have F_nanos_b16_17 := F_nanos_b16.ext E17
  have Z17 : n0 ≤ h17.size := Nat.le_trans Z16 E17.1
  have Kp17 : Keep h0 h17 [] := Kp16.ext E17
  obtain ⟨T18, h18, k18, X18, e18, E18, A18, st18⟩ := newP X17 hx hZ17 (hw _ (List.mem_of_getElem? (i := 43) rfl)) e17 (g := (mkF m 131 #[.val (.int p1), .val (.long j2), .second, .val (.long j3), .second, .val (.long j4), .second, .val (.int la), .val (.int lb), .val (.long kk), .second, .val (.long nn), .second, .val (.long mm), .second, .val (.ref b2), .val (.ref b4), .val (.ref b8), .val (.ref b12), .unset, .unset, .unset, .unset, .unset, .unset, .unset, .unset, .unset, .unset, .unset, .unset, .unset] [(.int la), (.int (1 : Int32)), (.int (1 : Int32)), (.ref ad17), (.ref b16), (.ref b16)])) rfl (hb hby at_131) rfl (own_neg la0) (cap := 15) (own_cap la0 la1) (by decide) (by decide) (by decide)
  obtain ⟨b18, g18⟩ : ∃ z, z = h17.size := ⟨_, rfl⟩
  rw [← g18] at A18 st18
  have ne_b2_b18 : b2 ≠ b18 := Nat.ne_of_lt (Nat.lt_of_lt_of_eq ex3_17.lt g18.symm)
  have ne_b4_b18 : b4 ≠ b18 := Nat.ne_of_lt (Nat.lt_of_lt_of_eq ex7_17.lt g18.symm)
  have ne_b6_b18 : b6 ≠ b18 := Nat.ne_of_lt (Nat.lt_of_lt_of_eq V_b6_17.lt g18.symm)
  have ne_b8_b18 : b8 ≠ b18 := Nat.ne_of_lt (Nat.lt_of_lt_of_eq ex11_17.lt g18.symm)
  have ne_b10_b18 : b10 ≠ b18 := Nat.ne_of_lt (Nat.lt_of_lt_of_eq V_b10_17.lt g18.symm)
  have ne_b12_b18 : b12 ≠ b18 := Nat.ne_of_lt (Nat.lt_of_lt_of_eq ex15_17.lt g18.symm)
  have ne_b14_b18 : b14 ≠ b18 := Nat.ne_of_lt (Nat.lt_of_lt_of_eq V_b14_17.lt g18.symm)
  have ne_b16_b18 : b16 ≠ b18 := Nat.ne_of_lt (Nat.lt_of_lt_of_eq A16_17.lt g18.symm)
  have ge_b18 : n0 ≤ b18 := Nat.le_trans Z17 (Nat.le_of_eq g18.symm)
  have sz_b18 : h0.size ≤ b18 := Nat.le_trans Kp17.1 (Nat.le_of_eq g18.symm)
  have ex3_18 := ex3_17.ext E18
  have ex7_18 := ex7_17.ext E18
  have V_b6_18 := V_b6_17.ext E18
  have fr7_18 := fr7_17.ext E18
  have fz7_18 := fz7_17.ext E18
  have ex11_18 := ex11_17.ext E18
  have V_b10_18 := V_b10_17.ext E18
  have fr11_18 := fr11_17.ext E18
  have fz11_18 := fz11_17.ext E18
  have ex15_18 := ex15_17.ext E18
  have V_b14_18 := V_b14_17.ext E18
  have fr15_18 := fr15_17.ext E18
  have fz15_18 := fz15_17.ext E18
  have A16_18 := A16_17.ext E18
  have F_door_b16_18 := F_door_b16_17.ext E18
  have F_clients_b16_18 := F_clients_b16_17.ext E18
  have F_pairsEach_b16_18 := F_pairsEach_b16_17.ext E18
  have F_roundTrips_b16_18 := F_roundTrips_b16_17.ext E18
  have F_errors_b16_18 := F_errors_b16_17.ext E18
  have F_firstErrors_b16_18 := F_firstErrors_b16_17.ext E18
  have F_nanos_b16_18 := F_nanos_b16_17.ext E18
  have Z18 : n0 ≤ h18.size := Nat.le_trans Z17 E18.1
  have KZ18 : kk17 ≤ h18.size := Nat.le_trans KZ17 E18.1
  have Kp18 : Keep h0 h18 [] := Kp17.ext E18
  have V_b18 : Arv Z h18 b18 k18 .long la [] (.long (0 : Int64)) := Arv.new A18 (own_neg la0)
  obtain ⟨_, _, ⟨T19, L19, k19, n19⟩, -, X19, ⟨Lc19, hQ19, l19, y19, z19⟩, st19⟩ := X18.specialBack hx (y := (⟨"com/example/leadout/leadout/bench/Load$Report", "<init>", "(Ljava/lang/String;II[JILjava/util/List;J)V"⟩ : MethodName)) rfl hown17 (mvT hZ17 (hw _ (List.mem_of_getElem? (i := 45) rfl))) (mvT hZ17 (hw _ (List.mem_of_getElem? (i := 46) rfl))) (mvT hZ17 (hw _ (List.mem_of_getElem? (i := 47) rfl))) (by decide) (backOf (W := 1) (rmI l Z a0 hw [] b16 ad17 (1 : Int32) (1 : Int32) b18 (0 : Int32) b2 nm h18 n0 Z18 A16_18 F_door_b16_18 F_clients_b16_18 F_pairsEach_b16_18 F_roundTrips_b16_18 F_errors_b16_18 F_firstErrors_b16_18 F_nanos_b16_18 ge_b16) hZ17 (hw _ (List.mem_of_getElem? (i := 47) rfl)) (hw _ (List.mem_of_getElem? (i := 34) rfl)) (by decide) (by decide)) (g := (mkF m 141 #[.val (.int p1), .val (.long j2), .second, .val (.long j3), .second, .val (.long j4), .second, .val (.int la), .val (.int lb), .val (.long kk), .second, .val (.long nn), .second, .val (.long mm), .second, .val (.ref b2), .val (.ref b4), .val (.ref b8), .val (.ref b12), .unset, .unset, .unset, .unset, .unset, .unset, .unset, .unset, .unset, .unset, .unset, .unset, .unset] [(.long nm), (.ref b2), (.int (0 : Int32)), (.ref b18), (.int (1 : Int32)), (.int (1 : Int32)), (.ref ad17), (.ref b16), (.ref b16)])) rfl (by rw [hml]; rfl) (Steps.refl _) (a := b16) (argsL := [(.ref ad17), (.int (1 : Int32)), (.int (1 : Int32)), (.ref b18), (.int (0 : Int32)), (.ref b2), (.long nm)]) (rest := [(.ref b16)]) (lenOf pd_2 rfl) rfl (by show 2 * 0 + _ ≤ _; exact Nat.le_of_eq rfl) (hb hby at_141) (fun _ _ => ⟨rfl, e18, (by decide : 17 + 0 ≤ _), (by decide : 123 + 0 ≤ _)⟩)
  dsimp only [Pt.U, Pt.locs, Pt.cells, Pt.slots] at X19 l19 y19 z19 st19 hQ19
  subst l19 y19 z19
  obtain ⟨rfl, Nq19, K19, ex19, fr19, fz19⟩ := hQ19
  have ex3_19 := ex3_18.keep K19
  have ex7_19 := ex7_18.keep K19
  have V_b6_19 := V_b6_18.keep K19 (ninS ne_b6_b16 nin0)
  have fr7_19 := fr7_18.keep K19 (ninS ne_b4_b16 nin0)
  have fz7_19 := fz7_18.keep K19 (ninS ne_b4_b16 nin0)
  have ex11_19 := ex11_18.keep K19
  have V_b10_19 := V_b10_18.keep K19 (ninS ne_b10_b16 nin0)
  have fr11_19 := fr11_18.keep K19 (ninS ne_b8_b16 nin0)
  have fz11_19 := fz11_18.keep K19 (ninS ne_b8_b16 nin0)
  have ex15_19 := ex15_18.keep K19
  have V_b14_19 := V_b14_18.keep K19 (ninS ne_b14_b16 nin0)
  have fr15_19 := fr15_18.keep K19 (ninS ne_b12_b16 nin0)
  have fz15_19 := fz15_18.keep K19 (ninS ne_b12_b16 nin0)
  have A16_19 := A16_18.keep K19
  have V_b18_19 := V_b18.keep K19 (ninS (Ne.symm ne_b16_b18) nin0)
  have Z19 : n0 ≤ T19.heap.size := Nat.le_trans Z18 K19.1
  have KZ19 : kk17 ≤ T19.heap.size := Nat.le_trans KZ18 K19.1
  have Kp19 : Keep h0 T19.heap [] := Kp18.trans K19 (allS (Or.inr sz_b16) all0)
  have N19 := Fr.app N15 Nq19
  obtain ⟨cq20, kq20, q20a, q20b, q20c⟩ := isOf hZ17 rfl ex7_19
  obtain ⟨_, _, ⟨T20, L20, k20, n20⟩, -, X20, ⟨Lc20, hQ20, l20, y20, z20⟩, st20⟩ := X19.virtualBack hx (y := (⟨"com/example/leadout/leadout/bench/Load$Report", "pairsPerSecond", "()D"⟩ : MethodName)) (z := (⟨"com/example/leadout/leadout/bench/Load$Report", "pairsPerSecond", "()D"⟩ : MethodName)) hown17 (mvT hZ17 (hw _ (List.mem_of_getElem? (i := 68) rfl))) (mvT hZ17 (hw _ (List.mem_of_getElem? (i := 69) rfl))) (notFace_of_selects (args := #[]) (mvT hZ17 (hw _ (List.mem_of_getElem? (i := 71) rfl)))) (mvT hZ17 (hw _ (List.mem_of_getElem? (i := 71) rfl))) (mvT hZ17 (hw _ (List.mem_of_getElem? (i := 70) rfl))) (by decide) (backOf (W := 0) (rmP l Z a0 hw [] b4 b6 k6 la kn rW T19.heap n0 Z19 fr7_19 fz7_19 V_b6_19 la0 kn1 hrW) hZ17 (hw _ (List.mem_of_getElem? (i := 72) rfl)) (hw _ (List.mem_of_getElem? (i := 34) rfl)) (by decide) (by decide)) q20a q20c (g := (mkF m 148 #[.val (.int p1), .val (.long j2), .second, .val (.long j3), .second, .val (.long j4), .second, .val (.int la), .val (.int lb), .val (.long kk), .second, .val (.long nn), .second, .val (.long mm), .second, .val (.ref b2), .val (.ref b4), .val (.ref b8), .val (.ref b12), .val (.ref b16), .unset, .unset, .unset, .unset, .unset, .unset, .unset, .unset, .unset, .unset, .unset, .unset] [(.ref b4)])) rfl (by rw [hml]; rfl) (Steps.refl _) (argsL := []) (rest := []) (lenOf pd_3 rfl) rfl (by show 2 * 0 + _ ≤ _; exact Nat.le_of_eq rfl) (hb hby at_148) (fun _ _ => ⟨rfl, rfl, (by decide : 17 + 0 ≤ _), (by decide : 123 + 0 ≤ _)⟩)
  dsimp only [Pt.U, Pt.locs, Pt.cells, Pt.slots] at X20 l20 y20 z20 st20 hQ20
  subst l20 y20 z20
  obtain ⟨rfl, Nq20, e20⟩ := hQ20
  have N20 := Fr.app N19 Nq20
  obtain ⟨cq21, kq21, q21a, q21b, q21c⟩ := isOf hZ17 e20 ex11_19
  obtain ⟨_, _, ⟨T21, L21, k21, n21⟩, -, X21, ⟨Lc21, hQ21, l21, y21, z21⟩, st21⟩ := X20.virtualBack hx (y := (⟨"com/example/leadout/leadout/bench/Load$Report", "pairsPerSecond", "()D"⟩ : MethodName)) (z := (⟨"com/example/leadout/leadout/bench/Load$Report", "pairsPerSecond", "()D"⟩ : MethodName)) hown17 (mvT hZ17 (hw _ (List.mem_of_getElem? (i := 68) rfl))) (mvT hZ17 (hw _ (List.mem_of_getElem? (i := 69) rfl))) (notFace_of_selects (args := #[]) (mvT hZ17 (hw _ (List.mem_of_getElem? (i := 71) rfl)))) (mvT hZ17 (hw _ (List.mem_of_getElem? (i := 71) rfl))) (mvT hZ17 (hw _ (List.mem_of_getElem? (i := 70) rfl))) (by decide) (backOf (W := 0) (rmP l Z a0 hw [] b8 b10 k10 la nn rS T19.heap n0 Z19 fr11_19 fz11_19 V_b10_19 la0 nn1 hrS) hZ17 (hw _ (List.mem_of_getElem? (i := 72) rfl)) (hw _ (List.mem_of_getElem? (i := 34) rfl)) (by decide) (by decide)) q21a q21c (g := (mkF m 155 #[.val (.int p1), .val (.long j2), .second, .val (.long j3), .second, .val (.long j4), .second, .val (.int la), .val (.int lb), .val (.long kk), .second, .val (.long nn), .second, .val (.long mm), .second, .val (.ref b2), .val (.ref b4), .val (.ref b8), .val (.ref b12), .val (.ref b16), .val (.double rW), .second, .unset, .unset, .unset, .unset, .unset, .unset, .unset, .unset, .unset, .unset] [(.ref b8)])) rfl (by rw [hml]; rfl) (Steps.refl _) (argsL := []) (rest := []) (lenOf pd_3 rfl) rfl (by show 2 * 0 + _ ≤ _; exact Nat.le_of_eq rfl) (hb hby at_155) (fun _ _ => ⟨rfl, e20, (by decide : 17 + 0 ≤ _), (by decide : 123 + 0 ≤ _)⟩)
  dsimp only [Pt.U, Pt.locs, Pt.cells, Pt.slots] at X21 l21 y21 z21 st21 hQ21
  subst l21 y21 z21
  obtain ⟨rfl, Nq21, e21⟩ := hQ21
  have N21 := Fr.app N20 Nq21
  obtain ⟨cq22, kq22, q22a, q22b, q22c⟩ := isOf hZ17 e21 ex15_19
  obtain ⟨_, _, ⟨T22, L22, k22, n22⟩, -, X22, ⟨Lc22, hQ22, l22, y22, z22⟩, st22⟩ := X21.virtualBack hx (y := (⟨"com/example/leadout/leadout/bench/Load$Report", "pairsPerSecond", "()D"⟩ : MethodName)) (z := (⟨"com/example/leadout/leadout/bench/Load$Report", "pairsPerSecond", "()D"⟩ : MethodName)) hown17 (mvT hZ17 (hw _ (List.mem_of_getElem? (i := 68) rfl))) (mvT hZ17 (hw _ (List.mem_of_getElem? (i := 69) rfl))) (notFace_of_selects (args := #[]) (mvT hZ17 (hw _ (List.mem_of_getElem? (i := 71) rfl)))) (mvT hZ17 (hw _ (List.mem_of_getElem? (i := 71) rfl))) (mvT hZ17 (hw _ (List.mem_of_getElem? (i := 70) rfl))) (by decide) (backOf (W := 0) (rmP l Z a0 hw [] b12 b14 k14 lb nn rO T19.heap n0 Z19 fr15_19 fz15_19 V_b14_19 lb0 nn1 hrO) hZ17 (hw _ (List.mem_of_getElem? (i := 72) rfl)) (hw _ (List.mem_of_getElem? (i := 34) rfl)) (by decide) (by decide)) q22a q22c (g := (mkF m 162 #[.val (.int p1), .val (.long j2), .second, .val (.long j3), .second, .val (.long j4), .second, .val (.int la), .val (.int lb), .val (.long kk), .second, .val (.long nn), .second, .val (.long mm), .second, .val (.ref b2), .val (.ref b4), .val (.ref b8), .val (.ref b12), .val (.ref b16), .val (.double rW), .second, .val (.double rS), .second, .unset, .unset, .unset, .unset, .unset, .unset, .unset, .unset] [(.ref b12)])) rfl (by rw [hml]; rfl) (Steps.refl _) (argsL := []) (rest := []) (lenOf pd_3 rfl) rfl (by show 2 * 0 + _ ≤ _; exact Nat.le_of_eq rfl) (hb hby at_162) (fun _ _ => ⟨rfl, e21, (by decide : 17 + 0 ≤ _), (by decide : 123 + 0 ≤ _)⟩)
  dsimp only [Pt.U, Pt.locs, Pt.cells, Pt.slots] at X22 l22 y22 z22 st22 hQ22
  subst l22 y22 z22
  obtain ⟨rfl, Nq22, e22⟩ := hQ22
  have N22 := Fr.app N21 Nq22
  obtain ⟨cq23, kq23, q23a, q23b, q23c⟩ := isOf hZ17 e22 ex19
  obtain ⟨_, _, ⟨T23, L23, k23, n23⟩, -, X23, ⟨Lc23, hQ23, l23, y23, z23⟩, st23⟩ := X22.virtualBack hx (y := (⟨"com/example/leadout/leadout/bench/Load$Report", "pairsPerSecond", "()D"⟩ : MethodName)) (z := (⟨"com/example/leadout/leadout/bench/Load$Report", "pairsPerSecond", "()D"⟩ : MethodName)) hown17 (mvT hZ17 (hw _ (List.mem_of_getElem? (i := 68) rfl))) (mvT hZ17 (hw _ (List.mem_of_getElem? (i := 69) rfl))) (notFace_of_selects (args := #[]) (mvT hZ17 (hw _ (List.mem_of_getElem? (i := 71) rfl)))) (mvT hZ17 (hw _ (List.mem_of_getElem? (i := 71) rfl))) (mvT hZ17 (hw _ (List.mem_of_getElem? (i := 70) rfl))) (by decide) (backOf (W := 0) (rmP l Z a0 hw [] b16 b18 k18 la nm rL T19.heap n0 Z19 fr19 fz19 V_b18_19 la0 nm1 hrL) hZ17 (hw _ (List.mem_of_getElem? (i := 72) rfl)) (hw _ (List.mem_of_getElem? (i := 34) rfl)) (by decide) (by decide)) q23a q23c (g := (mkF m 169 #[.val (.int p1), .val (.long j2), .second, .val (.long j3), .second, .val (.long j4), .second, .val (.int la), .val (.int lb), .val (.long kk), .second, .val (.long nn), .second, .val (.long mm), .second, .val (.ref b2), .val (.ref b4), .val (.ref b8), .val (.ref b12), .val (.ref b16), .val (.double rW), .second, .val (.double rS), .second, .val (.double rO), .second, .unset, .unset, .unset, .unset, .unset, .unset] [(.ref b16)])) rfl (by rw [hml]; rfl) (Steps.refl _) (argsL := []) (rest := []) (lenOf pd_3 rfl) rfl (by show 2 * 0 + _ ≤ _; exact Nat.le_of_eq rfl) (hb hby at_169) (fun _ _ => ⟨rfl, e22, (by decide : 17 + 0 ≤ _), (by decide : 123 + 0 ≤ _)⟩)
  dsimp only [Pt.U, Pt.locs, Pt.cells, Pt.slots] at X23 l23 y23 z23 st23 hQ23
  subst l23 y23 z23
  obtain ⟨rfl, Nq23, e23⟩ := hQ23
  have N23 := Fr.app N22 Nq23
  obtain ⟨TJ, locJ, XJ, eJ, NJ, stJ⟩ := own_tail p1 j2 j3 j4 la lb kk nn mm b2 b4 b8 b12 b16 rW rS rO rL rK vB vC vD X23 hx hZ17 hw hby hml hown17 e23 N23 Z19 hrK hnK hcE hc0 hc1 hvB hvC hvD hB hC hD
  obtain ⟨fs, hr, hrun, hended, hEnd⟩ := Stand.leaveW (s := s) XJ hS17 (by rw [eJ]; exact KZ19) (v := some (.int (1 : Int32))) (fun h => by rw [Bd.returns] at h; cases h)
  refine ⟨_, _, pre0 _ ?_, hrun, hended, _, _, rfl, ?_, hEnd.1, hEnd.2.1, hEnd.2.2.1, hEnd.2.2.2.mono (by decide) (by decide)⟩
  · show Steps p.tables e below (s₁.setTop (mkF m 0 #[.val (.int p1), .val (.long j2), .second, .val (.long j3), .second, .val (.long j4), .second, .unset, .unset, .unset, .unset, .unset, .unset, .unset, .unset, .unset, .unset, .unset, .unset, .unset, .unset, .unset, .unset, .unset, .unset, .unset, .unset, .unset, .unset, .unset, .unset, .unset] [])) _
    refine XS.iloadN X0.here hx rfl (hb hby at_0) rfl ?_
    show Steps p.tables e below (s₁.setTop (mkF m 1 #[.val (.int p1), .val (.long j2), .second, .val (.long j3), .second, .val (.long j4), .second, .unset, .unset, .unset, .unset, .unset, .unset, .unset, .unset, .unset, .unset, .unset, .unset, .unset, .unset, .unset, .unset, .unset, .unset, .unset, .unset, .unset, .unset, .unset, .unset, .unset] [(.int p1)])) _
    refine XS.bipush X0.here hx rfl (hb hby at_1) ?_
    show Steps p.tables e below (s₁.setTop (mkF m 3 #[.val (.int p1), .val (.long j2), .second, .val (.long j3), .second, .val (.long j4), .second, .unset, .unset, .unset, .unset, .unset, .unset, .unset, .unset, .unset, .unset, .unset, .unset, .unset, .unset, .unset, .unset, .unset, .unset, .unset, .unset, .unset, .unset, .unset, .unset, .unset] [(.int (15 : Int32)), (.int p1)])) _
    refine XS.iand X0.here hx rfl (hb hby at_3) rfl ?_
    rw [show (p1 &&& (15 : Int32)) = la from hla]
    show Steps p.tables e below (s₁.setTop (mkF m 4 #[.val (.int p1), .val (.long j2), .second, .val (.long j3), .second, .val (.long j4), .second, .unset, .unset, .unset, .unset, .unset, .unset, .unset, .unset, .unset, .unset, .unset, .unset, .unset, .unset, .unset, .unset, .unset, .unset, .unset, .unset, .unset, .unset, .unset, .unset, .unset] [(.int la)])) _
    refine XS.istore X0.here hx rfl (hb hby at_4) rfl (l' := #[.val (.int p1), .val (.long j2), .second, .val (.long j3), .second, .val (.long j4), .second, .val (.int la), .unset, .unset, .unset, .unset, .unset, .unset, .unset, .unset, .unset, .unset, .unset, .unset, .unset, .unset, .unset, .unset, .unset, .unset, .unset, .unset, .unset, .unset, .unset, .unset]) rfl ?_
    show Steps p.tables e below (s₁.setTop (mkF m 6 #[.val (.int p1), .val (.long j2), .second, .val (.long j3), .second, .val (.long j4), .second, .val (.int la), .unset, .unset, .unset, .unset, .unset, .unset, .unset, .unset, .unset, .unset, .unset, .unset, .unset, .unset, .unset, .unset, .unset, .unset, .unset, .unset, .unset, .unset, .unset, .unset] [])) _
    refine XS.iloadN X0.here hx rfl (hb hby at_6) rfl ?_
    show Steps p.tables e below (s₁.setTop (mkF m 7 #[.val (.int p1), .val (.long j2), .second, .val (.long j3), .second, .val (.long j4), .second, .val (.int la), .unset, .unset, .unset, .unset, .unset, .unset, .unset, .unset, .unset, .unset, .unset, .unset, .unset, .unset, .unset, .unset, .unset, .unset, .unset, .unset, .unset, .unset, .unset, .unset] [(.int p1)])) _
    refine XS.iconst X0.here hx rfl (hb hby at_7) ?_
    show Steps p.tables e below (s₁.setTop (mkF m 8 #[.val (.int p1), .val (.long j2), .second, .val (.long j3), .second, .val (.long j4), .second, .val (.int la), .unset, .unset, .unset, .unset, .unset, .unset, .unset, .unset, .unset, .unset, .unset, .unset, .unset, .unset, .unset, .unset, .unset, .unset, .unset, .unset, .unset, .unset, .unset, .unset] [(.int (4 : Int32)), (.int p1)])) _
    refine XS.iushr X0.here hx rfl (hb hby at_8) rfl ?_
    show Steps p.tables e below (s₁.setTop (mkF m 9 #[.val (.int p1), .val (.long j2), .second, .val (.long j3), .second, .val (.long j4), .second, .val (.int la), .unset, .unset, .unset, .unset, .unset, .unset, .unset, .unset, .unset, .unset, .unset, .unset, .unset, .unset, .unset, .unset, .unset, .unset, .unset, .unset, .unset, .unset, .unset, .unset] [(.int ((p1.toUInt32 >>> ((4 : Int32) &&& 31).toUInt32).toInt32))])) _
    refine XS.bipush X0.here hx rfl (hb hby at_9) ?_
    show Steps p.tables e below (s₁.setTop (mkF m 11 #[.val (.int p1), .val (.long j2), .second, .val (.long j3), .second, .val (.long j4), .second, .val (.int la), .unset, .unset, .unset, .unset, .unset, .unset, .unset, .unset, .unset, .unset, .unset, .unset, .unset, .unset, .unset, .unset, .unset, .unset, .unset, .unset, .unset, .unset, .unset, .unset] [(.int (15 : Int32)), (.int ((p1.toUInt32 >>> ((4 : Int32) &&& 31).toUInt32).toInt32))])) _
    refine XS.iand X0.here hx rfl (hb hby at_11) rfl ?_
    rw [show (((p1.toUInt32 >>> ((4 : Int32) &&& 31).toUInt32).toInt32) &&& (15 : Int32)) = lb from hlb]
    show Steps p.tables e below (s₁.setTop (mkF m 12 #[.val (.int p1), .val (.long j2), .second, .val (.long j3), .second, .val (.long j4), .second, .val (.int la), .unset, .unset, .unset, .unset, .unset, .unset, .unset, .unset, .unset, .unset, .unset, .unset, .unset, .unset, .unset, .unset, .unset, .unset, .unset, .unset, .unset, .unset, .unset, .unset] [(.int lb)])) _
    refine XS.istore X0.here hx rfl (hb hby at_12) rfl (l' := #[.val (.int p1), .val (.long j2), .second, .val (.long j3), .second, .val (.long j4), .second, .val (.int la), .val (.int lb), .unset, .unset, .unset, .unset, .unset, .unset, .unset, .unset, .unset, .unset, .unset, .unset, .unset, .unset, .unset, .unset, .unset, .unset, .unset, .unset, .unset, .unset, .unset]) rfl ?_
    show Steps p.tables e below (s₁.setTop (mkF m 14 #[.val (.int p1), .val (.long j2), .second, .val (.long j3), .second, .val (.long j4), .second, .val (.int la), .val (.int lb), .unset, .unset, .unset, .unset, .unset, .unset, .unset, .unset, .unset, .unset, .unset, .unset, .unset, .unset, .unset, .unset, .unset, .unset, .unset, .unset, .unset, .unset, .unset] [])) _
    refine XS.lloadN X0.here hx rfl (hb hby at_14) rfl ?_
    show Steps p.tables e below (s₁.setTop (mkF m 15 #[.val (.int p1), .val (.long j2), .second, .val (.long j3), .second, .val (.long j4), .second, .val (.int la), .val (.int lb), .unset, .unset, .unset, .unset, .unset, .unset, .unset, .unset, .unset, .unset, .unset, .unset, .unset, .unset, .unset, .unset, .unset, .unset, .unset, .unset, .unset, .unset, .unset] [(.long j2)])) _
    refine X0.ldc2Long hx hown (mvT hZ (hw _ (List.mem_of_getElem? (i := 0) rfl))) (g := (mkF m 15 #[.val (.int p1), .val (.long j2), .second, .val (.long j3), .second, .val (.long j4), .second, .val (.int la), .val (.int lb), .unset, .unset, .unset, .unset, .unset, .unset, .unset, .unset, .unset, .unset, .unset, .unset, .unset, .unset, .unset, .unset, .unset, .unset, .unset, .unset, .unset, .unset, .unset] [(.long j2)])) rfl (hb hby at_15) _ ?_
    show Steps p.tables e below (s₁.setTop (mkF m 18 #[.val (.int p1), .val (.long j2), .second, .val (.long j3), .second, .val (.long j4), .second, .val (.int la), .val (.int lb), .unset, .unset, .unset, .unset, .unset, .unset, .unset, .unset, .unset, .unset, .unset, .unset, .unset, .unset, .unset, .unset, .unset, .unset, .unset, .unset, .unset, .unset, .unset] [(.long (1048575 : Int64)), (.long j2)])) _
    refine XS.land X0.here hx rfl (hb hby at_18) rfl ?_
    show Steps p.tables e below (s₁.setTop (mkF m 19 #[.val (.int p1), .val (.long j2), .second, .val (.long j3), .second, .val (.long j4), .second, .val (.int la), .val (.int lb), .unset, .unset, .unset, .unset, .unset, .unset, .unset, .unset, .unset, .unset, .unset, .unset, .unset, .unset, .unset, .unset, .unset, .unset, .unset, .unset, .unset, .unset, .unset] [(.long (j2 &&& (1048575 : Int64)))])) _
    refine XS.lconst X0.here hx rfl (hb hby at_19) ?_
    show Steps p.tables e below (s₁.setTop (mkF m 20 #[.val (.int p1), .val (.long j2), .second, .val (.long j3), .second, .val (.long j4), .second, .val (.int la), .val (.int lb), .unset, .unset, .unset, .unset, .unset, .unset, .unset, .unset, .unset, .unset, .unset, .unset, .unset, .unset, .unset, .unset, .unset, .unset, .unset, .unset, .unset, .unset, .unset] [(.long (1 : Int64)), (.long (j2 &&& (1048575 : Int64)))])) _
    refine XS.ladd X0.here hx rfl (hb hby at_20) rfl ?_
    rw [show ((j2 &&& (1048575 : Int64)) + (1 : Int64)) = kk from hkk]
    show Steps p.tables e below (s₁.setTop (mkF m 21 #[.val (.int p1), .val (.long j2), .second, .val (.long j3), .second, .val (.long j4), .second, .val (.int la), .val (.int lb), .unset, .unset, .unset, .unset, .unset, .unset, .unset, .unset, .unset, .unset, .unset, .unset, .unset, .unset, .unset, .unset, .unset, .unset, .unset, .unset, .unset, .unset, .unset] [(.long kk)])) _
    refine XS.lstore X0.here hx rfl (hb hby at_21) rfl (l' := #[.val (.int p1), .val (.long j2), .second, .val (.long j3), .second, .val (.long j4), .second, .val (.int la), .val (.int lb), .val (.long kk), .second, .unset, .unset, .unset, .unset, .unset, .unset, .unset, .unset, .unset, .unset, .unset, .unset, .unset, .unset, .unset, .unset, .unset, .unset, .unset, .unset, .unset]) rfl ?_
    show Steps p.tables e below (s₁.setTop (mkF m 23 #[.val (.int p1), .val (.long j2), .second, .val (.long j3), .second, .val (.long j4), .second, .val (.int la), .val (.int lb), .val (.long kk), .second, .unset, .unset, .unset, .unset, .unset, .unset, .unset, .unset, .unset, .unset, .unset, .unset, .unset, .unset, .unset, .unset, .unset, .unset, .unset, .unset, .unset] [])) _
    refine XS.lloadN X0.here hx rfl (hb hby at_23) rfl ?_
    show Steps p.tables e below (s₁.setTop (mkF m 24 #[.val (.int p1), .val (.long j2), .second, .val (.long j3), .second, .val (.long j4), .second, .val (.int la), .val (.int lb), .val (.long kk), .second, .unset, .unset, .unset, .unset, .unset, .unset, .unset, .unset, .unset, .unset, .unset, .unset, .unset, .unset, .unset, .unset, .unset, .unset, .unset, .unset, .unset] [(.long j3)])) _
    refine X0.ldc2Long hx hown (mvT hZ (hw _ (List.mem_of_getElem? (i := 1) rfl))) (g := (mkF m 24 #[.val (.int p1), .val (.long j2), .second, .val (.long j3), .second, .val (.long j4), .second, .val (.int la), .val (.int lb), .val (.long kk), .second, .unset, .unset, .unset, .unset, .unset, .unset, .unset, .unset, .unset, .unset, .unset, .unset, .unset, .unset, .unset, .unset, .unset, .unset, .unset, .unset, .unset] [(.long j3)])) rfl (hb hby at_24) _ ?_
    show Steps p.tables e below (s₁.setTop (mkF m 27 #[.val (.int p1), .val (.long j2), .second, .val (.long j3), .second, .val (.long j4), .second, .val (.int la), .val (.int lb), .val (.long kk), .second, .unset, .unset, .unset, .unset, .unset, .unset, .unset, .unset, .unset, .unset, .unset, .unset, .unset, .unset, .unset, .unset, .unset, .unset, .unset, .unset, .unset] [(.long (4611686018427387903 : Int64)), (.long j3)])) _
    refine XS.land X0.here hx rfl (hb hby at_27) rfl ?_
    show Steps p.tables e below (s₁.setTop (mkF m 28 #[.val (.int p1), .val (.long j2), .second, .val (.long j3), .second, .val (.long j4), .second, .val (.int la), .val (.int lb), .val (.long kk), .second, .unset, .unset, .unset, .unset, .unset, .unset, .unset, .unset, .unset, .unset, .unset, .unset, .unset, .unset, .unset, .unset, .unset, .unset, .unset, .unset, .unset] [(.long (j3 &&& (4611686018427387903 : Int64)))])) _
    refine XS.lconst X0.here hx rfl (hb hby at_28) ?_
    show Steps p.tables e below (s₁.setTop (mkF m 29 #[.val (.int p1), .val (.long j2), .second, .val (.long j3), .second, .val (.long j4), .second, .val (.int la), .val (.int lb), .val (.long kk), .second, .unset, .unset, .unset, .unset, .unset, .unset, .unset, .unset, .unset, .unset, .unset, .unset, .unset, .unset, .unset, .unset, .unset, .unset, .unset, .unset, .unset] [(.long (1 : Int64)), (.long (j3 &&& (4611686018427387903 : Int64)))])) _
    refine st1 _ ?_
    show Steps p.tables e below (T1.setTop (mkF m 32 #[.val (.int p1), .val (.long j2), .second, .val (.long j3), .second, .val (.long j4), .second, .val (.int la), .val (.int lb), .val (.long kk), .second, .unset, .unset, .unset, .unset, .unset, .unset, .unset, .unset, .unset, .unset, .unset, .unset, .unset, .unset, .unset, .unset, .unset, .unset, .unset, .unset, .unset] [(.long nn)])) _
    refine XS.lstore X1.here hx rfl (hb hby at_32) rfl (l' := #[.val (.int p1), .val (.long j2), .second, .val (.long j3), .second, .val (.long j4), .second, .val (.int la), .val (.int lb), .val (.long kk), .second, .val (.long nn), .second, .unset, .unset, .unset, .unset, .unset, .unset, .unset, .unset, .unset, .unset, .unset, .unset, .unset, .unset, .unset, .unset, .unset, .unset, .unset]) rfl ?_
    show Steps p.tables e below (T1.setTop (mkF m 34 #[.val (.int p1), .val (.long j2), .second, .val (.long j3), .second, .val (.long j4), .second, .val (.int la), .val (.int lb), .val (.long kk), .second, .val (.long nn), .second, .unset, .unset, .unset, .unset, .unset, .unset, .unset, .unset, .unset, .unset, .unset, .unset, .unset, .unset, .unset, .unset, .unset, .unset, .unset] [])) _
    refine XS.lload X1.here hx rfl (hb hby at_34) rfl ?_
    show Steps p.tables e below (T1.setTop (mkF m 36 #[.val (.int p1), .val (.long j2), .second, .val (.long j3), .second, .val (.long j4), .second, .val (.int la), .val (.int lb), .val (.long kk), .second, .val (.long nn), .second, .unset, .unset, .unset, .unset, .unset, .unset, .unset, .unset, .unset, .unset, .unset, .unset, .unset, .unset, .unset, .unset, .unset, .unset, .unset] [(.long j4)])) _
    refine X1.ldc2Long hx hown (mvT hZ (hw _ (List.mem_of_getElem? (i := 1) rfl))) (g := (mkF m 36 #[.val (.int p1), .val (.long j2), .second, .val (.long j3), .second, .val (.long j4), .second, .val (.int la), .val (.int lb), .val (.long kk), .second, .val (.long nn), .second, .unset, .unset, .unset, .unset, .unset, .unset, .unset, .unset, .unset, .unset, .unset, .unset, .unset, .unset, .unset, .unset, .unset, .unset, .unset] [(.long j4)])) rfl (hb hby at_36) _ ?_
    show Steps p.tables e below (T1.setTop (mkF m 39 #[.val (.int p1), .val (.long j2), .second, .val (.long j3), .second, .val (.long j4), .second, .val (.int la), .val (.int lb), .val (.long kk), .second, .val (.long nn), .second, .unset, .unset, .unset, .unset, .unset, .unset, .unset, .unset, .unset, .unset, .unset, .unset, .unset, .unset, .unset, .unset, .unset, .unset, .unset] [(.long (4611686018427387903 : Int64)), (.long j4)])) _
    refine XS.land X1.here hx rfl (hb hby at_39) rfl ?_
    rw [show (j4 &&& (4611686018427387903 : Int64)) = mm from hmm]
    show Steps p.tables e below (T1.setTop (mkF m 40 #[.val (.int p1), .val (.long j2), .second, .val (.long j3), .second, .val (.long j4), .second, .val (.int la), .val (.int lb), .val (.long kk), .second, .val (.long nn), .second, .unset, .unset, .unset, .unset, .unset, .unset, .unset, .unset, .unset, .unset, .unset, .unset, .unset, .unset, .unset, .unset, .unset, .unset, .unset] [(.long mm)])) _
    refine XS.lstore X1.here hx rfl (hb hby at_40) rfl (l' := #[.val (.int p1), .val (.long j2), .second, .val (.long j3), .second, .val (.long j4), .second, .val (.int la), .val (.int lb), .val (.long kk), .second, .val (.long nn), .second, .val (.long mm), .second, .unset, .unset, .unset, .unset, .unset, .unset, .unset, .unset, .unset, .unset, .unset, .unset, .unset, .unset, .unset, .unset, .unset]) rfl ?_
    show Steps p.tables e below (T1.setTop (mkF m 42 #[.val (.int p1), .val (.long j2), .second, .val (.long j3), .second, .val (.long j4), .second, .val (.int la), .val (.int lb), .val (.long kk), .second, .val (.long nn), .second, .val (.long mm), .second, .unset, .unset, .unset, .unset, .unset, .unset, .unset, .unset, .unset, .unset, .unset, .unset, .unset, .unset, .unset, .unset, .unset] [])) _
    refine st2 _ ?_
    show Steps p.tables e below (T2.setTop (mkF m 45 #[.val (.int p1), .val (.long j2), .second, .val (.long j3), .second, .val (.long j4), .second, .val (.int la), .val (.int lb), .val (.long kk), .second, .val (.long nn), .second, .val (.long mm), .second, .unset, .unset, .unset, .unset, .unset, .unset, .unset, .unset, .unset, .unset, .unset, .unset, .unset, .unset, .unset, .unset, .unset] [(.ref b2)])) _
    refine XS.dup X2.here hx rfl (hb hby at_45) rfl rfl ?_
    show Steps p.tables e below (T2.setTop (mkF m 46 #[.val (.int p1), .val (.long j2), .second, .val (.long j3), .second, .val (.long j4), .second, .val (.int la), .val (.int lb), .val (.long kk), .second, .val (.long nn), .second, .val (.long mm), .second, .unset, .unset, .unset, .unset, .unset, .unset, .unset, .unset, .unset, .unset, .unset, .unset, .unset, .unset, .unset, .unset, .unset] [(.ref b2), (.ref b2)])) _
    refine st3.trans ?_
    show Steps p.tables e below (T3.setTop (mkF m 49 #[.val (.int p1), .val (.long j2), .second, .val (.long j3), .second, .val (.long j4), .second, .val (.int la), .val (.int lb), .val (.long kk), .second, .val (.long nn), .second, .val (.long mm), .second, .unset, .unset, .unset, .unset, .unset, .unset, .unset, .unset, .unset, .unset, .unset, .unset, .unset, .unset, .unset, .unset, .unset] [(.ref b2)])) _
    refine XS.astore X3.here hx rfl (hb hby at_49) rfl rfl (l' := #[.val (.int p1), .val (.long j2), .second, .val (.long j3), .second, .val (.long j4), .second, .val (.int la), .val (.int lb), .val (.long kk), .second, .val (.long nn), .second, .val (.long mm), .second, .val (.ref b2), .unset, .unset, .unset, .unset, .unset, .unset, .unset, .unset, .unset, .unset, .unset, .unset, .unset, .unset, .unset, .unset]) rfl ?_
    show Steps p.tables e below (T3.setTop (mkF m 51 #[.val (.int p1), .val (.long j2), .second, .val (.long j3), .second, .val (.long j4), .second, .val (.int la), .val (.int lb), .val (.long kk), .second, .val (.long nn), .second, .val (.long mm), .second, .val (.ref b2), .unset, .unset, .unset, .unset, .unset, .unset, .unset, .unset, .unset, .unset, .unset, .unset, .unset, .unset, .unset, .unset] [])) _
    refine st4 _ ?_
    show Steps p.tables e below (T4.setTop (mkF m 54 #[.val (.int p1), .val (.long j2), .second, .val (.long j3), .second, .val (.long j4), .second, .val (.int la), .val (.int lb), .val (.long kk), .second, .val (.long nn), .second, .val (.long mm), .second, .val (.ref b2), .unset, .unset, .unset, .unset, .unset, .unset, .unset, .unset, .unset, .unset, .unset, .unset, .unset, .unset, .unset, .unset] [(.ref b4)])) _
    refine XS.dup X4.here hx rfl (hb hby at_54) rfl rfl ?_
    show Steps p.tables e below (T4.setTop (mkF m 55 #[.val (.int p1), .val (.long j2), .second, .val (.long j3), .second, .val (.long j4), .second, .val (.int la), .val (.int lb), .val (.long kk), .second, .val (.long nn), .second, .val (.long mm), .second, .val (.ref b2), .unset, .unset, .unset, .unset, .unset, .unset, .unset, .unset, .unset, .unset, .unset, .unset, .unset, .unset, .unset, .unset] [(.ref b4), (.ref b4)])) _
    refine st5 _ ?_
    show Steps p.tables e below (T5.setTop (mkF m 57 #[.val (.int p1), .val (.long j2), .second, .val (.long j3), .second, .val (.long j4), .second, .val (.int la), .val (.int lb), .val (.long kk), .second, .val (.long nn), .second, .val (.long mm), .second, .val (.ref b2), .unset, .unset, .unset, .unset, .unset, .unset, .unset, .unset, .unset, .unset, .unset, .unset, .unset, .unset, .unset, .unset] [(.ref ad5), (.ref b4), (.ref b4)])) _
    refine XS.iconst X5.here hx rfl (hb hby at_57) ?_
    show Steps p.tables e below (T5.setTop (mkF m 58 #[.val (.int p1), .val (.long j2), .second, .val (.long j3), .second, .val (.long j4), .second, .val (.int la), .val (.int lb), .val (.long kk), .second, .val (.long nn), .second, .val (.long mm), .second, .val (.ref b2), .unset, .unset, .unset, .unset, .unset, .unset, .unset, .unset, .unset, .unset, .unset, .unset, .unset, .unset, .unset, .unset] [(.int (1 : Int32)), (.ref ad5), (.ref b4), (.ref b4)])) _
    refine XS.iconst X5.here hx rfl (hb hby at_58) ?_
    show Steps p.tables e below (T5.setTop (mkF m 59 #[.val (.int p1), .val (.long j2), .second, .val (.long j3), .second, .val (.long j4), .second, .val (.int la), .val (.int lb), .val (.long kk), .second, .val (.long nn), .second, .val (.long mm), .second, .val (.ref b2), .unset, .unset, .unset, .unset, .unset, .unset, .unset, .unset, .unset, .unset, .unset, .unset, .unset, .unset, .unset, .unset] [(.int (1 : Int32)), (.int (1 : Int32)), (.ref ad5), (.ref b4), (.ref b4)])) _
    refine XS.iload X5.here hx rfl (hb hby at_59) rfl ?_
    show Steps p.tables e below (T5.setTop (mkF m 61 #[.val (.int p1), .val (.long j2), .second, .val (.long j3), .second, .val (.long j4), .second, .val (.int la), .val (.int lb), .val (.long kk), .second, .val (.long nn), .second, .val (.long mm), .second, .val (.ref b2), .unset, .unset, .unset, .unset, .unset, .unset, .unset, .unset, .unset, .unset, .unset, .unset, .unset, .unset, .unset, .unset] [(.int la), (.int (1 : Int32)), (.int (1 : Int32)), (.ref ad5), (.ref b4), (.ref b4)])) _
    refine st6 _ ?_
    show Steps p.tables e below (T6.setTop (mkF m 63 #[.val (.int p1), .val (.long j2), .second, .val (.long j3), .second, .val (.long j4), .second, .val (.int la), .val (.int lb), .val (.long kk), .second, .val (.long nn), .second, .val (.long mm), .second, .val (.ref b2), .unset, .unset, .unset, .unset, .unset, .unset, .unset, .unset, .unset, .unset, .unset, .unset, .unset, .unset, .unset, .unset] [(.ref b6), (.int (1 : Int32)), (.int (1 : Int32)), (.ref ad5), (.ref b4), (.ref b4)])) _
    refine XS.iconst X6.here hx rfl (hb hby at_63) ?_
    show Steps p.tables e below (T6.setTop (mkF m 64 #[.val (.int p1), .val (.long j2), .second, .val (.long j3), .second, .val (.long j4), .second, .val (.int la), .val (.int lb), .val (.long kk), .second, .val (.long nn), .second, .val (.long mm), .second, .val (.ref b2), .unset, .unset, .unset, .unset, .unset, .unset, .unset, .unset, .unset, .unset, .unset, .unset, .unset, .unset, .unset, .unset] [(.int (0 : Int32)), (.ref b6), (.int (1 : Int32)), (.int (1 : Int32)), (.ref ad5), (.ref b4), (.ref b4)])) _
    refine XS.aload X6.here hx rfl (hb hby at_64) rfl rfl ?_
    show Steps p.tables e below (T6.setTop (mkF m 66 #[.val (.int p1), .val (.long j2), .second, .val (.long j3), .second, .val (.long j4), .second, .val (.int la), .val (.int lb), .val (.long kk), .second, .val (.long nn), .second, .val (.long mm), .second, .val (.ref b2), .unset, .unset, .unset, .unset, .unset, .unset, .unset, .unset, .unset, .unset, .unset, .unset, .unset, .unset, .unset, .unset] [(.ref b2), (.int (0 : Int32)), (.ref b6), (.int (1 : Int32)), (.int (1 : Int32)), (.ref ad5), (.ref b4), (.ref b4)])) _
    refine XS.lload X6.here hx rfl (hb hby at_66) rfl ?_
    show Steps p.tables e below (T6.setTop (mkF m 68 #[.val (.int p1), .val (.long j2), .second, .val (.long j3), .second, .val (.long j4), .second, .val (.int la), .val (.int lb), .val (.long kk), .second, .val (.long nn), .second, .val (.long mm), .second, .val (.ref b2), .unset, .unset, .unset, .unset, .unset, .unset, .unset, .unset, .unset, .unset, .unset, .unset, .unset, .unset, .unset, .unset] [(.long kk), (.ref b2), (.int (0 : Int32)), (.ref b6), (.int (1 : Int32)), (.int (1 : Int32)), (.ref ad5), (.ref b4), (.ref b4)])) _
    refine X6.ldc2Long hx hown5 (mvT hZ5 (hw _ (List.mem_of_getElem? (i := 44) rfl))) (g := (mkF m 68 #[.val (.int p1), .val (.long j2), .second, .val (.long j3), .second, .val (.long j4), .second, .val (.int la), .val (.int lb), .val (.long kk), .second, .val (.long nn), .second, .val (.long mm), .second, .val (.ref b2), .unset, .unset, .unset, .unset, .unset, .unset, .unset, .unset, .unset, .unset, .unset, .unset, .unset, .unset, .unset, .unset] [(.long kk), (.ref b2), (.int (0 : Int32)), (.ref b6), (.int (1 : Int32)), (.int (1 : Int32)), (.ref ad5), (.ref b4), (.ref b4)])) rfl (hb hby at_68) _ ?_
    show Steps p.tables e below (T6.setTop (mkF m 71 #[.val (.int p1), .val (.long j2), .second, .val (.long j3), .second, .val (.long j4), .second, .val (.int la), .val (.int lb), .val (.long kk), .second, .val (.long nn), .second, .val (.long mm), .second, .val (.ref b2), .unset, .unset, .unset, .unset, .unset, .unset, .unset, .unset, .unset, .unset, .unset, .unset, .unset, .unset, .unset, .unset] [(.long (1000000000 : Int64)), (.long kk), (.ref b2), (.int (0 : Int32)), (.ref b6), (.int (1 : Int32)), (.int (1 : Int32)), (.ref ad5), (.ref b4), (.ref b4)])) _
    refine XS.lmul X6.here hx rfl (hb hby at_71) rfl ?_
    rw [show (kk * (1000000000 : Int64)) = kn from hkn]
    show Steps p.tables e below (T6.setTop (mkF m 72 #[.val (.int p1), .val (.long j2), .second, .val (.long j3), .second, .val (.long j4), .second, .val (.int la), .val (.int lb), .val (.long kk), .second, .val (.long nn), .second, .val (.long mm), .second, .val (.ref b2), .unset, .unset, .unset, .unset, .unset, .unset, .unset, .unset, .unset, .unset, .unset, .unset, .unset, .unset, .unset, .unset] [(.long kn), (.ref b2), (.int (0 : Int32)), (.ref b6), (.int (1 : Int32)), (.int (1 : Int32)), (.ref ad5), (.ref b4), (.ref b4)])) _
    refine st7.trans ?_
    show Steps p.tables e below (T7.setTop (mkF m 75 #[.val (.int p1), .val (.long j2), .second, .val (.long j3), .second, .val (.long j4), .second, .val (.int la), .val (.int lb), .val (.long kk), .second, .val (.long nn), .second, .val (.long mm), .second, .val (.ref b2), .unset, .unset, .unset, .unset, .unset, .unset, .unset, .unset, .unset, .unset, .unset, .unset, .unset, .unset, .unset, .unset] [(.ref b4)])) _
    refine XS.astore X7.here hx rfl (hb hby at_75) rfl rfl (l' := #[.val (.int p1), .val (.long j2), .second, .val (.long j3), .second, .val (.long j4), .second, .val (.int la), .val (.int lb), .val (.long kk), .second, .val (.long nn), .second, .val (.long mm), .second, .val (.ref b2), .val (.ref b4), .unset, .unset, .unset, .unset, .unset, .unset, .unset, .unset, .unset, .unset, .unset, .unset, .unset, .unset, .unset]) rfl ?_
    show Steps p.tables e below (T7.setTop (mkF m 77 #[.val (.int p1), .val (.long j2), .second, .val (.long j3), .second, .val (.long j4), .second, .val (.int la), .val (.int lb), .val (.long kk), .second, .val (.long nn), .second, .val (.long mm), .second, .val (.ref b2), .val (.ref b4), .unset, .unset, .unset, .unset, .unset, .unset, .unset, .unset, .unset, .unset, .unset, .unset, .unset, .unset, .unset] [])) _
    refine st8 _ ?_
    show Steps p.tables e below (T8.setTop (mkF m 80 #[.val (.int p1), .val (.long j2), .second, .val (.long j3), .second, .val (.long j4), .second, .val (.int la), .val (.int lb), .val (.long kk), .second, .val (.long nn), .second, .val (.long mm), .second, .val (.ref b2), .val (.ref b4), .unset, .unset, .unset, .unset, .unset, .unset, .unset, .unset, .unset, .unset, .unset, .unset, .unset, .unset, .unset] [(.ref b8)])) _
    refine XS.dup X8.here hx rfl (hb hby at_80) rfl rfl ?_
    show Steps p.tables e below (T8.setTop (mkF m 81 #[.val (.int p1), .val (.long j2), .second, .val (.long j3), .second, .val (.long j4), .second, .val (.int la), .val (.int lb), .val (.long kk), .second, .val (.long nn), .second, .val (.long mm), .second, .val (.ref b2), .val (.ref b4), .unset, .unset, .unset, .unset, .unset, .unset, .unset, .unset, .unset, .unset, .unset, .unset, .unset, .unset, .unset] [(.ref b8), (.ref b8)])) _
    refine st9 _ ?_
    show Steps p.tables e below (T9.setTop (mkF m 83 #[.val (.int p1), .val (.long j2), .second, .val (.long j3), .second, .val (.long j4), .second, .val (.int la), .val (.int lb), .val (.long kk), .second, .val (.long nn), .second, .val (.long mm), .second, .val (.ref b2), .val (.ref b4), .unset, .unset, .unset, .unset, .unset, .unset, .unset, .unset, .unset, .unset, .unset, .unset, .unset, .unset, .unset] [(.ref ad9), (.ref b8), (.ref b8)])) _
    refine XS.iconst X9.here hx rfl (hb hby at_83) ?_
    show Steps p.tables e below (T9.setTop (mkF m 84 #[.val (.int p1), .val (.long j2), .second, .val (.long j3), .second, .val (.long j4), .second, .val (.int la), .val (.int lb), .val (.long kk), .second, .val (.long nn), .second, .val (.long mm), .second, .val (.ref b2), .val (.ref b4), .unset, .unset, .unset, .unset, .unset, .unset, .unset, .unset, .unset, .unset, .unset, .unset, .unset, .unset, .unset] [(.int (1 : Int32)), (.ref ad9), (.ref b8), (.ref b8)])) _
    refine XS.iconst X9.here hx rfl (hb hby at_84) ?_
    show Steps p.tables e below (T9.setTop (mkF m 85 #[.val (.int p1), .val (.long j2), .second, .val (.long j3), .second, .val (.long j4), .second, .val (.int la), .val (.int lb), .val (.long kk), .second, .val (.long nn), .second, .val (.long mm), .second, .val (.ref b2), .val (.ref b4), .unset, .unset, .unset, .unset, .unset, .unset, .unset, .unset, .unset, .unset, .unset, .unset, .unset, .unset, .unset] [(.int (1 : Int32)), (.int (1 : Int32)), (.ref ad9), (.ref b8), (.ref b8)])) _
    refine XS.iload X9.here hx rfl (hb hby at_85) rfl ?_
    show Steps p.tables e below (T9.setTop (mkF m 87 #[.val (.int p1), .val (.long j2), .second, .val (.long j3), .second, .val (.long j4), .second, .val (.int la), .val (.int lb), .val (.long kk), .second, .val (.long nn), .second, .val (.long mm), .second, .val (.ref b2), .val (.ref b4), .unset, .unset, .unset, .unset, .unset, .unset, .unset, .unset, .unset, .unset, .unset, .unset, .unset, .unset, .unset] [(.int la), (.int (1 : Int32)), (.int (1 : Int32)), (.ref ad9), (.ref b8), (.ref b8)])) _
    refine st10 _ ?_
    show Steps p.tables e below (T10.setTop (mkF m 89 #[.val (.int p1), .val (.long j2), .second, .val (.long j3), .second, .val (.long j4), .second, .val (.int la), .val (.int lb), .val (.long kk), .second, .val (.long nn), .second, .val (.long mm), .second, .val (.ref b2), .val (.ref b4), .unset, .unset, .unset, .unset, .unset, .unset, .unset, .unset, .unset, .unset, .unset, .unset, .unset, .unset, .unset] [(.ref b10), (.int (1 : Int32)), (.int (1 : Int32)), (.ref ad9), (.ref b8), (.ref b8)])) _
    refine XS.iconst X10.here hx rfl (hb hby at_89) ?_
    show Steps p.tables e below (T10.setTop (mkF m 90 #[.val (.int p1), .val (.long j2), .second, .val (.long j3), .second, .val (.long j4), .second, .val (.int la), .val (.int lb), .val (.long kk), .second, .val (.long nn), .second, .val (.long mm), .second, .val (.ref b2), .val (.ref b4), .unset, .unset, .unset, .unset, .unset, .unset, .unset, .unset, .unset, .unset, .unset, .unset, .unset, .unset, .unset] [(.int (0 : Int32)), (.ref b10), (.int (1 : Int32)), (.int (1 : Int32)), (.ref ad9), (.ref b8), (.ref b8)])) _
    refine XS.aload X10.here hx rfl (hb hby at_90) rfl rfl ?_
    show Steps p.tables e below (T10.setTop (mkF m 92 #[.val (.int p1), .val (.long j2), .second, .val (.long j3), .second, .val (.long j4), .second, .val (.int la), .val (.int lb), .val (.long kk), .second, .val (.long nn), .second, .val (.long mm), .second, .val (.ref b2), .val (.ref b4), .unset, .unset, .unset, .unset, .unset, .unset, .unset, .unset, .unset, .unset, .unset, .unset, .unset, .unset, .unset] [(.ref b2), (.int (0 : Int32)), (.ref b10), (.int (1 : Int32)), (.int (1 : Int32)), (.ref ad9), (.ref b8), (.ref b8)])) _
    refine XS.lload X10.here hx rfl (hb hby at_92) rfl ?_
    show Steps p.tables e below (T10.setTop (mkF m 94 #[.val (.int p1), .val (.long j2), .second, .val (.long j3), .second, .val (.long j4), .second, .val (.int la), .val (.int lb), .val (.long kk), .second, .val (.long nn), .second, .val (.long mm), .second, .val (.ref b2), .val (.ref b4), .unset, .unset, .unset, .unset, .unset, .unset, .unset, .unset, .unset, .unset, .unset, .unset, .unset, .unset, .unset] [(.long nn), (.ref b2), (.int (0 : Int32)), (.ref b10), (.int (1 : Int32)), (.int (1 : Int32)), (.ref ad9), (.ref b8), (.ref b8)])) _
    refine st11.trans ?_
    show Steps p.tables e below (T11.setTop (mkF m 97 #[.val (.int p1), .val (.long j2), .second, .val (.long j3), .second, .val (.long j4), .second, .val (.int la), .val (.int lb), .val (.long kk), .second, .val (.long nn), .second, .val (.long mm), .second, .val (.ref b2), .val (.ref b4), .unset, .unset, .unset, .unset, .unset, .unset, .unset, .unset, .unset, .unset, .unset, .unset, .unset, .unset, .unset] [(.ref b8)])) _
    refine XS.astore X11.here hx rfl (hb hby at_97) rfl rfl (l' := #[.val (.int p1), .val (.long j2), .second, .val (.long j3), .second, .val (.long j4), .second, .val (.int la), .val (.int lb), .val (.long kk), .second, .val (.long nn), .second, .val (.long mm), .second, .val (.ref b2), .val (.ref b4), .val (.ref b8), .unset, .unset, .unset, .unset, .unset, .unset, .unset, .unset, .unset, .unset, .unset, .unset, .unset, .unset]) rfl ?_
    show Steps p.tables e below (T11.setTop (mkF m 99 #[.val (.int p1), .val (.long j2), .second, .val (.long j3), .second, .val (.long j4), .second, .val (.int la), .val (.int lb), .val (.long kk), .second, .val (.long nn), .second, .val (.long mm), .second, .val (.ref b2), .val (.ref b4), .val (.ref b8), .unset, .unset, .unset, .unset, .unset, .unset, .unset, .unset, .unset, .unset, .unset, .unset, .unset, .unset] [])) _
    refine st12 _ ?_
    show Steps p.tables e below (T12.setTop (mkF m 102 #[.val (.int p1), .val (.long j2), .second, .val (.long j3), .second, .val (.long j4), .second, .val (.int la), .val (.int lb), .val (.long kk), .second, .val (.long nn), .second, .val (.long mm), .second, .val (.ref b2), .val (.ref b4), .val (.ref b8), .unset, .unset, .unset, .unset, .unset, .unset, .unset, .unset, .unset, .unset, .unset, .unset, .unset, .unset] [(.ref b12)])) _
    refine XS.dup X12.here hx rfl (hb hby at_102) rfl rfl ?_
    show Steps p.tables e below (T12.setTop (mkF m 103 #[.val (.int p1), .val (.long j2), .second, .val (.long j3), .second, .val (.long j4), .second, .val (.int la), .val (.int lb), .val (.long kk), .second, .val (.long nn), .second, .val (.long mm), .second, .val (.ref b2), .val (.ref b4), .val (.ref b8), .unset, .unset, .unset, .unset, .unset, .unset, .unset, .unset, .unset, .unset, .unset, .unset, .unset, .unset] [(.ref b12), (.ref b12)])) _
    refine st13 _ ?_
    show Steps p.tables e below (T13.setTop (mkF m 105 #[.val (.int p1), .val (.long j2), .second, .val (.long j3), .second, .val (.long j4), .second, .val (.int la), .val (.int lb), .val (.long kk), .second, .val (.long nn), .second, .val (.long mm), .second, .val (.ref b2), .val (.ref b4), .val (.ref b8), .unset, .unset, .unset, .unset, .unset, .unset, .unset, .unset, .unset, .unset, .unset, .unset, .unset, .unset] [(.ref ad13), (.ref b12), (.ref b12)])) _
    refine XS.iconst X13.here hx rfl (hb hby at_105) ?_
    show Steps p.tables e below (T13.setTop (mkF m 106 #[.val (.int p1), .val (.long j2), .second, .val (.long j3), .second, .val (.long j4), .second, .val (.int la), .val (.int lb), .val (.long kk), .second, .val (.long nn), .second, .val (.long mm), .second, .val (.ref b2), .val (.ref b4), .val (.ref b8), .unset, .unset, .unset, .unset, .unset, .unset, .unset, .unset, .unset, .unset, .unset, .unset, .unset, .unset] [(.int (1 : Int32)), (.ref ad13), (.ref b12), (.ref b12)])) _
    refine XS.iconst X13.here hx rfl (hb hby at_106) ?_
    show Steps p.tables e below (T13.setTop (mkF m 107 #[.val (.int p1), .val (.long j2), .second, .val (.long j3), .second, .val (.long j4), .second, .val (.int la), .val (.int lb), .val (.long kk), .second, .val (.long nn), .second, .val (.long mm), .second, .val (.ref b2), .val (.ref b4), .val (.ref b8), .unset, .unset, .unset, .unset, .unset, .unset, .unset, .unset, .unset, .unset, .unset, .unset, .unset, .unset] [(.int (1 : Int32)), (.int (1 : Int32)), (.ref ad13), (.ref b12), (.ref b12)])) _
    refine XS.iload X13.here hx rfl (hb hby at_107) rfl ?_
    show Steps p.tables e below (T13.setTop (mkF m 109 #[.val (.int p1), .val (.long j2), .second, .val (.long j3), .second, .val (.long j4), .second, .val (.int la), .val (.int lb), .val (.long kk), .second, .val (.long nn), .second, .val (.long mm), .second, .val (.ref b2), .val (.ref b4), .val (.ref b8), .unset, .unset, .unset, .unset, .unset, .unset, .unset, .unset, .unset, .unset, .unset, .unset, .unset, .unset] [(.int lb), (.int (1 : Int32)), (.int (1 : Int32)), (.ref ad13), (.ref b12), (.ref b12)])) _
    refine st14 _ ?_
    show Steps p.tables e below (T14.setTop (mkF m 111 #[.val (.int p1), .val (.long j2), .second, .val (.long j3), .second, .val (.long j4), .second, .val (.int la), .val (.int lb), .val (.long kk), .second, .val (.long nn), .second, .val (.long mm), .second, .val (.ref b2), .val (.ref b4), .val (.ref b8), .unset, .unset, .unset, .unset, .unset, .unset, .unset, .unset, .unset, .unset, .unset, .unset, .unset, .unset] [(.ref b14), (.int (1 : Int32)), (.int (1 : Int32)), (.ref ad13), (.ref b12), (.ref b12)])) _
    refine XS.iconst X14.here hx rfl (hb hby at_111) ?_
    show Steps p.tables e below (T14.setTop (mkF m 112 #[.val (.int p1), .val (.long j2), .second, .val (.long j3), .second, .val (.long j4), .second, .val (.int la), .val (.int lb), .val (.long kk), .second, .val (.long nn), .second, .val (.long mm), .second, .val (.ref b2), .val (.ref b4), .val (.ref b8), .unset, .unset, .unset, .unset, .unset, .unset, .unset, .unset, .unset, .unset, .unset, .unset, .unset, .unset] [(.int (0 : Int32)), (.ref b14), (.int (1 : Int32)), (.int (1 : Int32)), (.ref ad13), (.ref b12), (.ref b12)])) _
    refine XS.aload X14.here hx rfl (hb hby at_112) rfl rfl ?_
    show Steps p.tables e below (T14.setTop (mkF m 114 #[.val (.int p1), .val (.long j2), .second, .val (.long j3), .second, .val (.long j4), .second, .val (.int la), .val (.int lb), .val (.long kk), .second, .val (.long nn), .second, .val (.long mm), .second, .val (.ref b2), .val (.ref b4), .val (.ref b8), .unset, .unset, .unset, .unset, .unset, .unset, .unset, .unset, .unset, .unset, .unset, .unset, .unset, .unset] [(.ref b2), (.int (0 : Int32)), (.ref b14), (.int (1 : Int32)), (.int (1 : Int32)), (.ref ad13), (.ref b12), (.ref b12)])) _
    refine XS.lload X14.here hx rfl (hb hby at_114) rfl ?_
    show Steps p.tables e below (T14.setTop (mkF m 116 #[.val (.int p1), .val (.long j2), .second, .val (.long j3), .second, .val (.long j4), .second, .val (.int la), .val (.int lb), .val (.long kk), .second, .val (.long nn), .second, .val (.long mm), .second, .val (.ref b2), .val (.ref b4), .val (.ref b8), .unset, .unset, .unset, .unset, .unset, .unset, .unset, .unset, .unset, .unset, .unset, .unset, .unset, .unset] [(.long nn), (.ref b2), (.int (0 : Int32)), (.ref b14), (.int (1 : Int32)), (.int (1 : Int32)), (.ref ad13), (.ref b12), (.ref b12)])) _
    refine st15.trans ?_
    show Steps p.tables e below (T15.setTop (mkF m 119 #[.val (.int p1), .val (.long j2), .second, .val (.long j3), .second, .val (.long j4), .second, .val (.int la), .val (.int lb), .val (.long kk), .second, .val (.long nn), .second, .val (.long mm), .second, .val (.ref b2), .val (.ref b4), .val (.ref b8), .unset, .unset, .unset, .unset, .unset, .unset, .unset, .unset, .unset, .unset, .unset, .unset, .unset, .unset] [(.ref b12)])) _
    refine XS.astore X15.here hx rfl (hb hby at_119) rfl rfl (l' := #[.val (.int p1), .val (.long j2), .second, .val (.long j3), .second, .val (.long j4), .second, .val (.int la), .val (.int lb), .val (.long kk), .second, .val (.long nn), .second, .val (.long mm), .second, .val (.ref b2), .val (.ref b4), .val (.ref b8), .val (.ref b12), .unset, .unset, .unset, .unset, .unset, .unset, .unset, .unset, .unset, .unset, .unset, .unset, .unset]) rfl ?_
    show Steps p.tables e below (T15.setTop (mkF m 121 #[.val (.int p1), .val (.long j2), .second, .val (.long j3), .second, .val (.long j4), .second, .val (.int la), .val (.int lb), .val (.long kk), .second, .val (.long nn), .second, .val (.long mm), .second, .val (.ref b2), .val (.ref b4), .val (.ref b8), .val (.ref b12), .unset, .unset, .unset, .unset, .unset, .unset, .unset, .unset, .unset, .unset, .unset, .unset, .unset] [])) _
    refine st16 _ ?_
    show Steps p.tables e below (T16.setTop (mkF m 124 #[.val (.int p1), .val (.long j2), .second, .val (.long j3), .second, .val (.long j4), .second, .val (.int la), .val (.int lb), .val (.long kk), .second, .val (.long nn), .second, .val (.long mm), .second, .val (.ref b2), .val (.ref b4), .val (.ref b8), .val (.ref b12), .unset, .unset, .unset, .unset, .unset, .unset, .unset, .unset, .unset, .unset, .unset, .unset, .unset] [(.ref b16)])) _
    refine XS.dup X16.here hx rfl (hb hby at_124) rfl rfl ?_
    show Steps p.tables e below (T16.setTop (mkF m 125 #[.val (.int p1), .val (.long j2), .second, .val (.long j3), .second, .val (.long j4), .second, .val (.int la), .val (.int lb), .val (.long kk), .second, .val (.long nn), .second, .val (.long mm), .second, .val (.ref b2), .val (.ref b4), .val (.ref b8), .val (.ref b12), .unset, .unset, .unset, .unset, .unset, .unset, .unset, .unset, .unset, .unset, .unset, .unset, .unset] [(.ref b16), (.ref b16)])) _
    refine st17 _ ?_
    show Steps p.tables e below (T17.setTop (mkF m 127 #[.val (.int p1), .val (.long j2), .second, .val (.long j3), .second, .val (.long j4), .second, .val (.int la), .val (.int lb), .val (.long kk), .second, .val (.long nn), .second, .val (.long mm), .second, .val (.ref b2), .val (.ref b4), .val (.ref b8), .val (.ref b12), .unset, .unset, .unset, .unset, .unset, .unset, .unset, .unset, .unset, .unset, .unset, .unset, .unset] [(.ref ad17), (.ref b16), (.ref b16)])) _
    refine XS.iconst X17.here hx rfl (hb hby at_127) ?_
    show Steps p.tables e below (T17.setTop (mkF m 128 #[.val (.int p1), .val (.long j2), .second, .val (.long j3), .second, .val (.long j4), .second, .val (.int la), .val (.int lb), .val (.long kk), .second, .val (.long nn), .second, .val (.long mm), .second, .val (.ref b2), .val (.ref b4), .val (.ref b8), .val (.ref b12), .unset, .unset, .unset, .unset, .unset, .unset, .unset, .unset, .unset, .unset, .unset, .unset, .unset] [(.int (1 : Int32)), (.ref ad17), (.ref b16), (.ref b16)])) _
    refine XS.iconst X17.here hx rfl (hb hby at_128) ?_
    show Steps p.tables e below (T17.setTop (mkF m 129 #[.val (.int p1), .val (.long j2), .second, .val (.long j3), .second, .val (.long j4), .second, .val (.int la), .val (.int lb), .val (.long kk), .second, .val (.long nn), .second, .val (.long mm), .second, .val (.ref b2), .val (.ref b4), .val (.ref b8), .val (.ref b12), .unset, .unset, .unset, .unset, .unset, .unset, .unset, .unset, .unset, .unset, .unset, .unset, .unset] [(.int (1 : Int32)), (.int (1 : Int32)), (.ref ad17), (.ref b16), (.ref b16)])) _
    refine XS.iload X17.here hx rfl (hb hby at_129) rfl ?_
    show Steps p.tables e below (T17.setTop (mkF m 131 #[.val (.int p1), .val (.long j2), .second, .val (.long j3), .second, .val (.long j4), .second, .val (.int la), .val (.int lb), .val (.long kk), .second, .val (.long nn), .second, .val (.long mm), .second, .val (.ref b2), .val (.ref b4), .val (.ref b8), .val (.ref b12), .unset, .unset, .unset, .unset, .unset, .unset, .unset, .unset, .unset, .unset, .unset, .unset, .unset] [(.int la), (.int (1 : Int32)), (.int (1 : Int32)), (.ref ad17), (.ref b16), (.ref b16)])) _
    refine st18 _ ?_
    show Steps p.tables e below (T18.setTop (mkF m 133 #[.val (.int p1), .val (.long j2), .second, .val (.long j3), .second, .val (.long j4), .second, .val (.int la), .val (.int lb), .val (.long kk), .second, .val (.long nn), .second, .val (.long mm), .second, .val (.ref b2), .val (.ref b4), .val (.ref b8), .val (.ref b12), .unset, .unset, .unset, .unset, .unset, .unset, .unset, .unset, .unset, .unset, .unset, .unset, .unset] [(.ref b18), (.int (1 : Int32)), (.int (1 : Int32)), (.ref ad17), (.ref b16), (.ref b16)])) _
    refine XS.iconst X18.here hx rfl (hb hby at_133) ?_
    show Steps p.tables e below (T18.setTop (mkF m 134 #[.val (.int p1), .val (.long j2), .second, .val (.long j3), .second, .val (.long j4), .second, .val (.int la), .val (.int lb), .val (.long kk), .second, .val (.long nn), .second, .val (.long mm), .second, .val (.ref b2), .val (.ref b4), .val (.ref b8), .val (.ref b12), .unset, .unset, .unset, .unset, .unset, .unset, .unset, .unset, .unset, .unset, .unset, .unset, .unset] [(.int (0 : Int32)), (.ref b18), (.int (1 : Int32)), (.int (1 : Int32)), (.ref ad17), (.ref b16), (.ref b16)])) _
    refine XS.aload X18.here hx rfl (hb hby at_134) rfl rfl ?_
    show Steps p.tables e below (T18.setTop (mkF m 136 #[.val (.int p1), .val (.long j2), .second, .val (.long j3), .second, .val (.long j4), .second, .val (.int la), .val (.int lb), .val (.long kk), .second, .val (.long nn), .second, .val (.long mm), .second, .val (.ref b2), .val (.ref b4), .val (.ref b8), .val (.ref b12), .unset, .unset, .unset, .unset, .unset, .unset, .unset, .unset, .unset, .unset, .unset, .unset, .unset] [(.ref b2), (.int (0 : Int32)), (.ref b18), (.int (1 : Int32)), (.int (1 : Int32)), (.ref ad17), (.ref b16), (.ref b16)])) _
    refine XS.lload X18.here hx rfl (hb hby at_136) rfl ?_
    show Steps p.tables e below (T18.setTop (mkF m 138 #[.val (.int p1), .val (.long j2), .second, .val (.long j3), .second, .val (.long j4), .second, .val (.int la), .val (.int lb), .val (.long kk), .second, .val (.long nn), .second, .val (.long mm), .second, .val (.ref b2), .val (.ref b4), .val (.ref b8), .val (.ref b12), .unset, .unset, .unset, .unset, .unset, .unset, .unset, .unset, .unset, .unset, .unset, .unset, .unset] [(.long nn), (.ref b2), (.int (0 : Int32)), (.ref b18), (.int (1 : Int32)), (.int (1 : Int32)), (.ref ad17), (.ref b16), (.ref b16)])) _
    refine XS.lload X18.here hx rfl (hb hby at_138) rfl ?_
    show Steps p.tables e below (T18.setTop (mkF m 140 #[.val (.int p1), .val (.long j2), .second, .val (.long j3), .second, .val (.long j4), .second, .val (.int la), .val (.int lb), .val (.long kk), .second, .val (.long nn), .second, .val (.long mm), .second, .val (.ref b2), .val (.ref b4), .val (.ref b8), .val (.ref b12), .unset, .unset, .unset, .unset, .unset, .unset, .unset, .unset, .unset, .unset, .unset, .unset, .unset] [(.long mm), (.long nn), (.ref b2), (.int (0 : Int32)), (.ref b18), (.int (1 : Int32)), (.int (1 : Int32)), (.ref ad17), (.ref b16), (.ref b16)])) _
    refine XS.ladd X18.here hx rfl (hb hby at_140) rfl ?_
    rw [show (nn + mm) = nm from hnx]
    show Steps p.tables e below (T18.setTop (mkF m 141 #[.val (.int p1), .val (.long j2), .second, .val (.long j3), .second, .val (.long j4), .second, .val (.int la), .val (.int lb), .val (.long kk), .second, .val (.long nn), .second, .val (.long mm), .second, .val (.ref b2), .val (.ref b4), .val (.ref b8), .val (.ref b12), .unset, .unset, .unset, .unset, .unset, .unset, .unset, .unset, .unset, .unset, .unset, .unset, .unset] [(.long nm), (.ref b2), (.int (0 : Int32)), (.ref b18), (.int (1 : Int32)), (.int (1 : Int32)), (.ref ad17), (.ref b16), (.ref b16)])) _
    refine st19.trans ?_
    show Steps p.tables e below (T19.setTop (mkF m 144 #[.val (.int p1), .val (.long j2), .second, .val (.long j3), .second, .val (.long j4), .second, .val (.int la), .val (.int lb), .val (.long kk), .second, .val (.long nn), .second, .val (.long mm), .second, .val (.ref b2), .val (.ref b4), .val (.ref b8), .val (.ref b12), .unset, .unset, .unset, .unset, .unset, .unset, .unset, .unset, .unset, .unset, .unset, .unset, .unset] [(.ref b16)])) _
    refine XS.astore X19.here hx rfl (hb hby at_144) rfl rfl (l' := #[.val (.int p1), .val (.long j2), .second, .val (.long j3), .second, .val (.long j4), .second, .val (.int la), .val (.int lb), .val (.long kk), .second, .val (.long nn), .second, .val (.long mm), .second, .val (.ref b2), .val (.ref b4), .val (.ref b8), .val (.ref b12), .val (.ref b16), .unset, .unset, .unset, .unset, .unset, .unset, .unset, .unset, .unset, .unset, .unset, .unset]) rfl ?_
    show Steps p.tables e below (T19.setTop (mkF m 146 #[.val (.int p1), .val (.long j2), .second, .val (.long j3), .second, .val (.long j4), .second, .val (.int la), .val (.int lb), .val (.long kk), .second, .val (.long nn), .second, .val (.long mm), .second, .val (.ref b2), .val (.ref b4), .val (.ref b8), .val (.ref b12), .val (.ref b16), .unset, .unset, .unset, .unset, .unset, .unset, .unset, .unset, .unset, .unset, .unset, .unset] [])) _
    refine XS.aload X19.here hx rfl (hb hby at_146) rfl rfl ?_
    show Steps p.tables e below (T19.setTop (mkF m 148 #[.val (.int p1), .val (.long j2), .second, .val (.long j3), .second, .val (.long j4), .second, .val (.int la), .val (.int lb), .val (.long kk), .second, .val (.long nn), .second, .val (.long mm), .second, .val (.ref b2), .val (.ref b4), .val (.ref b8), .val (.ref b12), .val (.ref b16), .unset, .unset, .unset, .unset, .unset, .unset, .unset, .unset, .unset, .unset, .unset, .unset] [(.ref b4)])) _
    refine st20.trans ?_
    show Steps p.tables e below (T20.setTop (mkF m 151 #[.val (.int p1), .val (.long j2), .second, .val (.long j3), .second, .val (.long j4), .second, .val (.int la), .val (.int lb), .val (.long kk), .second, .val (.long nn), .second, .val (.long mm), .second, .val (.ref b2), .val (.ref b4), .val (.ref b8), .val (.ref b12), .val (.ref b16), .unset, .unset, .unset, .unset, .unset, .unset, .unset, .unset, .unset, .unset, .unset, .unset] [(.double rW)])) _
    refine XS.dstore X20.here hx rfl (hb hby at_151) rfl (l' := #[.val (.int p1), .val (.long j2), .second, .val (.long j3), .second, .val (.long j4), .second, .val (.int la), .val (.int lb), .val (.long kk), .second, .val (.long nn), .second, .val (.long mm), .second, .val (.ref b2), .val (.ref b4), .val (.ref b8), .val (.ref b12), .val (.ref b16), .val (.double rW), .second, .unset, .unset, .unset, .unset, .unset, .unset, .unset, .unset, .unset, .unset]) rfl ?_
    show Steps p.tables e below (T20.setTop (mkF m 153 #[.val (.int p1), .val (.long j2), .second, .val (.long j3), .second, .val (.long j4), .second, .val (.int la), .val (.int lb), .val (.long kk), .second, .val (.long nn), .second, .val (.long mm), .second, .val (.ref b2), .val (.ref b4), .val (.ref b8), .val (.ref b12), .val (.ref b16), .val (.double rW), .second, .unset, .unset, .unset, .unset, .unset, .unset, .unset, .unset, .unset, .unset] [])) _
    refine XS.aload X20.here hx rfl (hb hby at_153) rfl rfl ?_
    show Steps p.tables e below (T20.setTop (mkF m 155 #[.val (.int p1), .val (.long j2), .second, .val (.long j3), .second, .val (.long j4), .second, .val (.int la), .val (.int lb), .val (.long kk), .second, .val (.long nn), .second, .val (.long mm), .second, .val (.ref b2), .val (.ref b4), .val (.ref b8), .val (.ref b12), .val (.ref b16), .val (.double rW), .second, .unset, .unset, .unset, .unset, .unset, .unset, .unset, .unset, .unset, .unset] [(.ref b8)])) _
    refine st21.trans ?_
    show Steps p.tables e below (T21.setTop (mkF m 158 #[.val (.int p1), .val (.long j2), .second, .val (.long j3), .second, .val (.long j4), .second, .val (.int la), .val (.int lb), .val (.long kk), .second, .val (.long nn), .second, .val (.long mm), .second, .val (.ref b2), .val (.ref b4), .val (.ref b8), .val (.ref b12), .val (.ref b16), .val (.double rW), .second, .unset, .unset, .unset, .unset, .unset, .unset, .unset, .unset, .unset, .unset] [(.double rS)])) _
    refine XS.dstore X21.here hx rfl (hb hby at_158) rfl (l' := #[.val (.int p1), .val (.long j2), .second, .val (.long j3), .second, .val (.long j4), .second, .val (.int la), .val (.int lb), .val (.long kk), .second, .val (.long nn), .second, .val (.long mm), .second, .val (.ref b2), .val (.ref b4), .val (.ref b8), .val (.ref b12), .val (.ref b16), .val (.double rW), .second, .val (.double rS), .second, .unset, .unset, .unset, .unset, .unset, .unset, .unset, .unset]) rfl ?_
    show Steps p.tables e below (T21.setTop (mkF m 160 #[.val (.int p1), .val (.long j2), .second, .val (.long j3), .second, .val (.long j4), .second, .val (.int la), .val (.int lb), .val (.long kk), .second, .val (.long nn), .second, .val (.long mm), .second, .val (.ref b2), .val (.ref b4), .val (.ref b8), .val (.ref b12), .val (.ref b16), .val (.double rW), .second, .val (.double rS), .second, .unset, .unset, .unset, .unset, .unset, .unset, .unset, .unset] [])) _
    refine XS.aload X21.here hx rfl (hb hby at_160) rfl rfl ?_
    show Steps p.tables e below (T21.setTop (mkF m 162 #[.val (.int p1), .val (.long j2), .second, .val (.long j3), .second, .val (.long j4), .second, .val (.int la), .val (.int lb), .val (.long kk), .second, .val (.long nn), .second, .val (.long mm), .second, .val (.ref b2), .val (.ref b4), .val (.ref b8), .val (.ref b12), .val (.ref b16), .val (.double rW), .second, .val (.double rS), .second, .unset, .unset, .unset, .unset, .unset, .unset, .unset, .unset] [(.ref b12)])) _
    refine st22.trans ?_
    show Steps p.tables e below (T22.setTop (mkF m 165 #[.val (.int p1), .val (.long j2), .second, .val (.long j3), .second, .val (.long j4), .second, .val (.int la), .val (.int lb), .val (.long kk), .second, .val (.long nn), .second, .val (.long mm), .second, .val (.ref b2), .val (.ref b4), .val (.ref b8), .val (.ref b12), .val (.ref b16), .val (.double rW), .second, .val (.double rS), .second, .unset, .unset, .unset, .unset, .unset, .unset, .unset, .unset] [(.double rO)])) _
    refine XS.dstore X22.here hx rfl (hb hby at_165) rfl (l' := #[.val (.int p1), .val (.long j2), .second, .val (.long j3), .second, .val (.long j4), .second, .val (.int la), .val (.int lb), .val (.long kk), .second, .val (.long nn), .second, .val (.long mm), .second, .val (.ref b2), .val (.ref b4), .val (.ref b8), .val (.ref b12), .val (.ref b16), .val (.double rW), .second, .val (.double rS), .second, .val (.double rO), .second, .unset, .unset, .unset, .unset, .unset, .unset]) rfl ?_
    show Steps p.tables e below (T22.setTop (mkF m 167 #[.val (.int p1), .val (.long j2), .second, .val (.long j3), .second, .val (.long j4), .second, .val (.int la), .val (.int lb), .val (.long kk), .second, .val (.long nn), .second, .val (.long mm), .second, .val (.ref b2), .val (.ref b4), .val (.ref b8), .val (.ref b12), .val (.ref b16), .val (.double rW), .second, .val (.double rS), .second, .val (.double rO), .second, .unset, .unset, .unset, .unset, .unset, .unset] [])) _
    refine XS.aload X22.here hx rfl (hb hby at_167) rfl rfl ?_
    show Steps p.tables e below (T22.setTop (mkF m 169 #[.val (.int p1), .val (.long j2), .second, .val (.long j3), .second, .val (.long j4), .second, .val (.int la), .val (.int lb), .val (.long kk), .second, .val (.long nn), .second, .val (.long mm), .second, .val (.ref b2), .val (.ref b4), .val (.ref b8), .val (.ref b12), .val (.ref b16), .val (.double rW), .second, .val (.double rS), .second, .val (.double rO), .second, .unset, .unset, .unset, .unset, .unset, .unset] [(.ref b16)])) _
    refine st23.trans ?_
    show Steps p.tables e below (T23.setTop (mkF m 172 #[.val (.int p1), .val (.long j2), .second, .val (.long j3), .second, .val (.long j4), .second, .val (.int la), .val (.int lb), .val (.long kk), .second, .val (.long nn), .second, .val (.long mm), .second, .val (.ref b2), .val (.ref b4), .val (.ref b8), .val (.ref b12), .val (.ref b16), .val (.double rW), .second, .val (.double rS), .second, .val (.double rO), .second, .unset, .unset, .unset, .unset, .unset, .unset] [(.double rL)])) _
    refine XS.dstore X23.here hx rfl (hb hby at_172) rfl (l' := #[.val (.int p1), .val (.long j2), .second, .val (.long j3), .second, .val (.long j4), .second, .val (.int la), .val (.int lb), .val (.long kk), .second, .val (.long nn), .second, .val (.long mm), .second, .val (.ref b2), .val (.ref b4), .val (.ref b8), .val (.ref b12), .val (.ref b16), .val (.double rW), .second, .val (.double rS), .second, .val (.double rO), .second, .val (.double rL), .second, .unset, .unset, .unset, .unset]) rfl ?_
    show Steps p.tables e below (T23.setTop (mkF m 174 #[.val (.int p1), .val (.long j2), .second, .val (.long j3), .second, .val (.long j4), .second, .val (.int la), .val (.int lb), .val (.long kk), .second, .val (.long nn), .second, .val (.long mm), .second, .val (.ref b2), .val (.ref b4), .val (.ref b8), .val (.ref b12), .val (.ref b16), .val (.double rW), .second, .val (.double rS), .second, .val (.double rO), .second, .val (.double rL), .second, .unset, .unset, .unset, .unset] [])) _
    refine stJ _ ?_
    show Steps p.tables e below (TJ.setTop (mkF m 306 #[.val (.int p1), .val (.long j2), .second, .val (.long j3), .second, .val (.long j4), .second, .val (.int la), .val (.int lb), .val (.long kk), .second, .val (.long nn), .second, .val (.long mm), .second, .val (.ref b2), .val (.ref b4), .val (.ref b8), .val (.ref b12), .val (.ref b16), .val (.double rW), .second, .val (.double rS), .second, .val (.double rO), .second, .val (.double rL), .second, .val (.int (1 : Int32)), .val (.int (1 : Int32)), .val (.int (1 : Int32)), .val (.int (1 : Int32))] [(.int (1 : Int32))])) _
    exact retN XJ hx (t := .boolean) Bd.returns (by simp) (hb hby at_306) hr
  · show Q_rm0 Z p1 j2 j3 j4 dc h0 n0 _ TJ.heap _
    rw [eJ]
    exact ⟨rfl, NJ⟩
set_option maxRecDepth 65536 in
set_option maxHeartbeats 40000000 in
theorem comes_1 {Post : Tables → Env → Array Value → State → Outcome → State → Prop} (hpost : ∀ tb e args s v u, (limb_1_1.after args s (.returned v) u = true ∧ limb_1_2.after args s (.returned v) u = true ∧ True) → ReturnedEndW s (.returned v) u (Jvm.fieldLocs frame_1_writes args s ++ Jvm.arrayLocs frame_1_arrays args s ++ Jvm.staticLocs frame_1_statics s) 32 1280 → Post tb e args s (.returned v) u) :
    ArmFor flags0 classFile x code maxLocals ret World_1 tables_1 room_1 Calls_1 rest_1 Pre_1 Post := by
  intro l hfl _ _ p e ha hc hk s m args below hf hA hF happ hP
  obtain ⟨hcalls, hrest, hpre⟩ := hP
  obtain ⟨-, -, -, hnamed, -, -, -, hat⟩ := (Spec.applies_iff hf).mp happ
  obtain ⟨hg, hn⟩ := and_e (Cond.before_iff.mp (show (Jvm.Cond.and given_1 narrow_1).before args s = true from hpre))
  obtain ⟨g1, g2⟩ := and_e hg
  obtain ⟨g3, g4⟩ := and_e g2
  obtain ⟨g5, g6⟩ := and_e g4
  obtain ⟨g7, g8⟩ := and_e g6
  obtain ⟨w0, w1, w2, w3, rfl⟩ : ∃ w0 w1 w2 w3 : Value, args = #[w0, w1, w2, w3] := by
    have hs : args.size = 4 := by simpa [Cond.value, given_1] using g1
    obtain ⟨L⟩ := args
    match L, hs with
    | [w0, w1, w2, w3], _ => exact ⟨w0, w1, w2, w3, rfl⟩
  have hw := fun d (hd : d ∈ tables_1) => atoms_spec (ws := Jvm.Cond.code x code maxLocals ret :: tables_1) hat d (List.mem_cons_of_mem _ hd)
  have hfit : Fit s := fun {y c} hc i hi => by
    obtain ⟨ha, rfl⟩ := Array.getElem?_eq_some_iff.mp hc
    have q := List.all_eq_true.mp ((Array.all_eq_true_iff_forall_mem.mp hF) _ (Array.getElem_mem ha)) i (List.mem_range.mpr hi)
    simpa [Array.getElem?_eq_getElem hi] using q
  obtain ⟨hsets, hown0⟩ := atoms_of _ (rest_1_c_eq ▸ (show rest_1_c.before _ s = true from hrest))
  have hr0 := Cond.before_iff.mp hown0
  obtain ⟨i0, ei0⟩ := is_v g3
  obtain rfl : w0 = (.int i0) := Option.some.inj ei0
  obtain ⟨i1, ei1⟩ := isL_v g5
  obtain rfl : w1 = (.long i1) := Option.some.inj ei1
  obtain ⟨i2, ei2⟩ := isL_v g7
  obtain rfl : w2 = (.long i2) := Option.some.inj ei2
  obtain ⟨i3, ei3⟩ := isL_v g8
  obtain rfl : w3 = (.long i3) := Option.some.inj ei3
  obtain ⟨dc, ec⟩ := arr_v (Cond.before_iff.mp (hsets _ (List.mem_of_getElem? (i := 6) rfl)))
  have S0 := Sta.start ec (Or.inr ⟨(hw _ (List.mem_of_getElem? (i := 8) rfl)), (hsets _ (List.mem_of_getElem? (i := 2) rfl))⟩)
  obtain ⟨n, o, h1, h2, h3, _, L, rfl, ⟨rfl, N⟩, hq⟩ := rm0 l s _ hw tables_1 i0 i1 i2 i3 dc s.heap s.heap.size (Nat.le_refl _) S0 p e ha hc hk s m _ below hf ((Spec.applies_iff_loose hf).mp happ).1 ⟨rfl, State.Warmed39.refl s, rfl⟩ trivial
  refine ⟨n, _, h1, h2, h3, hpost _ _ _ _ _ _ ⟨Cond.after_iff.mpr rfl, Cond.after_iff.mpr (eq_i res_at (Term.int_eval (1)) rfl), trivial⟩ ⟨hq.1, hq.2.1, hq.2.2.1, (hq.2.2.2.sift fun y hy => Or.inr (N y hy)).mono (by decide) (by decide)⟩⟩
theorem main_1_1 : Claimed_1_1 := comes_1 fun _ _ _ _ _ _ h hF => ⟨h.1, hF⟩
theorem main_1_2 : Claimed_1_2 := comes_1 fun _ _ _ _ _ _ h hF => ⟨h.2.1, hF⟩
end Jvm.Pilot.@@N@@
namespace Jvm.Pilot.@@N@@
open Jvm Jvm.ClassFile Sem Op Lib Jvm.Free Jvm.Stand Jvm.Pilot.@@N@@.Jvm.D
/-! MADE BY PROGRAM (witnessworld.py) out of the Statement's table words and the real class files: 27 classes; the members and pool entries that the words name. The judged class is class 1, her method 1. -/
namespace start1
open Jvm.ClassFile
def u (s : String) : CpInfo := .utf8 (stringToUtf16 s)
/-- a pool by its gaps: so many unusable entries, then the entry; so many at the end -/
def gap : Nat → List CpInfo → List CpInfo
  | 0, r => r
  | n + 1, r => .unusable :: gap n r
def poolList (es : List (Nat × CpInfo)) (last : Nat) : List CpInfo := es.foldr (fun e r => gap e.1 (e.2 :: r)) (gap last [])
def pool (es : List (Nat × CpInfo)) (last : Nat) : Array CpInfo := ⟨poolList es last⟩
def fileOf (pool : Array CpInfo) (this : Nat) (attrs : Array Attribute := #[]) (ms : Array MethodInfo := #[]) (fl : Nat := 33) (sup : Nat := 0) (ifs : Array Nat := #[]) (fds : Array FieldInfo := #[]) : ClassFile where
  minorVersion := 0
  majorVersion := 65
  constantPool := pool
  accessFlags := fl
  thisClass := this
  superClass := sup
  interfaces := ifs
  fields := fds
  methods := ms
  attributes := attrs
def plain (name : String) (sup : Option ClassId) : Class where
  name := name
  kind := .ordinary
  loader := none
  accessFlags := 33
  super := sup
  interfaces := #[]
  cf := none
  fields := #[]
  methods := #[]
  instanceTypes := #[]
  staticTypes := #[]
  resolved := #[]
  callSites := []
  init := .initialized
  statics := none
  mirror := none

def pool0 : Array CpInfo := pool [(5, u "<init>"), (0, u "()V"), (1, .class_ 10), (1, u "java/lang/Object")] 113

def k0c0 : Code := { maxStack := 0, maxLocals := 1, code := object_method_1_code, exceptionTable := #[], attributes := #[] }
def k0m0 : Method := { name := "<init>", desc := "()V", sig := { parameters := [], returnType := none }, accessFlags := 1, code := some k0c0 }
/-- java/lang/Object -/
def k0 : Class := { plain "java/lang/Object" none with
  accessFlags := 33
  interfaces := #[]
  cf := some (fileOf pool0 8 #[] #[{ accessFlags := 1, nameIndex := 5, descriptorIndex := 6, attributes := #[] }] 33 0 #[] #[])
  fields := #[]
  methods := #[k0m0]
  instanceTypes := #[]
  staticTypes := #[]
  resolved := Array.replicate 124 none
  statics := none }

def pool1 : Array CpInfo := pool [(2, .class_ 4), (0, .nameAndType 5 6), (0, u "java/lang/Object"), (0, u "<init>"), (0, u "()V"), (0, .long 1048575), (1, .long 4611686018427387903), (1, .methodref 12 13), (0, .class_ 14), (0, .nameAndType 15 16), (0, u "java/lang/Math"), (0, u "max"), (0, u "(JJ)J"), (0, .class_ 18), (0, u "java/util/ArrayList"), (0, .methodref 17 3), (0, .class_ 21), (0, u "com/example/leadout/leadout/bench/Load$Report"), (0, .string 23), (0, u "d"), (0, .long 1000000000), (1, .methodref 20 27), (0, .nameAndType 5 28), (0, u "(Ljava/lang/String;II[JILjava/util/List;J)V"), (0, .methodref 20 30), (0, .nameAndType 31 32), (0, u "pairsPerSecond"), (0, u "()D"), (0, .class_ 34), (0, u "com/example/leadout/leadout/bench/ReportPairsPerSecondPinLaw"), (2, u "law"), (0, u "(IJJJ)Z")] 9

def k1m0 : Method := { name := "<init>", desc := "()V", sig := { parameters := [], returnType := none }, accessFlags := 2, code := none }
def k1c1 : Code := { maxStack := 12, maxLocals := 32, code := code, exceptionTable := #[], attributes := #[] }
def k1m1 : Method := { name := "law", desc := "(IJJJ)Z", sig := { parameters := [.int, .long, .long, .long], returnType := some .boolean }, accessFlags := 9, code := some k1c1 }
/-- com/example/leadout/leadout/bench/ReportPairsPerSecondPinLaw -/
def k1 : Class := { plain "com/example/leadout/leadout/bench/ReportPairsPerSecondPinLaw" (some 0) with
  accessFlags := 49
  interfaces := #[]
  cf := some (fileOf pool1 33 #[] #[{ accessFlags := 2, nameIndex := 5, descriptorIndex := 6, attributes := #[] }, { accessFlags := 9, nameIndex := 37, descriptorIndex := 38, attributes := #[] }] 49 2 #[] #[])
  fields := #[]
  methods := #[k1m0, k1m1]
  instanceTypes := #[]
  staticTypes := #[]
  resolved := Array.replicate 48 none
  statics := none }

def pool2 : Array CpInfo := pool [(1, .class_ 2), (0, u "java/lang/Math"), (1, .class_ 6), (1, u "java/lang/Object"), (0, u "<init>"), (0, u "()V"), (89, .class_ 100), (1, u "java/lang/Math$RandomNumberGeneratorHolder"), (20, u "(JJ)J"), (50, u "negativeZeroFloatBits"), (0, u "J"), (2, u "negativeZeroDoubleBits"), (21, u "max"), (46, u "$assertionsDisabled"), (0, u "Z"), (91, u "twoToTheDoubleScaleDown"), (0, u "D"), (4, u "twoToTheDoubleScaleUp"), (9, u "E"), (3, u "PI"), (2, u "TAU"), (2, u "DEGREES_TO_RADIANS"), (0, u "RADIANS_TO_DEGREES")] 94

def k2m0 : Method := { name := "<init>", desc := "()V", sig := { parameters := [], returnType := none }, accessFlags := 2, code := none }
def k2c1 : Code := { maxStack := 4, maxLocals := 4, code := jdk_29_method_66_code, exceptionTable := #[], attributes := #[] }
def k2m1 : Method := { name := "max", desc := "(JJ)J", sig := { parameters := [.long, .long], returnType := some .long }, accessFlags := 9, code := some k2c1 }
/-- java/lang/Math -/
def k2 : Class := { plain "java/lang/Math" (some 0) with
  accessFlags := 49
  interfaces := #[]
  cf := some (fileOf pool2 1 #[.nestMembers #[98]] #[{ accessFlags := 2, nameIndex := 7, descriptorIndex := 8, attributes := #[] }, { accessFlags := 9, nameIndex := 198, descriptorIndex := 121, attributes := #[] }] 49 4 #[] #[{ accessFlags := 25, nameIndex := 354, descriptorIndex := 339, attributes := #[] }, { accessFlags := 25, nameIndex := 358, descriptorIndex := 339, attributes := #[] }, { accessFlags := 25, nameIndex := 361, descriptorIndex := 339, attributes := #[] }, { accessFlags := 26, nameIndex := 364, descriptorIndex := 339, attributes := #[] }, { accessFlags := 26, nameIndex := 365, descriptorIndex := 339, attributes := #[] }, { accessFlags := 26, nameIndex := 172, descriptorIndex := 173, attributes := #[] }, { accessFlags := 26, nameIndex := 176, descriptorIndex := 173, attributes := #[] }, { accessFlags := 8, nameIndex := 344, descriptorIndex := 339, attributes := #[] }, { accessFlags := 8, nameIndex := 338, descriptorIndex := 339, attributes := #[] }, { accessFlags := 4120, nameIndex := 245, descriptorIndex := 246, attributes := #[] }])
  fields := #[{ name := "E", type := .double, accessFlags := 25, slot := 0, constantValue := 0 }, { name := "PI", type := .double, accessFlags := 25, slot := 1, constantValue := 0 }, { name := "TAU", type := .double, accessFlags := 25, slot := 2, constantValue := 0 }, { name := "DEGREES_TO_RADIANS", type := .double, accessFlags := 26, slot := 3, constantValue := 0 }, { name := "RADIANS_TO_DEGREES", type := .double, accessFlags := 26, slot := 4, constantValue := 0 }, { name := "negativeZeroFloatBits", type := .long, accessFlags := 26, slot := 5, constantValue := 0 }, { name := "negativeZeroDoubleBits", type := .long, accessFlags := 26, slot := 6, constantValue := 0 }, { name := "twoToTheDoubleScaleUp", type := .double, accessFlags := 8, slot := 7, constantValue := 0 }, { name := "twoToTheDoubleScaleDown", type := .double, accessFlags := 8, slot := 8, constantValue := 0 }, { name := "$assertionsDisabled", type := .boolean, accessFlags := 4120, slot := 9, constantValue := 0 }]
  methods := #[k2m0, k2m1]
  instanceTypes := #[]
  staticTypes := #[.double, .double, .double, .double, .double, .long, .long, .double, .double, .boolean]
  resolved := Array.replicate 460 none
  statics := none }

def pool3 : Array CpInfo := pool [(8, .class_ 10), (1, u "java/lang/Iterable"), (24, .class_ 36), (0, u "java/lang/Object")] 25

/-- java/lang/Iterable -/
def k3 : Class := { plain "java/lang/Iterable" (some 0) with
  accessFlags := 1537
  interfaces := #[]
  cf := some (fileOf pool3 8 #[] #[] 1537 35 #[] #[])
  fields := #[]
  methods := #[]
  instanceTypes := #[]
  staticTypes := #[]
  resolved := Array.replicate 62 none
  statics := none }

def pool4 : Array CpInfo := pool [(10, .class_ 12), (1, u "java/util/Collection"), (47, .class_ 61), (0, u "java/lang/Object"), (0, .class_ 63), (0, u "java/lang/Iterable")] 51

/-- java/util/Collection -/
def k4 : Class := { plain "java/util/Collection" (some 0) with
  accessFlags := 1537
  interfaces := #[3]
  cf := some (fileOf pool4 10 #[] #[] 1537 60 #[62] #[])
  fields := #[]
  methods := #[]
  instanceTypes := #[]
  staticTypes := #[]
  resolved := Array.replicate 115 none
  statics := none }

def pool5 : Array CpInfo := pool [(1, .methodref 2 3), (0, .class_ 4), (0, .nameAndType 5 6), (0, u "java/lang/Object"), (0, u "<init>"), (0, u "()V"), (1, .class_ 10), (1, u "java/util/AbstractCollection"), (66, .class_ 78), (0, u "java/util/Collection")] 81

def k5c0 : Code := { maxStack := 1, maxLocals := 1, code := jdk_22_method_1_code, exceptionTable := #[], attributes := #[] }
def k5m0 : Method := { name := "<init>", desc := "()V", sig := { parameters := [], returnType := none }, accessFlags := 4, code := some k5c0 }
/-- java/util/AbstractCollection -/
def k5 : Class := { plain "java/util/AbstractCollection" (some 0) with
  accessFlags := 1057
  interfaces := #[4]
  cf := some (fileOf pool5 8 #[] #[{ accessFlags := 4, nameIndex := 5, descriptorIndex := 6, attributes := #[] }] 1057 2 #[77] #[])
  fields := #[]
  methods := #[k5m0]
  instanceTypes := #[]
  staticTypes := #[]
  resolved := Array.replicate 160 none
  statics := none }

def pool6 : Array CpInfo := pool [(8, .class_ 10), (1, u "java/util/SequencedCollection"), (15, .class_ 27), (0, u "java/lang/Object"), (0, .class_ 29), (0, u "java/util/Collection")] 27

/-- java/util/SequencedCollection -/
def k6 : Class := { plain "java/util/SequencedCollection" (some 0) with
  accessFlags := 1537
  interfaces := #[4]
  cf := some (fileOf pool6 8 #[] #[] 1537 26 #[28] #[])
  fields := #[]
  methods := #[]
  instanceTypes := #[]
  staticTypes := #[]
  resolved := Array.replicate 57 none
  statics := none }

def pool7 : Array CpInfo := pool [(8, .class_ 10), (1, u "java/util/List"), (92, .class_ 104), (0, u "java/lang/Object"), (15, .class_ 121), (0, u "java/util/SequencedCollection")] 129

/-- java/util/List -/
def k7 : Class := { plain "java/util/List" (some 0) with
  accessFlags := 1537
  interfaces := #[6]
  cf := some (fileOf pool7 8 #[] #[] 1537 103 #[120] #[])
  fields := #[]
  methods := #[]
  instanceTypes := #[]
  staticTypes := #[]
  resolved := Array.replicate 251 none
  statics := none }

def pool8 : Array CpInfo := pool [(1, .methodref 2 3), (0, .class_ 4), (0, .nameAndType 5 6), (0, u "java/util/AbstractCollection"), (0, u "<init>"), (0, u "()V"), (0, .fieldref 8 9), (0, .class_ 10), (0, .nameAndType 11 12), (0, u "java/util/AbstractList"), (0, u "modCount"), (0, u "I"), (64, .class_ 78), (0, u "java/util/AbstractList$Itr"), (3, .class_ 83), (0, u "java/util/AbstractList$ListItr"), (9, .class_ 94), (0, u "java/util/AbstractList$RandomAccessSubList"), (3, .class_ 99), (0, u "java/util/AbstractList$SubList"), (33, .class_ 134), (0, u "java/util/List"), (73, .class_ 209), (0, u "java/util/AbstractList$SubList$1"), (0, .class_ 211), (0, u "java/util/AbstractList$RandomAccessSpliterator")] 6

def k8c0 : Code := { maxStack := 2, maxLocals := 1, code := jdk_39_method_1_code, exceptionTable := #[], attributes := #[] }
def k8m0 : Method := { name := "<init>", desc := "()V", sig := { parameters := [], returnType := none }, accessFlags := 4, code := some k8c0 }
/-- java/util/AbstractList -/
def k8 : Class := { plain "java/util/AbstractList" (some 5) with
  accessFlags := 1057
  interfaces := #[7]
  cf := some (fileOf pool8 8 #[.nestMembers #[93, 98, 208, 210, 82, 77]] #[{ accessFlags := 4, nameIndex := 5, descriptorIndex := 6, attributes := #[] }] 1057 2 #[133] #[{ accessFlags := 132, nameIndex := 11, descriptorIndex := 12, attributes := #[] }])
  fields := #[{ name := "modCount", type := .int, accessFlags := 132, slot := 0, constantValue := 0 }]
  methods := #[k8m0]
  instanceTypes := #[.int]
  staticTypes := #[]
  resolved := Array.replicate 218 none
  statics := none }

def pool9 : Array CpInfo := pool [(1, .class_ 2), (0, u "java/util/RandomAccess"), (0, .class_ 4), (0, u "java/lang/Object")] 2

/-- java/util/RandomAccess -/
def k9 : Class := { plain "java/util/RandomAccess" (some 0) with
  accessFlags := 1537
  interfaces := #[]
  cf := some (fileOf pool9 1 #[] #[] 1537 3 #[] #[])
  fields := #[]
  methods := #[]
  instanceTypes := #[]
  staticTypes := #[]
  resolved := Array.replicate 7 none
  statics := none }

def pool10 : Array CpInfo := pool [(1, .class_ 2), (0, u "java/lang/Cloneable"), (0, .class_ 4), (0, u "java/lang/Object")] 2

/-- java/lang/Cloneable -/
def k10 : Class := { plain "java/lang/Cloneable" (some 0) with
  accessFlags := 1537
  interfaces := #[]
  cf := some (fileOf pool10 1 #[] #[] 1537 3 #[] #[])
  fields := #[]
  methods := #[]
  instanceTypes := #[]
  staticTypes := #[]
  resolved := Array.replicate 7 none
  statics := none }

def pool11 : Array CpInfo := pool [(1, .class_ 2), (0, u "java/io/Serializable"), (0, .class_ 4), (0, u "java/lang/Object")] 2

/-- java/io/Serializable -/
def k11 : Class := { plain "java/io/Serializable" (some 0) with
  accessFlags := 1537
  interfaces := #[]
  cf := some (fileOf pool11 1 #[] #[] 1537 3 #[] #[])
  fields := #[]
  methods := #[]
  instanceTypes := #[]
  staticTypes := #[]
  resolved := Array.replicate 7 none
  statics := none }

def pool12 : Array CpInfo := pool [(1, .methodref 2 3), (0, .class_ 4), (0, .nameAndType 5 6), (0, u "java/util/AbstractList"), (0, u "<init>"), (0, u "()V"), (2, .fieldref 10 11), (0, .class_ 12), (0, .nameAndType 13 14), (0, u "java/util/ArrayList"), (0, u "elementData"), (0, u "[Ljava/lang/Object;"), (2, u "EMPTY_ELEMENTDATA"), (21, .fieldref 10 40), (0, .nameAndType 41 14), (0, u "DEFAULTCAPACITY_EMPTY_ELEMENTDATA"), (8, u "size"), (0, u "I"), (96, .class_ 149), (0, u "java/util/List"), (112, .class_ 263), (0, u "java/util/ArrayList$ListItr"), (3, .class_ 268), (0, u "java/util/ArrayList$Itr"), (7, .class_ 277), (0, u "java/util/ArrayList$SubList"), (12, .class_ 291), (0, u "java/util/ArrayList$ArrayListSpliterator"), (37, .class_ 330), (0, u "java/util/RandomAccess"), (0, .class_ 332), (0, u "java/lang/Cloneable"), (0, .class_ 334), (0, u "java/io/Serializable"), (0, u "serialVersionUID"), (0, u "J"), (3, u "DEFAULT_CAPACITY"), (159, .class_ 501), (0, u "java/util/ArrayList$SubList$2"), (0, .class_ 503), (0, u "java/util/ArrayList$SubList$1")] 5

def k12c0 : Code := { maxStack := 2, maxLocals := 1, code := jdk_38_method_2_code, exceptionTable := #[], attributes := #[] }
def k12m0 : Method := { name := "<init>", desc := "()V", sig := { parameters := [], returnType := none }, accessFlags := 1, code := some k12c0 }
/-- java/util/ArrayList -/
def k12 : Class := { plain "java/util/ArrayList" (some 8) with
  accessFlags := 33
  interfaces := #[7, 9, 10, 11]
  cf := some (fileOf pool12 10 #[.nestMembers #[290, 276, 500, 502, 262, 267]] #[{ accessFlags := 1, nameIndex := 5, descriptorIndex := 6, attributes := #[] }] 33 2 #[148, 329, 331, 333] #[{ accessFlags := 26, nameIndex := 335, descriptorIndex := 336, attributes := #[] }, { accessFlags := 26, nameIndex := 340, descriptorIndex := 51, attributes := #[] }, { accessFlags := 26, nameIndex := 17, descriptorIndex := 14, attributes := #[] }, { accessFlags := 26, nameIndex := 41, descriptorIndex := 14, attributes := #[] }, { accessFlags := 128, nameIndex := 13, descriptorIndex := 14, attributes := #[] }, { accessFlags := 2, nameIndex := 50, descriptorIndex := 51, attributes := #[] }])
  fields := #[{ name := "serialVersionUID", type := .long, accessFlags := 26, slot := 0, constantValue := 0 }, { name := "DEFAULT_CAPACITY", type := .int, accessFlags := 26, slot := 1, constantValue := 0 }, { name := "EMPTY_ELEMENTDATA", type := (.array (.object "java/lang/Object")), accessFlags := 26, slot := 2, constantValue := 0 }, { name := "DEFAULTCAPACITY_EMPTY_ELEMENTDATA", type := (.array (.object "java/lang/Object")), accessFlags := 26, slot := 3, constantValue := 0 }, { name := "elementData", type := (.array (.object "java/lang/Object")), accessFlags := 128, slot := 1, constantValue := 0 }, { name := "size", type := .int, accessFlags := 2, slot := 2, constantValue := 0 }]
  methods := #[k12m0]
  instanceTypes := #[.int, (.array (.object "java/lang/Object")), .int]
  staticTypes := #[.long, .int, (.array (.object "java/lang/Object")), (.array (.object "java/lang/Object"))]
  resolved := Array.replicate 509 none
  statics := some 0 }

def pool13 : Array CpInfo := pool [(1, .methodref 2 3), (0, .class_ 4), (0, .nameAndType 5 6), (0, u "java/lang/Object"), (0, u "<init>"), (0, u "()V"), (0, .class_ 8), (0, u "java/lang/Record")] 13

def k13c0 : Code := { maxStack := 1, maxLocals := 1, code := jdk_30_method_1_code, exceptionTable := #[], attributes := #[] }
def k13m0 : Method := { name := "<init>", desc := "()V", sig := { parameters := [], returnType := none }, accessFlags := 4, code := some k13c0 }
/-- java/lang/Record -/
def k13 : Class := { plain "java/lang/Record" (some 0) with
  accessFlags := 1057
  interfaces := #[]
  cf := some (fileOf pool13 7 #[] #[{ accessFlags := 4, nameIndex := 5, descriptorIndex := 6, attributes := #[] }] 1057 2 #[] #[])
  fields := #[]
  methods := #[k13m0]
  instanceTypes := #[]
  staticTypes := #[]
  resolved := Array.replicate 22 none
  statics := none }

def pool14 : Array CpInfo := pool [(1, .methodref 2 3), (0, .class_ 4), (0, .nameAndType 5 6), (0, u "java/lang/Record"), (0, u "<init>"), (0, u "()V"), (0, .fieldref 8 9), (0, .class_ 10), (0, .nameAndType 11 12), (0, u "com/example/leadout/leadout/bench/Load$Report"), (0, u "door"), (0, u "Ljava/lang/String;"), (0, .fieldref 8 14), (0, .nameAndType 15 16), (0, u "clients"), (0, u "I"), (0, .fieldref 8 18), (0, .nameAndType 19 16), (0, u "pairsEach"), (0, .fieldref 8 21), (0, .nameAndType 22 23), (0, u "roundTrips"), (0, u "[J"), (0, .fieldref 8 25), (0, .nameAndType 26 16), (0, u "errors"), (0, .fieldref 8 28), (0, .nameAndType 29 30), (0, u "firstErrors"), (0, u "Ljava/util/List;"), (0, .fieldref 8 32), (0, .nameAndType 33 34), (0, u "nanos"), (0, u "J"), (0, .double 4741671816366391296), (55, u "pairsPerSecond"), (0, u "()D"), (80, u "(Ljava/lang/String;II[JILjava/util/List;J)V"), (24, .class_ 199), (0, u "com/example/leadout/leadout/bench/Load")] 41

def k14c0 : Code := { maxStack := 3, maxLocals := 9, code := prog_46_method_1_code, exceptionTable := #[], attributes := #[] }
def k14m0 : Method := { name := "<init>", desc := "(Ljava/lang/String;II[JILjava/util/List;J)V", sig := { parameters := [(.object "java/lang/String"), .int, .int, (.array .long), .int, (.object "java/util/List"), .long], returnType := none }, accessFlags := 0, code := some k14c0 }
def k14c1 : Code := { maxStack := 6, maxLocals := 1, code := prog_46_method_2_code, exceptionTable := #[], attributes := #[] }
def k14m1 : Method := { name := "pairsPerSecond", desc := "()D", sig := { parameters := [], returnType := some .double }, accessFlags := 0, code := some k14c1 }
/-- com/example/leadout/leadout/bench/Load$Report -/
def k14 : Class := { plain "com/example/leadout/leadout/bench/Load$Report" (some 13) with
  accessFlags := 48
  interfaces := #[]
  cf := some (fileOf pool14 8 #[.nestHost 198] #[{ accessFlags := 0, nameIndex := 5, descriptorIndex := 173, attributes := #[] }, { accessFlags := 0, nameIndex := 91, descriptorIndex := 92, attributes := #[] }] 48 2 #[] #[{ accessFlags := 18, nameIndex := 11, descriptorIndex := 12, attributes := #[] }, { accessFlags := 18, nameIndex := 15, descriptorIndex := 16, attributes := #[] }, { accessFlags := 18, nameIndex := 19, descriptorIndex := 16, attributes := #[] }, { accessFlags := 18, nameIndex := 22, descriptorIndex := 23, attributes := #[] }, { accessFlags := 18, nameIndex := 26, descriptorIndex := 16, attributes := #[] }, { accessFlags := 18, nameIndex := 29, descriptorIndex := 30, attributes := #[] }, { accessFlags := 18, nameIndex := 33, descriptorIndex := 34, attributes := #[] }])
  fields := #[{ name := "door", type := (.object "java/lang/String"), accessFlags := 18, slot := 0, constantValue := 0 }, { name := "clients", type := .int, accessFlags := 18, slot := 1, constantValue := 0 }, { name := "pairsEach", type := .int, accessFlags := 18, slot := 2, constantValue := 0 }, { name := "roundTrips", type := (.array .long), accessFlags := 18, slot := 3, constantValue := 0 }, { name := "errors", type := .int, accessFlags := 18, slot := 4, constantValue := 0 }, { name := "firstErrors", type := (.object "java/util/List"), accessFlags := 18, slot := 5, constantValue := 0 }, { name := "nanos", type := .long, accessFlags := 18, slot := 6, constantValue := 0 }]
  methods := #[k14m0, k14m1]
  instanceTypes := #[(.object "java/lang/String"), .int, .int, (.array .long), .int, (.object "java/util/List"), .long]
  staticTypes := #[]
  resolved := Array.replicate 241 none
  statics := none }

def pool15 : Array CpInfo := pool [(1, .class_ 2), (0, u "java/lang/Comparable"), (0, .class_ 4), (0, u "java/lang/Object")] 7

/-- java/lang/Comparable -/
def k15 : Class := { plain "java/lang/Comparable" (some 0) with
  accessFlags := 1537
  interfaces := #[]
  cf := some (fileOf pool15 1 #[] #[] 1537 3 #[] #[])
  fields := #[]
  methods := #[]
  instanceTypes := #[]
  staticTypes := #[]
  resolved := Array.replicate 12 none
  statics := none }

def pool16 : Array CpInfo := pool [(2, .class_ 4), (1, u "java/lang/CharSequence"), (42, .class_ 48), (0, u "java/lang/CharSequence$1CodePointIterator"), (10, .class_ 60), (0, u "java/lang/CharSequence$1CharIterator"), (5, .class_ 67), (0, u "java/lang/Object")] 63

/-- java/lang/CharSequence -/
def k16 : Class := { plain "java/lang/CharSequence" (some 0) with
  accessFlags := 1537
  interfaces := #[]
  cf := some (fileOf pool16 2 #[.nestMembers #[47, 59]] #[] 1537 66 #[] #[])
  fields := #[]
  methods := #[]
  instanceTypes := #[]
  staticTypes := #[]
  resolved := Array.replicate 131 none
  statics := none }

def pool17 : Array CpInfo := pool [(1, .class_ 2), (0, u "java/lang/constant/Constable"), (0, .class_ 4), (0, u "java/lang/Object")] 6

/-- java/lang/constant/Constable -/
def k17 : Class := { plain "java/lang/constant/Constable" (some 0) with
  accessFlags := 1537
  interfaces := #[]
  cf := some (fileOf pool17 1 #[] #[] 1537 3 #[] #[])
  fields := #[]
  methods := #[]
  instanceTypes := #[]
  staticTypes := #[]
  resolved := Array.replicate 11 none
  statics := none }

def pool18 : Array CpInfo := pool [(1, .class_ 2), (0, u "java/lang/constant/ConstantDesc"), (0, .class_ 4), (0, u "java/lang/Object")] 32

/-- java/lang/constant/ConstantDesc -/
def k18 : Class := { plain "java/lang/constant/ConstantDesc" (some 0) with
  accessFlags := 1537
  interfaces := #[]
  cf := some (fileOf pool18 1 #[] #[] 1537 3 #[] #[])
  fields := #[]
  methods := #[]
  instanceTypes := #[]
  staticTypes := #[]
  resolved := Array.replicate 37 none
  statics := none }

def pool19 : Array CpInfo := pool [(2, .class_ 4), (1, u "java/lang/Object"), (0, u "<init>"), (0, u "()V"), (3, .class_ 12), (1, u "java/lang/String"), (0, u "value"), (0, u "[B"), (2, u "coder"), (0, u "B"), (2, u "hash"), (0, u "I"), (2, u "hashIsZero"), (0, u "Z"), (13, u "COMPACT_STRINGS"), (534, .class_ 576), (0, u "java/lang/CharSequence"), (22, u "CASE_INSENSITIVE_ORDER"), (0, u "Ljava/util/Comparator;"), (500, u "serialPersistentFields"), (0, u "[Ljava/io/ObjectStreamField;"), (0, .class_ 1104), (0, u "java/lang/String$CaseInsensitiveComparator"), (1, .class_ 1107), (0, u "java/io/Serializable"), (0, .class_ 1109), (0, u "java/lang/Comparable"), (0, .class_ 1111), (0, u "java/lang/constant/Constable"), (0, .class_ 1113), (0, u "java/lang/constant/ConstantDesc"), (2, u "serialVersionUID"), (0, u "J"), (3, u "REPL"), (0, u "C"), (2, u "LATIN1"), (1, u "UTF16")] 323

def k19m0 : Method := { name := "<init>", desc := "()V", sig := { parameters := [], returnType := none }, accessFlags := 1, code := none }
/-- java/lang/String -/
def k19 : Class := { plain "java/lang/String" (some 0) with
  accessFlags := 49
  interfaces := #[11, 15, 16, 17, 18]
  cf := some (fileOf pool19 10 #[.nestMembers #[1103]] #[{ accessFlags := 1, nameIndex := 5, descriptorIndex := 6, attributes := #[] }] 49 2 #[1106, 1108, 575, 1110, 1112] #[{ accessFlags := 18, nameIndex := 13, descriptorIndex := 14, attributes := #[] }, { accessFlags := 18, nameIndex := 17, descriptorIndex := 18, attributes := #[] }, { accessFlags := 2, nameIndex := 21, descriptorIndex := 22, attributes := #[] }, { accessFlags := 2, nameIndex := 25, descriptorIndex := 26, attributes := #[] }, { accessFlags := 26, nameIndex := 1116, descriptorIndex := 1117, attributes := #[] }, { accessFlags := 24, nameIndex := 40, descriptorIndex := 26, attributes := #[] }, { accessFlags := 26, nameIndex := 1101, descriptorIndex := 1102, attributes := #[] }, { accessFlags := 26, nameIndex := 1121, descriptorIndex := 1122, attributes := #[] }, { accessFlags := 25, nameIndex := 599, descriptorIndex := 600, attributes := #[] }, { accessFlags := 24, nameIndex := 1125, descriptorIndex := 18, attributes := #[] }, { accessFlags := 24, nameIndex := 1127, descriptorIndex := 18, attributes := #[] }])
  fields := #[{ name := "value", type := (.array .byte), accessFlags := 18, slot := 0, constantValue := 0 }, { name := "coder", type := .byte, accessFlags := 18, slot := 1, constantValue := 0 }, { name := "hash", type := .int, accessFlags := 2, slot := 2, constantValue := 0 }, { name := "hashIsZero", type := .boolean, accessFlags := 2, slot := 3, constantValue := 0 }, { name := "serialVersionUID", type := .long, accessFlags := 26, slot := 0, constantValue := 0 }, { name := "COMPACT_STRINGS", type := .boolean, accessFlags := 24, slot := 1, constantValue := 0 }, { name := "serialPersistentFields", type := (.array (.object "java/io/ObjectStreamField")), accessFlags := 26, slot := 2, constantValue := 0 }, { name := "REPL", type := .char, accessFlags := 26, slot := 3, constantValue := 0 }, { name := "CASE_INSENSITIVE_ORDER", type := (.object "java/util/Comparator"), accessFlags := 25, slot := 4, constantValue := 0 }, { name := "LATIN1", type := .byte, accessFlags := 24, slot := 5, constantValue := 0 }, { name := "UTF16", type := .byte, accessFlags := 24, slot := 6, constantValue := 0 }]
  methods := #[k19m0]
  instanceTypes := #[(.array .byte), .byte, .int, .boolean]
  staticTypes := #[.long, .boolean, (.array (.object "java/io/ObjectStreamField")), .char, (.object "java/util/Comparator"), .byte, .byte]
  resolved := Array.replicate 1451 none
  statics := none }

/-- the primitive byte -/
def k20 : Class := { plain "byte" none with kind := .primitive 'B', accessFlags := 0x411 }
/-- [B -/
def k21 : Class := { plain "[B" (some 0) with kind := .array 20 .byte, interfaces := #[10, 11], accessFlags := 1041 }

/-- the primitive int -/
def k22 : Class := { plain "int" none with kind := .primitive 'I', accessFlags := 0x411 }
/-- [I -/
def k23 : Class := { plain "[I" (some 0) with kind := .array 22 .int, interfaces := #[10, 11], accessFlags := 1041 }

/-- the primitive long -/
def k24 : Class := { plain "long" none with kind := .primitive 'J', accessFlags := 0x411 }
/-- [J -/
def k25 : Class := { plain "[J" (some 0) with kind := .array 24 .long, interfaces := #[10, 11], accessFlags := 1041 }

/-- [Ljava/lang/Object; -/
def k26 : Class := { plain "[Ljava/lang/Object;" (some 0) with kind := .array 0 (.object "java/lang/Object"), interfaces := #[10, 11], accessFlags := 1041 }

def heap : Heap := #[{ cls := 12, slots := #[.long 0, .int 0, .ref 1, .ref 2], vm := .statics 12 },
  { cls := 26, slots := #[], vm := .none },
  { cls := 26, slots := #[], vm := .none }]
def classes : Array Class := #[k0, k1, k2, k3, k4, k5, k6, k7, k8, k9, k10, k11, k12, k13, k14, k15, k16, k17, k18, k19, k20, k21, k22, k23, k24, k25, k26]
def interned : List (Array UInt16 × Addr) := []
def slotsUsed : Nat := 4
def theMethod : MethodId := ⟨1, 1⟩
def args0 : Array Value := #[.int 35, .long 5, .long 7, .long 8]
def aboutOver (below : List Frame) : State where
  vm := { classes := classes, interned := interned.toArray }
  heap := heap
  slotsUsed := slotsUsed
  threads := #[{ frames := .invoking theMethod args0 :: below }]
def below0 : List Frame := [.native { method := ⟨0, 0⟩, args := #[] }]
def about1 : State := aboutOver below0
def p0 : Program := .bare "" "" ""
def e0 : Env := launch0.env 0 0 0
theorem w_frames : about1.frames = Frame.invoking theMethod args0 :: below0 := rfl
set_option maxRecDepth 65536 in
theorem w_args : argsFit about1.vm theMethod args0 = true := by decide +kernel
set_option maxRecDepth 65536 in
theorem w_heap : heapFits about1 = true := by decide +kernel
set_option maxRecDepth 65536 in
theorem w_runnable : about1.curStatus? = some .runnable := by decide +kernel
set_option maxRecDepth 65536 in
theorem w_alone : about1.alone = true := by decide +kernel
set_option maxRecDepth 65536 in
theorem w_named : about1.methodNamed? x = some theMethod := by decide +kernel
set_option maxRecDepth 65536 in
theorem w_hears : about1.hears theMethod below0 = true := by decide +kernel
set_option maxRecDepth 65536 in
theorem w_ripe : about1.ripe theMethod args0 below0 = true := by decide +kernel
theorem w_running : about1.status = .running := rfl
set_option maxRecDepth 65536 in
theorem w_room : about1.hasRoom e0.platform room_1 = true :=
  launch0.hasRoom_least _ room_1 (by decide +kernel) (by decide +kernel) (by decide +kernel) (by decide +kernel) (by decide +kernel) (by decide +kernel)
theorem allAtoms_all (ts : List Jvm.Cond) (a : Array Jvm.Value) (st : Jvm.State) : (allAtoms ts).before a st = ts.all (fun c => c.before a st) := by
  induction ts with
  | nil => rfl
  | cons c t ih =>
    show (Jvm.Cond.and c (allAtoms t)).before a st = _
    rw [Jvm.Cond.before_and, ih, List.all_cons]
def words1 : List Jvm.Cond := Jvm.Cond.code x code maxLocals ret :: tables_1
/-- a 'code' word, met by the world's own term for the bytes: nothing is compared byte by byte -/
theorem code_word {y : MethodName} {bytes : ByteArray} {mx : Nat} {rt : Option FieldType} {a : Array Value} {s : State} {m : MethodId} {meth : Method} {c : Code} (h1 : s.methodNamed? y = some m) (h2 : s.vm.method? m = some meth) (h3 : meth.code = some c) (h4 : c.code = bytes)
    (h5 : (c.maxLocals == mx && c.exceptionTable.isEmpty && decide (c.maxStack ≤ mostOperands) && decide (meth.sig.returnType = rt) && !meth.locks && decide (parseMethodDescriptor y.desc = some meth.sig)) = true) : (Jvm.Cond.code y bytes mx rt).before a s = true := by
  simp only [Bool.and_eq_true, beq_iff_eq, Bool.not_eq_true', decide_eq_true_eq] at h5
  obtain ⟨⟨⟨⟨⟨g1, g2⟩, g3⟩, g4⟩, g5⟩, g6⟩ := h5
  simp [Cond.before, Cond.holds, Cond.value, h1, h2, h3, h4, g1, g2, g3, g4, g5, g6]
def isCode : Jvm.Cond → Bool
  | .code _ _ _ _ => true
  | _ => false
theorem all_split {L : List Jvm.Cond} {P : Jvm.Cond → Bool} (h1 : L.all (fun c => isCode c || P c) = true) (h2 : ∀ c ∈ L.filter isCode, P c = true) : L.all P = true := by
  refine List.all_eq_true.mpr fun c hc => ?_
  have h := List.all_eq_true.mp h1 c hc
  rcases Bool.eq_false_or_eq_true (isCode c) with hi | hi
  · exact h2 c (List.mem_filter.mpr ⟨hc, hi⟩)
  · simpa [hi] using h
set_option maxRecDepth 65536 in
theorem w_c0 : (Jvm.Cond.code x code maxLocals ret).before args0 about1 = true := code_word (m := ⟨1, 1⟩) (meth := k1m1) (c := k1c1) (by decide +kernel) rfl rfl rfl (by decide +kernel)
set_option maxRecDepth 65536 in
theorem w_c1 : (Jvm.Cond.code ({ cls := "java/lang/Math", name := "max", desc := "(JJ)J" } : Jvm.MethodName) jdk_29_method_66_code (4 : Nat) (Option.some Jvm.ClassFile.FieldType.long)).before args0 about1 = true := code_word (m := ⟨2, 1⟩) (meth := k2m1) (c := k2c1) (by decide +kernel) rfl rfl rfl (by decide +kernel)
set_option maxRecDepth 65536 in
theorem w_c2 : (Jvm.Cond.code ({ cls := "java/util/ArrayList", name := "<init>", desc := "()V" } : Jvm.MethodName) jdk_38_method_2_code (1 : Nat) (Option.none : Option Jvm.ClassFile.FieldType)).before args0 about1 = true := code_word (m := ⟨12, 0⟩) (meth := k12m0) (c := k12c0) (by decide +kernel) rfl rfl rfl (by decide +kernel)
set_option maxRecDepth 65536 in
theorem w_c3 : (Jvm.Cond.code ({ cls := "java/util/AbstractList", name := "<init>", desc := "()V" } : Jvm.MethodName) jdk_39_method_1_code (1 : Nat) (Option.none : Option Jvm.ClassFile.FieldType)).before args0 about1 = true := code_word (m := ⟨8, 0⟩) (meth := k8m0) (c := k8c0) (by decide +kernel) rfl rfl rfl (by decide +kernel)
set_option maxRecDepth 65536 in
theorem w_c4 : (Jvm.Cond.code ({ cls := "java/util/AbstractCollection", name := "<init>", desc := "()V" } : Jvm.MethodName) jdk_22_method_1_code (1 : Nat) (Option.none : Option Jvm.ClassFile.FieldType)).before args0 about1 = true := code_word (m := ⟨5, 0⟩) (meth := k5m0) (c := k5c0) (by decide +kernel) rfl rfl rfl (by decide +kernel)
set_option maxRecDepth 65536 in
theorem w_c5 : (Jvm.Cond.code ({ cls := "java/lang/Object", name := "<init>", desc := "()V" } : Jvm.MethodName) object_method_1_code (1 : Nat) (Option.none : Option Jvm.ClassFile.FieldType)).before args0 about1 = true := code_word (m := ⟨0, 0⟩) (meth := k0m0) (c := k0c0) (by decide +kernel) rfl rfl rfl (by decide +kernel)
set_option maxRecDepth 65536 in
theorem w_c6 : (Jvm.Cond.code ({ cls := "com/example/leadout/leadout/bench/Load$Report", name := "<init>", desc := "(Ljava/lang/String;II[JILjava/util/List;J)V" } : Jvm.MethodName) prog_46_method_1_code (9 : Nat) (Option.none : Option Jvm.ClassFile.FieldType)).before args0 about1 = true := code_word (m := ⟨14, 0⟩) (meth := k14m0) (c := k14c0) (by decide +kernel) rfl rfl rfl (by decide +kernel)
set_option maxRecDepth 65536 in
theorem w_c7 : (Jvm.Cond.code ({ cls := "java/lang/Record", name := "<init>", desc := "()V" } : Jvm.MethodName) jdk_30_method_1_code (1 : Nat) (Option.none : Option Jvm.ClassFile.FieldType)).before args0 about1 = true := code_word (m := ⟨13, 0⟩) (meth := k13m0) (c := k13c0) (by decide +kernel) rfl rfl rfl (by decide +kernel)
set_option maxRecDepth 65536 in
theorem w_c8 : (Jvm.Cond.code ({ cls := "com/example/leadout/leadout/bench/Load$Report", name := "pairsPerSecond", desc := "()D" } : Jvm.MethodName) prog_46_method_2_code (1 : Nat) (Option.some Jvm.ClassFile.FieldType.double)).before args0 about1 = true := code_word (m := ⟨14, 1⟩) (meth := k14m1) (c := k14c1) (by decide +kernel) rfl rfl rfl (by decide +kernel)
def codes1 : List Jvm.Cond := [Jvm.Cond.code x code maxLocals ret, Jvm.Cond.code ({ cls := "java/lang/Math", name := "max", desc := "(JJ)J" } : Jvm.MethodName) jdk_29_method_66_code (4 : Nat) (Option.some Jvm.ClassFile.FieldType.long), Jvm.Cond.code ({ cls := "java/util/ArrayList", name := "<init>", desc := "()V" } : Jvm.MethodName) jdk_38_method_2_code (1 : Nat) (Option.none : Option Jvm.ClassFile.FieldType), Jvm.Cond.code ({ cls := "java/util/AbstractList", name := "<init>", desc := "()V" } : Jvm.MethodName) jdk_39_method_1_code (1 : Nat) (Option.none : Option Jvm.ClassFile.FieldType), Jvm.Cond.code ({ cls := "java/util/AbstractCollection", name := "<init>", desc := "()V" } : Jvm.MethodName) jdk_22_method_1_code (1 : Nat) (Option.none : Option Jvm.ClassFile.FieldType), Jvm.Cond.code ({ cls := "java/lang/Object", name := "<init>", desc := "()V" } : Jvm.MethodName) object_method_1_code (1 : Nat) (Option.none : Option Jvm.ClassFile.FieldType), Jvm.Cond.code ({ cls := "com/example/leadout/leadout/bench/Load$Report", name := "<init>", desc := "(Ljava/lang/String;II[JILjava/util/List;J)V" } : Jvm.MethodName) prog_46_method_1_code (9 : Nat) (Option.none : Option Jvm.ClassFile.FieldType), Jvm.Cond.code ({ cls := "java/lang/Record", name := "<init>", desc := "()V" } : Jvm.MethodName) jdk_30_method_1_code (1 : Nat) (Option.none : Option Jvm.ClassFile.FieldType), Jvm.Cond.code ({ cls := "com/example/leadout/leadout/bench/Load$Report", name := "pairsPerSecond", desc := "()D" } : Jvm.MethodName) prog_46_method_2_code (1 : Nat) (Option.some Jvm.ClassFile.FieldType.double)]
set_option maxRecDepth 65536 in
theorem codes_eq : words1.filter isCode = codes1 := rfl
theorem w_codes : ∀ c ∈ words1.filter isCode, c.before args0 about1 = true := by
  rw [codes_eq]
  intro c hc
  simp only [codes1, List.mem_cons, List.not_mem_nil, or_false] at hc
  rcases hc with rfl | rfl | rfl | rfl | rfl | rfl | rfl | rfl | rfl
  · exact w_c0
  · exact w_c1
  · exact w_c2
  · exact w_c3
  · exact w_c4
  · exact w_c5
  · exact w_c6
  · exact w_c7
  · exact w_c8
set_option maxRecDepth 65536 in
theorem w_t1 : (words1.take 24).all (fun c => isCode c || c.before args0 about1) = true := by decide +kernel
set_option maxRecDepth 65536 in
theorem w_t2 : ((words1.drop 24).take 24).all (fun c => isCode c || c.before args0 about1) = true := by decide +kernel
set_option maxRecDepth 65536 in
theorem w_t3 : (((words1.drop 24).drop 24).take 24).all (fun c => isCode c || c.before args0 about1) = true := by decide +kernel
set_option maxRecDepth 65536 in
theorem w_t4 : (((words1.drop 24).drop 24).drop 24).all (fun c => isCode c || c.before args0 about1) = true := by decide +kernel
theorem w_tables : (allAtoms (Jvm.Cond.code x code maxLocals ret :: tables_1)).before args0 about1 = true := by
  rw [allAtoms_all]
  show words1.all (fun c => c.before args0 about1) = true
  refine all_split ?_ w_codes
  rw [← List.take_append_drop 24 words1, List.all_append, w_t1, ← List.take_append_drop 24 (words1.drop 24), List.all_append, w_t2, ← List.take_append_drop 24 ((words1.drop 24).drop 24), List.all_append, w_t3, w_t4]
  rfl
set_option maxRecDepth 65536 in
theorem w_rest : rest_1_c.before args0 about1 = true := by decide +kernel
set_option maxRecDepth 65536 in
theorem w_case : (Jvm.Cond.and given_1 narrow_1).before args0 about1 = true := by decide +kernel
theorem w_applies : (headSpec (Jvm.Cond.code x code maxLocals ret :: tables_1) room_1).applies x e0.platform about1 = true :=
  (Spec.applies_iff w_frames).mpr ⟨w_running, w_runnable, w_alone, w_named, w_hears, w_ripe, w_room, w_tables⟩
theorem atStart : AtStart classFile x code maxLocals ret World_1 tables_1 room_1 Calls_1 rest_1 Pre_1 launch0 p0 e0 about1 theMethod args0 below0 :=
  ⟨lists_1, trivial, launch0.admits_env _ _ _, launch0.least_env, fairChoices_fair.cas, fairChoices_fair.clock, w_frames, w_args, w_heap, w_applies, trivial, w_rest, w_case⟩
end start1
theorem witness_1 : WitnessClaimed_1 := ⟨start1.p0, start1.e0, start1.about1, start1.theMethod, start1.args0, start1.below0, start1.atStart⟩
end Jvm.Pilot.@@N@@
