import JvmDerived
import JvmDerived.Pilot.@@N@@Statement
import JvmDerived.Pilot.@@N@@Code
set_option linter.unusedVariables false
set_option linter.unusedSimpArgs false
namespace Jvm.RoadKit
open Sem ClassFile Op Lib Jvm.Stand Jvm.Free Jvm.LawKit
section New
variable {p : Program} {l : Launch} {e : Env} {R : Room} {s : State} {m : MethodId} {args : Array Value} {below : List Frame} {meth : Method} {c : Code} {T : State} {locs : List Loc} {cells slots : Nat}
theorem retI (X : Stand p l e R s m args below meth c T locs cells slots) (hx : p.tables.exec = Jvm.exec) {pc : Nat} {Ls : Array Slot} {z : Int32} {rest : List Value} (hret : meth.sig.returnType = some .int) (hd : decode c.code pc = .ok (.ireturn, 1)) {fs : List Frame}
    (hl : ∀ (f : JFrame) (acts : List Action), f.method = m → f.locked = none → f.entered = [] → (doReturn e (T.setTop f) acts (some (.int z))).1 = T.setFrames fs) : Steps p.tables e below (T.setTop (mkF m pc Ls (.int z :: rest))) (T.setFrames fs) := by
  have hm' : T.vm.method? m = some meth := X.method'
  have hn : narrow .int (.int z) = .int z := rfl
  show Steps p.tables e below (T.setTop { method := m, pc := pc, locals := Ls, stack := _ :: rest, locked := none }) _
  jvm_step X.here [X.here.top, hx, hd, hm', hret, hn]
  first | (intro acts; rw [hl _ acts rfl rfl rfl]) | rw [hl _ _ rfl rfl rfl]
  exact Steps.refl _
end New
end Jvm.RoadKit
namespace Jvm.Pilot.@@N@@
open Jvm Jvm.ClassFile Sem Op Lib Jvm.Free Jvm.Stand Jvm.LawKit Jvm.RoadKit Bundle Jvm.Pilot.@@N@@.Jvm.D
/-! The quotient of two whole numbers as doubles: the ratio, rounded; and where it lies against a number of the format. -/
theorem own_cancel {x y u v w : Nat} (h : x * 2 ^ (u + w) = y * 2 ^ (v + w)) : x * 2 ^ u = y * 2 ^ v := by
  rw [Nat.pow_add, Nat.pow_add, ← Nat.mul_assoc, ← Nat.mul_assoc] at h
  exact Nat.eq_of_mul_eq_mul_right (Nat.two_pow_pos w) h
open Jvm.FP.Core in
theorem own_ratio {a d : Int64} (ha : Small53 a) (hd : Small53 d) (h0 : d.toInt ≠ 0) :
    val64 (FP.ddiv (FP.l2d a) (FP.l2d d)) = roundRatio b64 (decide (a.toInt < 0) != decide (d.toInt < 0)) a.toInt.natAbs d.toInt.natAbs 0 := by
  have e1 : val64 (FP.ddiv (FP.l2d a) (FP.l2d d)) = quotient b64 (val64 (FP.l2d a)) (val64 (FP.l2d d)) := val64_ddiv _ _
  rw [e1]
  obtain ⟨c, q, hx⟩ := l2d_shape a
  obtain ⟨c', q', hy⟩ := l2d_shape d
  have wx : Whole a.toInt (val64 (FP.l2d a)) := l2d_whole ha
  have wy : Whole d.toInt (val64 (FP.l2d d)) := l2d_whole hd
  have hx' : val64 (FP.l2d a) = .fin (decide (a.toInt < 0)) c q := hx
  have hy' : val64 (FP.l2d d) = .fin (decide (d.toInt < 0)) c' q' := hy
  rw [hx'] at wx ⊢
  rw [hy'] at wy ⊢
  have n1 := whole_natAbs wx
  have n2 := whole_natAbs wy
  have c0 : c' ≠ 0 := fun z => h0 ((whole_zero wy).mp z)
  have d0 : d.toInt.natAbs ≠ 0 := fun z => h0 (Int.natAbs_eq_zero.mp z)
  have e2 : quotient b64 (.fin (decide (a.toInt < 0)) c q) (.fin (decide (d.toInt < 0)) c' q') = roundRatio b64 (decide (a.toInt < 0) != decide (d.toInt < 0)) c c' (q - q') := by
    simp only [quotient, if_neg c0]
  rw [e2]
  refine roundRatio_congr (Nat.pos_of_ne_zero c0) (Nat.pos_of_ne_zero d0) ?_
  generalize a.toInt.natAbs = A at *
  generalize d.toInt.natAbs = D at *
  have w1 : q.toNat + (-q').toNat = (q - q' - 0).toNat + (min (q.toNat + (-q').toNat) ((-q).toNat + q'.toNat)) := by omega
  have w2 : (-q).toNat + q'.toNat = (0 - (q - q')).toNat + (min (q.toNat + (-q').toNat) ((-q).toNat + q'.toNat)) := by omega
  apply own_cancel (w := min (q.toNat + (-q').toNat) ((-q).toNat + q'.toNat))
  rw [← w1, ← w2, Nat.pow_add, Nat.pow_add]
  generalize 2 ^ q.toNat = P at *
  generalize 2 ^ (-q).toNat = M at *
  generalize 2 ^ q'.toNat = P' at *
  generalize 2 ^ (-q').toNat = M' at *
  calc c * D * (P * M') = (c * P) * (D * M') := by ac_rfl
    _ = (A * M) * (c' * P') := by rw [n1, n2]
    _ = A * c' * (M * P') := by ac_rfl
open Jvm.FP.Core in
theorem own_zle {s : Bool} {A B c k : Nat} (hB : 0 < B) (hf : Jvm.FP.Core.fits b64 (.fin false c ((k : Int) - 1074))) (h : A * 2 ^ 1074 ≤ c * 2 ^ k * B) : zmag b64 (roundRatio b64 s A B 0) ≤ c * 2 ^ k := by
  have z : zmag b64 (.fin false c ((k : Int) - 1074)) = c * 2 ^ k := by
    show c * 2 ^ ((k : Int) - 1074 - b64.qmin).toNat = _
    have : ((k : Int) - 1074 - b64.qmin).toNat = k := by
      have : b64.qmin = -1074 := by decide
      rw [this]; omega
    rw [this]
  rw [← z]
  refine zmag_roundRatio_le good_b64 (e0 := -1074) hB hf (by simp) (by decide) (by decide) ?_
  rw [z]
  have e : (b64.qmin - -1074).toNat = 0 := by decide
  rw [e]
  show A * 2 ^ (0 - (-1074 : Int)).toNat ≤ _
  have e' : (0 - (-1074 : Int)).toNat = 1074 := by decide
  rw [e']; simpa using h
open Jvm.FP.Core in
theorem own_zge {s : Bool} {A B c k : Nat} (hB : 0 < B) (hf : Jvm.FP.Core.fits b64 (.fin false c ((k : Int) - 1074))) (h : c * 2 ^ k * B ≤ A * 2 ^ 1074) : c * 2 ^ k ≤ zmag b64 (roundRatio b64 s A B 0) := by
  have z : zmag b64 (.fin false c ((k : Int) - 1074)) = c * 2 ^ k := by
    show c * 2 ^ ((k : Int) - 1074 - b64.qmin).toNat = _
    have : ((k : Int) - 1074 - b64.qmin).toNat = k := by
      have : b64.qmin = -1074 := by decide
      rw [this]; omega
    rw [this]
  rw [← z]
  refine zmag_roundRatio_ge good_b64 (e0 := -1074) hB hf (by decide) (by decide) ?_
  rw [z]
  have e : (b64.qmin - -1074).toNat = 0 := by decide
  rw [e]
  show _ ≤ A * 2 ^ (0 - (-1074 : Int)).toNat
  have e' : (0 - (-1074 : Int)).toNat = 1074 := by decide
  rw [e']; simpa using h
open Jvm.FP.Core in
/-- the order of a rounded ratio and a number of the format -/
theorem own_dcmp {x y : UInt64} {s : Bool} {A B c k : Nat} (hB : 0 < B) (hx : val64 x = roundRatio b64 s A B 0) (hy : val64 y = .fin false c ((k : Int) - 1074)) :
    FP.dcmp x y = some (compare (signed s (zmag b64 (roundRatio b64 s A B 0))) ((c * 2 ^ k : Nat) : Int)) := by
  have hfy := val64_fits y
  have h1 : FP.dcmp x y = order (val64 x) (val64 y) := rfl
  have z : zmag b64 (.fin false c ((k : Int) - 1074)) = c * 2 ^ k := by
    show c * 2 ^ ((k : Int) - 1074 - b64.qmin).toNat = _
    have : ((k : Int) - 1074 - b64.qmin).toNat = k := by
      have : b64.qmin = -1074 := by decide
      rw [this]; omega
    rw [this]
  rw [h1, order_zval good_b64 (val64_fits x) hfy (by rw [hx]; exact roundRatio_ne_nan _ _ _ _ _) (by rw [hy]; simp), hx, hy]
  congr 2
  · show signed (sgn _) _ = _
    rw [sgn_roundRatio]
  · show signed false _ = _
    rw [z]; rfl
def own_adm (d : UInt64) : Int32 := if (cmpValue (FP.dcmp d FP.dconst0) .l) < (0 : Int32) then (0 : Int32) else if (0 : Int32) < (cmpValue (FP.dcmp d FP.dconst1) .g) then (0 : Int32) else (1 : Int32)
def own_dr (d : Int32) : Prop := (1 ≤ d.toInt ∧ d.toInt ≤ 1024) ∨ (-1024 ≤ d.toInt ∧ d.toInt ≤ -1)
theorem own_dr_of {d m p : Int32} (h : d = if (p &&& 1024) = 0 then m else (-m)) (hm : m = (p &&& 1023) + 1) : own_dr d := by
  have b : (p &&& 1023).toBitVec.toNat ≤ 1023 := by
    rw [Int32.toBitVec_and, BitVec.toNat_and]
    exact Nat.and_le_right
  have i : 0 ≤ (p &&& 1023).toInt ∧ (p &&& 1023).toInt ≤ 1023 := by
    show 0 ≤ (p &&& 1023).toBitVec.toInt ∧ (p &&& 1023).toBitVec.toInt ≤ 1023
    rw [BitVec.toInt_eq_toNat_of_lt (by omega)]; omega
  have o : (1 : Int32).toInt = 1 := rfl
  have m1 : m.toInt = (p &&& 1023).toInt + 1 := by rw [hm, Int32.toInt_add, o]; apply Int.bmod_eq_of_le <;> omega
  have m2 : (-m).toInt = -m.toInt := by rw [Int32.toInt_neg]; apply Int.bmod_eq_of_le <;> omega
  unfold own_dr
  by_cases q : (p &&& 1024) = 0
  · rw [h, if_pos q]; omega
  · rw [h, if_neg q]; omega
open Jvm.FP.Core in
theorem own_sm (x : Int32) : Small53 x.toInt64 := by
  have := x.toInt_lt; have := x.le_toInt
  unfold Small53
  rw [Int32.toInt_toInt64]; omega
open Jvm.FP.Core in
theorem own_val (a : Int32) {d : Int32} (hd : own_dr d) : val64 (FP.ddiv (FP.i2d a) (FP.i2d d)) = roundRatio b64 (decide (a.toInt < 0) != decide (d.toInt < 0)) a.toInt.natAbs d.toInt.natAbs 0 := by
  have e1 : FP.i2d a = FP.l2d a.toInt64 := i2d_w a
  have e2 : FP.i2d d = FP.l2d d.toInt64 := i2d_w d
  rw [e1, e2, own_ratio (own_sm a) (own_sm d) (by rw [Int32.toInt_toInt64]; unfold own_dr at hd; omega), Int32.toInt_toInt64, Int32.toInt_toInt64]
open Jvm.FP.Core in
theorem own_nn (a : Int32) {d : Int32} (hd : own_dr d) : Jvm.Free.Fl.NoNaN64 (FP.ddiv (FP.i2d a) (FP.i2d d)) := by
  have h : val64 (FP.ddiv (FP.i2d a) (FP.i2d d)) ≠ .nan := by rw [own_val a hd]; exact roundRatio_ne_nan _ _ _ _ _
  exact Jvm.Free.Fl.val64_no.mpr h
theorem own_cl (x y : Int) : (cmpValue (some (compare x y)) .l) < (0 : Int32) ↔ x < y := by
  simp only [compare, compareOfLessAndEq]
  by_cases h : x < y
  · rw [if_pos h]; simp [h]; decide
  · rw [if_neg h]
    by_cases e : x = y
    · rw [if_pos e]; simp [h]; decide
    · rw [if_neg e]; simp [h]; decide
theorem own_cg (x y : Int) : (0 : Int32) < (cmpValue (some (compare x y)) .g) ↔ y < x := by
  simp only [compare, compareOfLessAndEq]
  by_cases h : x < y
  · rw [if_pos h]
    have : ¬ y < x := by omega
    simp [this]; decide
  · rw [if_neg h]
    by_cases e : x = y
    · rw [if_pos e]
      have : ¬ y < x := by omega
      simp [this]; decide
    · rw [if_neg e]
      have : y < x := by omega
      simp [this]; decide
open Jvm.FP.Core in
theorem own_law (a : Int32) {d : Int32} (hd : own_dr d) : own_adm (FP.ddiv (FP.i2d a) (FP.i2d d)) = if (0 : Int32) < d then (if a < 0 then 0 else if d < a then 0 else 1) else (if (0 : Int32) < a then 0 else if a < d then 0 else 1) := by
  have hv := own_val a hd
  have hB : 0 < d.toInt.natAbs := by unfold own_dr at hd; omega
  have hB2 : d.toInt.natAbs ≤ 1024 := by unfold own_dr at hd; omega
  have v0 : val64 FP.dconst0 = .fin false 0 (((0 : Nat) : Int) - 1074) := by decide +kernel
  have v1 : val64 FP.dconst1 = .fin false (2 ^ 52) (((1022 : Nat) : Int) - 1074) := by decide +kernel
  have c0 := own_dcmp hB hv v0
  have c1 := own_dcmp hB hv v1
  have z0 : (0 : Int32).toInt = 0 := rfl
  -- where the magnitude lies
  have le1 : a.toInt.natAbs ≤ d.toInt.natAbs → zmag b64 (roundRatio b64 (decide (a.toInt < 0) != decide (d.toInt < 0)) a.toInt.natAbs d.toInt.natAbs 0) ≤ 2 ^ 52 * 2 ^ 1022 := fun h =>
    own_zle hB (by unfold Jvm.FP.Core.fits; decide) (by
      rw [show (1074 : Nat) = 52 + 1022 from rfl, Nat.pow_add]
      generalize (2 ^ 52 * 2 ^ 1022 : Nat) = M
      rw [Nat.mul_comm M]; exact Nat.mul_le_mul_right _ h)
  have gt1 : d.toInt.natAbs < a.toInt.natAbs → (2 ^ 52 + 2 ^ 42) * 2 ^ 1022 ≤ zmag b64 (roundRatio b64 (decide (a.toInt < 0) != decide (d.toInt < 0)) a.toInt.natAbs d.toInt.natAbs 0) := fun h =>
    own_zge hB (by unfold Jvm.FP.Core.fits; decide) (by
      rw [show (1074 : Nat) = 52 + 1022 from rfl, Nat.pow_add]
      generalize (2 ^ 1022 : Nat) = M
      have : (2 ^ 52 + 2 ^ 42) * d.toInt.natAbs ≤ a.toInt.natAbs * 2 ^ 52 := by omega
      calc (2 ^ 52 + 2 ^ 42) * M * d.toInt.natAbs = ((2 ^ 52 + 2 ^ 42) * d.toInt.natAbs) * M := by ac_rfl
        _ ≤ (a.toInt.natAbs * 2 ^ 52) * M := Nat.mul_le_mul_right _ this
        _ = a.toInt.natAbs * (2 ^ 52 * M) := by ac_rfl)
  have ge0 : 0 < a.toInt.natAbs → 2 ^ 52 * 2 ^ 1012 ≤ zmag b64 (roundRatio b64 (decide (a.toInt < 0) != decide (d.toInt < 0)) a.toInt.natAbs d.toInt.natAbs 0) := fun h =>
    own_zge hB (by unfold Jvm.FP.Core.fits; decide) (by
      rw [show (1074 : Nat) = 10 + (52 + 1012) from rfl, Nat.pow_add 2 10, Nat.pow_add 2 52]
      generalize (2 ^ 52 * 2 ^ 1012 : Nat) = M
      have : d.toInt.natAbs ≤ a.toInt.natAbs * 2 ^ 10 := by omega
      calc M * d.toInt.natAbs ≤ M * (a.toInt.natAbs * 2 ^ 10) := Nat.mul_le_mul_left _ this
        _ = a.toInt.natAbs * (2 ^ 10 * M) := by ac_rfl)
  have zz : a.toInt = 0 → zmag b64 (roundRatio b64 (decide (a.toInt < 0) != decide (d.toInt < 0)) a.toInt.natAbs d.toInt.natAbs 0) = 0 := fun h => by
    have := own_zle (s := (decide (a.toInt < 0) != decide (d.toInt < 0))) (A := a.toInt.natAbs) (c := 0) (k := 0) hB (by unfold Jvm.FP.Core.fits; decide) (by rw [h]; simp)
    omega
  unfold own_adm
  rw [c0, c1]
  simp only [own_cl, own_cg]
  have pM : 0 < 2 ^ 1022 := Nat.two_pow_pos _
  have pN : 0 < 2 ^ 1012 := Nat.two_pow_pos _
  generalize zmag b64 (roundRatio b64 (decide (a.toInt < 0) != decide (d.toInt < 0)) a.toInt.natAbs d.toInt.natAbs 0) = m at *
  have e52 : (2 : Nat) ^ 52 = 4503599627370496 := by decide
  have e42 : (2 : Nat) ^ 42 = 4398046511104 := by decide
  rw [e52] at *
  rw [e42] at gt1
  generalize (2 ^ 1022 : Nat) = M at *
  generalize (2 ^ 1012 : Nat) = N at *
  simp only [Int32.lt_iff_toInt_lt, z0]
  unfold own_dr at hd
  by_cases d0 : d.toInt < 0 <;> by_cases a0 : a.toInt < 0
  · have hs : (decide (a.toInt < 0) != decide (d.toInt < 0)) = false := by simp [d0, a0]
    rw [hs]
    simp only [signed, Bool.false_eq_true, if_false]
    rw [if_neg (show ¬ (m : Int) < ((0 * 2 ^ 0 : Nat) : Int) by omega), if_neg (show ¬ 0 < d.toInt by omega), if_neg (show ¬ 0 < a.toInt by omega)]
    by_cases q : a.toInt < d.toInt
    · have := gt1 (by omega)
      rw [if_pos q, if_pos (by omega)]
    · have := le1 (by omega)
      rw [if_neg q, if_neg (by omega)]
  · have hs : (decide (a.toInt < 0) != decide (d.toInt < 0)) = true := by simp [d0, a0]
    rw [hs]
    simp only [signed, if_true]
    rw [if_neg (show ¬ 0 < d.toInt by omega)]
    by_cases q : a.toInt = 0
    · have := zz q
      rw [if_neg (by omega), if_neg (by omega), if_neg (by omega), if_neg (by omega)]
    · have := ge0 (by omega)
      rw [if_pos (by omega), if_pos (by omega)]
  · have hs : (decide (a.toInt < 0) != decide (d.toInt < 0)) = true := by simp [d0, a0]
    rw [hs]
    simp only [signed, if_true]
    have := ge0 (by omega)
    rw [if_pos (by omega), if_pos (by omega), if_pos a0]
  · have hs : (decide (a.toInt < 0) != decide (d.toInt < 0)) = false := by simp [d0, a0]
    rw [hs]
    simp only [signed, Bool.false_eq_true, if_false]
    rw [if_neg (show ¬ (m : Int) < ((0 * 2 ^ 0 : Nat) : Int) by omega), if_pos (show 0 < d.toInt by omega), if_neg a0]
    by_cases q : d.toInt < a.toInt
    · have := gt1 (by omega)
      rw [if_pos q, if_pos (by omega)]
    · have := le1 (by omega)
      rw [if_neg q, if_neg (by omega)]
theorem d1_0 : decode prog_17_method_2_code 0 = .ok (.dload_n 0, 1) := by decide +kernel
theorem d1_1 : decode prog_17_method_2_code 1 = .ok (.dconst 0, 1) := by decide +kernel
theorem d1_2 : decode prog_17_method_2_code 2 = .ok (.dcmp .l, 1) := by decide +kernel
theorem d1_3 : decode prog_17_method_2_code 3 = .ok (.ifCond .lt 13, 3) := by decide +kernel
theorem d1_6 : decode prog_17_method_2_code 6 = .ok (.dload_n 0, 1) := by decide +kernel
theorem d1_7 : decode prog_17_method_2_code 7 = .ok (.dconst 1, 1) := by decide +kernel
theorem d1_8 : decode prog_17_method_2_code 8 = .ok (.dcmp .g, 1) := by decide +kernel
theorem d1_9 : decode prog_17_method_2_code 9 = .ok (.ifCond .gt 7, 3) := by decide +kernel
theorem d1_12 : decode prog_17_method_2_code 12 = .ok (.iconst 1, 1) := by decide +kernel
theorem d1_13 : decode prog_17_method_2_code 13 = .ok (.goto 4, 3) := by decide +kernel
theorem d1_16 : decode prog_17_method_2_code 16 = .ok (.iconst 0, 1) := by decide +kernel
theorem d1_17 : decode prog_17_method_2_code 17 = .ok (.ireturn, 1) := by decide +kernel
theorem pn_1 : plainName "com/example/amherst/amherst/Feedback" = true := by first | (simp [plainName, overriddenIn]; done) | decide +kernel
theorem ef_1 (m : MethodId) (d1 : UInt64) : entryFrame m #[(.double d1)] 2 = (mkF m 0 #[.val (.double d1), .second] []) := by first | (simp [entryFrame, mkF, argsToLocals, Value.category]; done) | rfl
def Q1 (Z : State) (d1 : UInt64) (h0 : Heap) (n0 : Nat) (v : Option Value) (h : Heap) (L : List Loc) : Prop := v = some (.int (own_adm d1)) ∧ Fr n0 L ∧ h = h0
set_option maxRecDepth 65536 in
set_option maxHeartbeats 40000000 in
theorem rm1 (l : Launch) (Z : State) (a0 : Array Value) (hw : ∀ d ∈ tables_1, d.before a0 Z = true) (ws : List Jvm.Cond) (d1 : UInt64) (h0 : Heap) (n0 : Nat) (Z0 : n0 ≤ h0.size) :
    MetFree l (⟨"com/example/amherst/amherst/Feedback", "admitsQueryWeight", "(D)Z"⟩ : MethodName) (head1 (Jvm.Cond.code (⟨"com/example/amherst/amherst/Feedback", "admitsQueryWeight", "(D)Z"⟩ : MethodName) prog_17_method_2_code 2 (some .boolean) :: ws) ({ frames := 0, cells := 0, slots := 0, locals := 0 } : Room)) (fun a U => a = #[(.double d1)] ∧ Z.Warmed39 U.vm ∧ U.heap = h0) (fun _ _ _ _ _ => True) (fun _ U o U' => ∃ v L, o = .returned v ∧ Q1 Z d1 h0 n0 v U'.heap L ∧ FrameEnd U o U' L ({ frames := 0, cells := 0, slots := 0, locals := 0 } : Room).cells ({ frames := 0, cells := 0, slots := 0, locals := 0 } : Room).slots) := by
  refine MetFree.of_bodySF (plainFor_of_name pn_1) hisR ?_
  intro p e s m args below meth c s₁ Bd hml0 hP hK
  obtain ⟨rfl, hZ, hh⟩ := hP
  have hx := Bd.exec
  have hby := Bd.bytes
  have hml : c.maxLocals = 2 := hml0
  have hown : s.vm.findClass "com/example/amherst/amherst/Feedback" = some m.cls := findClass_of_methodNamed Bd.named
  have hnm := (name_of_methodNamed Bd.named Bd.method).1
  have X0 : Stand p l e ({ frames := 0, cells := 0, slots := 0, locals := 0 } : Room) s m #[(.double d1)] below meth c s₁ [] 0 0 := Stand.of_body Bd
  have e0 : s₁.heap = h0 := by rw [← hh, Bd.state]; rfl
  have N0 := Fr.nil n0
  have K0 := Keep.refl h0 ([] : List Addr)
  have pre0 : ∀ t, Steps p.tables e below (s₁.setTop (mkF m 0 #[.val (.double d1), .second] [])) t → Steps p.tables e below (s₁.setTop (entryFrame m #[(.double d1)] 2)) t := fun t k => castTop (ef_1 m d1) k
  have pre1 : ∀ t, Steps p.tables e below (s₁.setTop (mkF m 3 #[.val (.double d1), .second] [(.int (cmpValue (FP.dcmp d1 FP.dconst0) .l))])) t → Steps p.tables e below (s₁.setTop (entryFrame m #[(.double d1)] 2)) t := by
    intro t kt
    refine pre0 _ ?_
    show Steps p.tables e below (s₁.setTop (mkF m 0 #[.val (.double d1), .second] [])) _
    refine XS.dloadN X0.here hx rfl (hb hby d1_0) rfl ?_
    show Steps p.tables e below (s₁.setTop (mkF m 1 #[.val (.double d1), .second] [(.double d1)])) _
    refine XS.dconst0 X0.here hx rfl (hb hby d1_1) rfl ?_
    show Steps p.tables e below (s₁.setTop (mkF m 2 #[.val (.double d1), .second] [(.double FP.dconst0), (.double d1)])) _
    refine XS.dcmpS X0.here hx rfl (hb hby d1_2) rfl rfl ?_
    show Steps p.tables e below (s₁.setTop (mkF m 3 #[.val (.double d1), .second] [(.int (cmpValue (FP.dcmp d1 FP.dconst0) .l))])) _
    exact kt
  by_cases hc3 : (cmpValue (FP.dcmp d1 FP.dconst0) .l) < (0 : Int32)
  ·
    have hv : own_adm d1 = (0 : Int32) := by unfold own_adm; rw [if_pos hc3]
    obtain ⟨fs, hr, hrun, hended, hW, hsame⟩ := X0.leave (v := some (.int (own_adm d1))) (fun h => by rw [Bd.returns] at h; cases h)
    refine ⟨_, _, pre1 _ ?_, hrun, hended, _, _, rfl, ?_, ⟨_, rfl⟩, hW, hsame.mono (by decide) (by decide)⟩
    ·
      show Steps p.tables e below (s₁.setTop (mkF m 3 #[.val (.double d1), .second] [(.int (cmpValue (FP.dcmp d1 FP.dconst0) .l))])) _
      refine XS.ifYes X0.here hx rfl (pc0 := 3) (pc' := 16) rfl (hb hby d1_3) rfl ((if0 _ _).trans (tlt hc3).1) (by decide) (by decide) ?_
      show Steps p.tables e below (s₁.setTop (mkF m 16 #[.val (.double d1), .second] [])) _
      refine XS.iconst X0.here hx rfl (hb hby d1_16) ?_
      show Steps p.tables e below (s₁.setTop (mkF m 17 #[.val (.double d1), .second] [(.int (0 : Int32))])) _
      rw [hv] at hr
      exact retN X0 hx (t := .boolean) Bd.returns (by simp) (hb hby d1_17) hr
    ·
      show Q1 Z d1 h0 n0 _ s₁.heap _
      rw [e0]
      exact ⟨rfl, N0, rfl⟩
  ·
    have pre3 : ∀ t, Steps p.tables e below (s₁.setTop (mkF m 9 #[.val (.double d1), .second] [(.int (cmpValue (FP.dcmp d1 FP.dconst1) .g))])) t → Steps p.tables e below (s₁.setTop (entryFrame m #[(.double d1)] 2)) t := by
      intro t kt
      refine pre1 _ ?_
      show Steps p.tables e below (s₁.setTop (mkF m 3 #[.val (.double d1), .second] [(.int (cmpValue (FP.dcmp d1 FP.dconst0) .l))])) _
      refine XS.ifNo X0.here hx rfl (hb hby d1_3) rfl ((if0 _ _).trans (flt hc3).1) ?_
      show Steps p.tables e below (s₁.setTop (mkF m 6 #[.val (.double d1), .second] [])) _
      refine XS.dloadN X0.here hx rfl (hb hby d1_6) rfl ?_
      show Steps p.tables e below (s₁.setTop (mkF m 7 #[.val (.double d1), .second] [(.double d1)])) _
      refine XS.dconst1 X0.here hx rfl (hb hby d1_7) rfl ?_
      show Steps p.tables e below (s₁.setTop (mkF m 8 #[.val (.double d1), .second] [(.double FP.dconst1), (.double d1)])) _
      refine XS.dcmpS X0.here hx rfl (hb hby d1_8) rfl rfl ?_
      show Steps p.tables e below (s₁.setTop (mkF m 9 #[.val (.double d1), .second] [(.int (cmpValue (FP.dcmp d1 FP.dconst1) .g))])) _
      exact kt
    by_cases hc9 : (0 : Int32) < (cmpValue (FP.dcmp d1 FP.dconst1) .g)
    ·
      have hv : own_adm d1 = (0 : Int32) := by unfold own_adm; rw [if_neg hc3, if_pos hc9]
      obtain ⟨fs, hr, hrun, hended, hW, hsame⟩ := X0.leave (v := some (.int (own_adm d1))) (fun h => by rw [Bd.returns] at h; cases h)
      refine ⟨_, _, pre3 _ ?_, hrun, hended, _, _, rfl, ?_, ⟨_, rfl⟩, hW, hsame.mono (by decide) (by decide)⟩
      ·
        show Steps p.tables e below (s₁.setTop (mkF m 9 #[.val (.double d1), .second] [(.int (cmpValue (FP.dcmp d1 FP.dconst1) .g))])) _
        refine XS.ifYes X0.here hx rfl (pc0 := 9) (pc' := 16) rfl (hb hby d1_9) rfl ((if0 _ _).trans (tlt hc9).2.2.1) (by decide) (by decide) ?_
        show Steps p.tables e below (s₁.setTop (mkF m 16 #[.val (.double d1), .second] [])) _
        refine XS.iconst X0.here hx rfl (hb hby d1_16) ?_
        show Steps p.tables e below (s₁.setTop (mkF m 17 #[.val (.double d1), .second] [(.int (0 : Int32))])) _
        rw [hv] at hr
        exact retN X0 hx (t := .boolean) Bd.returns (by simp) (hb hby d1_17) hr
      ·
        show Q1 Z d1 h0 n0 _ s₁.heap _
        rw [e0]
        exact ⟨rfl, N0, rfl⟩
    ·
      have hv : own_adm d1 = (1 : Int32) := by unfold own_adm; rw [if_neg hc3, if_neg hc9]
      obtain ⟨fs, hr, hrun, hended, hW, hsame⟩ := X0.leave (v := some (.int (own_adm d1))) (fun h => by rw [Bd.returns] at h; cases h)
      refine ⟨_, _, pre3 _ ?_, hrun, hended, _, _, rfl, ?_, ⟨_, rfl⟩, hW, hsame.mono (by decide) (by decide)⟩
      ·
        show Steps p.tables e below (s₁.setTop (mkF m 9 #[.val (.double d1), .second] [(.int (cmpValue (FP.dcmp d1 FP.dconst1) .g))])) _
        refine XS.ifNo X0.here hx rfl (hb hby d1_9) rfl ((if0 _ _).trans (flt hc9).2.2.1) ?_
        show Steps p.tables e below (s₁.setTop (mkF m 12 #[.val (.double d1), .second] [])) _
        refine XS.iconst X0.here hx rfl (hb hby d1_12) ?_
        show Steps p.tables e below (s₁.setTop (mkF m 13 #[.val (.double d1), .second] [(.int (1 : Int32))])) _
        refine XS.goto X0.here hx rfl (pc0 := 13) (pc' := 17) rfl (hb hby d1_13) (by decide) (by decide) ?_
        show Steps p.tables e below (s₁.setTop (mkF m 17 #[.val (.double d1), .second] [(.int (1 : Int32))])) _
        rw [hv] at hr
        exact retN X0 hx (t := .boolean) Bd.returns (by simp) (hb hby d1_17) hr
      ·
        show Q1 Z d1 h0 n0 _ s₁.heap _
        rw [e0]
        exact ⟨rfl, N0, rfl⟩
theorem pn_0 : plainName "com/example/amherst/amherst/FeedbackAdmitsQueryWeightPinLaw" = true := by first | (simp [plainName, overriddenIn]; done) | decide +kernel
theorem pd__D_Z : parseMethodDescriptor "(D)Z" = some ⟨[.double], some .boolean⟩ := by decide +kernel
theorem ef_0 (m : MethodId) (p0 : Int32) (p1 : Int32) : entryFrame m #[(.int p0), (.int p1)] maxLocals = (mkF m 0 #[.val (.int p0), .val (.int p1), .unset, .unset, .unset, .unset, .unset] []) := by first | (simp [entryFrame, mkF, argsToLocals, Value.category, maxLocals]; done) | rfl
def Q0 (Z : State) (p0 : Int32) (p1 : Int32) (h0 : Heap) (n0 : Nat) (v : Option Value) (h : Heap) (L : List Loc) : Prop := v = some (.int 1) ∧ Fr n0 L
set_option maxRecDepth 65536 in
set_option maxHeartbeats 40000000 in
theorem rm0 (l : Launch) (Z : State) (a0 : Array Value) (hw : ∀ d ∈ tables_1, d.before a0 Z = true) (ws : List Jvm.Cond) (p0 : Int32) (p1 : Int32) (h0 : Heap) (n0 : Nat) (Z0 : n0 ≤ h0.size) :
    MetFree l x (head1 (Jvm.Cond.code x code maxLocals ret :: ws) room_1) (fun a U => a = #[(.int p0), (.int p1)] ∧ Z.Warmed39 U.vm ∧ U.heap = h0) (fun _ _ _ _ _ => True) (fun _ U o U' => ∃ v L, o = .returned v ∧ Q0 Z p0 p1 h0 n0 v U'.heap L ∧ FrameEnd U o U' L 0 0) := by
  refine MetFree.of_bodySF (plainFor_of_name pn_0) hisR ?_
  intro p e s m args below meth c s₁ Bd hml0 hP hK
  obtain ⟨rfl, hZ, hh⟩ := hP
  have hx := Bd.exec
  have hby := Bd.bytes
  have hml : c.maxLocals = 7 := hml0
  have hown : s.vm.findClass "com/example/amherst/amherst/FeedbackAdmitsQueryWeightPinLaw" = some m.cls := findClass_of_methodNamed Bd.named
  have hnm := (name_of_methodNamed Bd.named Bd.method).1
  have X0 : Stand p l e room_1 s m #[(.int p0), (.int p1)] below meth c s₁ [] 0 0 := Stand.of_body Bd
  have e0 : s₁.heap = h0 := by rw [← hh, Bd.state]; rfl
  have N0 := Fr.nil n0
  have K0 := Keep.refl h0 ([] : List Addr)
  have pre0 : ∀ t, Steps p.tables e below (s₁.setTop (mkF m 0 #[.val (.int p0), .val (.int p1), .unset, .unset, .unset, .unset, .unset] [])) t → Steps p.tables e below (s₁.setTop (entryFrame m #[(.int p0), (.int p1)] maxLocals)) t := fun t k => castTop (ef_0 m p0 p1) k
  obtain ⟨mv1, hmv1⟩ : ∃ z, z = ((p1 &&& (1023 : Int32)) + (1 : Int32)) := ⟨_, rfl⟩
  have pre2 : ∀ t, Steps p.tables e below (s₁.setTop (mkF m 7 #[.val (.int p0), .val (.int p1), .unset, .unset, .unset, .unset, .unset] [(.int mv1)])) t → Steps p.tables e below (s₁.setTop (entryFrame m #[(.int p0), (.int p1)] maxLocals)) t := by
    intro t kt
    rw [hmv1] at kt
    refine pre0 _ ?_
    show Steps p.tables e below (s₁.setTop (mkF m 0 #[.val (.int p0), .val (.int p1), .unset, .unset, .unset, .unset, .unset] [])) _
    refine XS.iloadN X0.here hx rfl (hb hby at_0) rfl ?_
    show Steps p.tables e below (s₁.setTop (mkF m 1 #[.val (.int p0), .val (.int p1), .unset, .unset, .unset, .unset, .unset] [(.int p1)])) _
    refine XS.sipush X0.here hx rfl (hb hby at_1) ?_
    show Steps p.tables e below (s₁.setTop (mkF m 4 #[.val (.int p0), .val (.int p1), .unset, .unset, .unset, .unset, .unset] [(.int (1023 : Int32)), (.int p1)])) _
    refine XS.iand X0.here hx rfl (hb hby at_4) rfl ?_
    show Steps p.tables e below (s₁.setTop (mkF m 5 #[.val (.int p0), .val (.int p1), .unset, .unset, .unset, .unset, .unset] [(.int (p1 &&& (1023 : Int32)))])) _
    refine XS.iconst X0.here hx rfl (hb hby at_5) ?_
    show Steps p.tables e below (s₁.setTop (mkF m 6 #[.val (.int p0), .val (.int p1), .unset, .unset, .unset, .unset, .unset] [(.int (1 : Int32)), (.int (p1 &&& (1023 : Int32)))])) _
    refine XS.iadd X0.here hx rfl (hb hby at_6) rfl ?_
    show Steps p.tables e below (s₁.setTop (mkF m 7 #[.val (.int p0), .val (.int p1), .unset, .unset, .unset, .unset, .unset] [(.int ((p1 &&& (1023 : Int32)) + (1 : Int32)))])) _
    exact kt
  obtain ⟨v4, hv4⟩ : ∃ z : Int32, z = if (p1 &&& (1024 : Int32)) = (0 : Int32) then mv1 else (-mv1) := ⟨_, rfl⟩
  have mg5 : ∀ t, Steps p.tables e below (s₁.setTop (mkF m 22 #[.val (.int p0), .val (.int p1), .val (.int mv1), .unset, .unset, .unset, .unset] [(.int v4)])) t → Steps p.tables e below (s₁.setTop (mkF m 13 #[.val (.int p0), .val (.int p1), .val (.int mv1), .unset, .unset, .unset, .unset] [(.int (p1 &&& (1024 : Int32)))])) t := by
    intro t kt
    by_cases hm3 : (p1 &&& (1024 : Int32)) = (0 : Int32)
    ·
      have ev4 : v4 = mv1 := by rw [hv4, if_pos hm3]
      rw [ev4] at kt
      refine (fun t (k : Steps p.tables e below (s₁.setTop (mkF m 13 #[.val (.int p0), .val (.int p1), .val (.int mv1), .unset, .unset, .unset, .unset] [(.int (p1 &&& (1024 : Int32)))])) t) => k) _ ?_
      refine XS.ifYes X0.here hx rfl (pc0 := 13) (pc' := 21) rfl (hb hby at_13) rfl ((if0 _ _).trans (teq hm3).1) (by decide) (by decide) ?_
      show Steps p.tables e below (s₁.setTop (mkF m 21 #[.val (.int p0), .val (.int p1), .val (.int mv1), .unset, .unset, .unset, .unset] [])) _
      refine XS.iloadN X0.here hx rfl (hb hby at_21) rfl ?_
      show Steps p.tables e below (s₁.setTop (mkF m 22 #[.val (.int p0), .val (.int p1), .val (.int mv1), .unset, .unset, .unset, .unset] [(.int mv1)])) _
      exact kt
    ·
      have ev4 : v4 = (-mv1) := by rw [hv4, if_neg hm3]
      rw [ev4] at kt
      refine (fun t (k : Steps p.tables e below (s₁.setTop (mkF m 13 #[.val (.int p0), .val (.int p1), .val (.int mv1), .unset, .unset, .unset, .unset] [(.int (p1 &&& (1024 : Int32)))])) t) => k) _ ?_
      refine XS.ifNo X0.here hx rfl (hb hby at_13) rfl ((if0 _ _).trans (feq hm3).1) ?_
      show Steps p.tables e below (s₁.setTop (mkF m 16 #[.val (.int p0), .val (.int p1), .val (.int mv1), .unset, .unset, .unset, .unset] [])) _
      refine XS.iloadN X0.here hx rfl (hb hby at_16) rfl ?_
      show Steps p.tables e below (s₁.setTop (mkF m 17 #[.val (.int p0), .val (.int p1), .val (.int mv1), .unset, .unset, .unset, .unset] [(.int mv1)])) _
      refine XS.ineg X0.here hx rfl (hb hby at_17) rfl ?_
      show Steps p.tables e below (s₁.setTop (mkF m 18 #[.val (.int p0), .val (.int p1), .val (.int mv1), .unset, .unset, .unset, .unset] [(.int (-mv1))])) _
      refine XS.goto X0.here hx rfl (pc0 := 18) (pc' := 22) rfl (hb hby at_18) (by decide) (by decide) ?_
      show Steps p.tables e below (s₁.setTop (mkF m 22 #[.val (.int p0), .val (.int p1), .val (.int mv1), .unset, .unset, .unset, .unset] [(.int (-mv1))])) _
      exact kt
  obtain ⟨dv6, hdv6⟩ : ∃ z, z = v4 := ⟨_, rfl⟩
  have pre7 : ∀ t, Steps p.tables e below (s₁.setTop (mkF m 22 #[.val (.int p0), .val (.int p1), .val (.int mv1), .unset, .unset, .unset, .unset] [(.int dv6)])) t → Steps p.tables e below (s₁.setTop (entryFrame m #[(.int p0), (.int p1)] maxLocals)) t := by
    intro t kt
    rw [hdv6] at kt
    refine pre2 _ ?_
    show Steps p.tables e below (s₁.setTop (mkF m 7 #[.val (.int p0), .val (.int p1), .unset, .unset, .unset, .unset, .unset] [(.int mv1)])) _
    refine XS.istoreN X0.here hx rfl (hb hby at_7) rfl (l' := #[.val (.int p0), .val (.int p1), .val (.int mv1), .unset, .unset, .unset, .unset]) rfl ?_
    show Steps p.tables e below (s₁.setTop (mkF m 8 #[.val (.int p0), .val (.int p1), .val (.int mv1), .unset, .unset, .unset, .unset] [])) _
    refine XS.iloadN X0.here hx rfl (hb hby at_8) rfl ?_
    show Steps p.tables e below (s₁.setTop (mkF m 9 #[.val (.int p0), .val (.int p1), .val (.int mv1), .unset, .unset, .unset, .unset] [(.int p1)])) _
    refine XS.sipush X0.here hx rfl (hb hby at_9) ?_
    show Steps p.tables e below (s₁.setTop (mkF m 12 #[.val (.int p0), .val (.int p1), .val (.int mv1), .unset, .unset, .unset, .unset] [(.int (1024 : Int32)), (.int p1)])) _
    refine XS.iand X0.here hx rfl (hb hby at_12) rfl ?_
    show Steps p.tables e below (s₁.setTop (mkF m 13 #[.val (.int p0), .val (.int p1), .val (.int mv1), .unset, .unset, .unset, .unset] [(.int (p1 &&& (1024 : Int32)))])) _
    refine mg5 _ ?_
    show Steps p.tables e below (s₁.setTop (mkF m 22 #[.val (.int p0), .val (.int p1), .val (.int mv1), .unset, .unset, .unset, .unset] [(.int v4)])) _
    exact kt
  have hd : own_dr dv6 := own_dr_of (hdv6.trans hv4) hmv1
  obtain ⟨v11, hv11⟩ : ∃ z : Int32, z = if dv6 < p0 then (0 : Int32) else (1 : Int32) := ⟨_, rfl⟩
  obtain ⟨v13, hv13⟩ : ∃ z : Int32, z = if p0 < (0 : Int32) then (0 : Int32) else v11 := ⟨_, rfl⟩
  obtain ⟨v17, hv17⟩ : ∃ z : Int32, z = if p0 < dv6 then (0 : Int32) else (1 : Int32) := ⟨_, rfl⟩
  obtain ⟨v19, hv19⟩ : ∃ z : Int32, z = if (0 : Int32) < p0 then (0 : Int32) else v17 := ⟨_, rfl⟩
  obtain ⟨v21, hv21⟩ : ∃ z : Int32, z = if (0 : Int32) < dv6 then v13 else v19 := ⟨_, rfl⟩
  have mg22 : ∀ t, Steps p.tables e below (s₁.setTop (mkF m 65 #[.val (.int p0), .val (.int p1), .val (.int mv1), .val (.int dv6), .val (.double (FP.ddiv (FP.i2d p0) (FP.i2d dv6))), .second, .unset] [(.int v21)])) t → Steps p.tables e below (s₁.setTop (mkF m 31 #[.val (.int p0), .val (.int p1), .val (.int mv1), .val (.int dv6), .val (.double (FP.ddiv (FP.i2d p0) (FP.i2d dv6))), .second, .unset] [(.int dv6)])) t := by
    intro t kt
    by_cases hm8 : (0 : Int32) < dv6
    ·
      have ev21 : v21 = v13 := by rw [hv21, if_pos hm8]
      rw [ev21] at kt
      have mg14 : ∀ t, Steps p.tables e below (s₁.setTop (mkF m 65 #[.val (.int p0), .val (.int p1), .val (.int mv1), .val (.int dv6), .val (.double (FP.ddiv (FP.i2d p0) (FP.i2d dv6))), .second, .unset] [(.int v13)])) t → Steps p.tables e below (s₁.setTop (mkF m 35 #[.val (.int p0), .val (.int p1), .val (.int mv1), .val (.int dv6), .val (.double (FP.ddiv (FP.i2d p0) (FP.i2d dv6))), .second, .unset] [(.int p0)])) t := by
        intro t kt
        by_cases hm9 : p0 < (0 : Int32)
        ·
          have ev13 : v13 = (0 : Int32) := by rw [hv13, if_pos hm9]
          rw [ev13] at kt
          refine (fun t (k : Steps p.tables e below (s₁.setTop (mkF m 35 #[.val (.int p0), .val (.int p1), .val (.int mv1), .val (.int dv6), .val (.double (FP.ddiv (FP.i2d p0) (FP.i2d dv6))), .second, .unset] [(.int p0)])) t) => k) _ ?_
          refine XS.ifYes X0.here hx rfl (pc0 := 35) (pc' := 47) rfl (hb hby at_35) rfl ((if0 _ _).trans (tlt hm9).1) (by decide) (by decide) ?_
          show Steps p.tables e below (s₁.setTop (mkF m 47 #[.val (.int p0), .val (.int p1), .val (.int mv1), .val (.int dv6), .val (.double (FP.ddiv (FP.i2d p0) (FP.i2d dv6))), .second, .unset] [])) _
          refine XS.iconst X0.here hx rfl (hb hby at_47) ?_
          show Steps p.tables e below (s₁.setTop (mkF m 48 #[.val (.int p0), .val (.int p1), .val (.int mv1), .val (.int dv6), .val (.double (FP.ddiv (FP.i2d p0) (FP.i2d dv6))), .second, .unset] [(.int (0 : Int32))])) _
          refine XS.goto X0.here hx rfl (pc0 := 48) (pc' := 65) rfl (hb hby at_48) (by decide) (by decide) ?_
          show Steps p.tables e below (s₁.setTop (mkF m 65 #[.val (.int p0), .val (.int p1), .val (.int mv1), .val (.int dv6), .val (.double (FP.ddiv (FP.i2d p0) (FP.i2d dv6))), .second, .unset] [(.int (0 : Int32))])) _
          exact kt
        ·
          have ev13 : v13 = v11 := by rw [hv13, if_neg hm9]
          rw [ev13] at kt
          have mg12 : ∀ t, Steps p.tables e below (s₁.setTop (mkF m 65 #[.val (.int p0), .val (.int p1), .val (.int mv1), .val (.int dv6), .val (.double (FP.ddiv (FP.i2d p0) (FP.i2d dv6))), .second, .unset] [(.int v11)])) t → Steps p.tables e below (s₁.setTop (mkF m 40 #[.val (.int p0), .val (.int p1), .val (.int mv1), .val (.int dv6), .val (.double (FP.ddiv (FP.i2d p0) (FP.i2d dv6))), .second, .unset] [(.int dv6), (.int p0)])) t := by
            intro t kt
            by_cases hm10 : dv6 < p0
            ·
              have ev11 : v11 = (0 : Int32) := by rw [hv11, if_pos hm10]
              rw [ev11] at kt
              refine (fun t (k : Steps p.tables e below (s₁.setTop (mkF m 40 #[.val (.int p0), .val (.int p1), .val (.int mv1), .val (.int dv6), .val (.double (FP.ddiv (FP.i2d p0) (FP.i2d dv6))), .second, .unset] [(.int dv6), (.int p0)])) t) => k) _ ?_
              refine XS.icmpYes X0.here hx rfl (pc0 := 40) (pc' := 47) rfl (hb hby at_40) rfl (tlt hm10).2.2.1 (by decide) (by decide) ?_
              show Steps p.tables e below (s₁.setTop (mkF m 47 #[.val (.int p0), .val (.int p1), .val (.int mv1), .val (.int dv6), .val (.double (FP.ddiv (FP.i2d p0) (FP.i2d dv6))), .second, .unset] [])) _
              refine XS.iconst X0.here hx rfl (hb hby at_47) ?_
              show Steps p.tables e below (s₁.setTop (mkF m 48 #[.val (.int p0), .val (.int p1), .val (.int mv1), .val (.int dv6), .val (.double (FP.ddiv (FP.i2d p0) (FP.i2d dv6))), .second, .unset] [(.int (0 : Int32))])) _
              refine XS.goto X0.here hx rfl (pc0 := 48) (pc' := 65) rfl (hb hby at_48) (by decide) (by decide) ?_
              show Steps p.tables e below (s₁.setTop (mkF m 65 #[.val (.int p0), .val (.int p1), .val (.int mv1), .val (.int dv6), .val (.double (FP.ddiv (FP.i2d p0) (FP.i2d dv6))), .second, .unset] [(.int (0 : Int32))])) _
              exact kt
            ·
              have ev11 : v11 = (1 : Int32) := by rw [hv11, if_neg hm10]
              rw [ev11] at kt
              refine (fun t (k : Steps p.tables e below (s₁.setTop (mkF m 40 #[.val (.int p0), .val (.int p1), .val (.int mv1), .val (.int dv6), .val (.double (FP.ddiv (FP.i2d p0) (FP.i2d dv6))), .second, .unset] [(.int dv6), (.int p0)])) t) => k) _ ?_
              refine XS.icmpNo X0.here hx rfl (hb hby at_40) rfl (flt hm10).2.2.1 ?_
              show Steps p.tables e below (s₁.setTop (mkF m 43 #[.val (.int p0), .val (.int p1), .val (.int mv1), .val (.int dv6), .val (.double (FP.ddiv (FP.i2d p0) (FP.i2d dv6))), .second, .unset] [])) _
              refine XS.iconst X0.here hx rfl (hb hby at_43) ?_
              show Steps p.tables e below (s₁.setTop (mkF m 44 #[.val (.int p0), .val (.int p1), .val (.int mv1), .val (.int dv6), .val (.double (FP.ddiv (FP.i2d p0) (FP.i2d dv6))), .second, .unset] [(.int (1 : Int32))])) _
              refine XS.goto X0.here hx rfl (pc0 := 44) (pc' := 65) rfl (hb hby at_44) (by decide) (by decide) ?_
              show Steps p.tables e below (s₁.setTop (mkF m 65 #[.val (.int p0), .val (.int p1), .val (.int mv1), .val (.int dv6), .val (.double (FP.ddiv (FP.i2d p0) (FP.i2d dv6))), .second, .unset] [(.int (1 : Int32))])) _
              exact kt
          refine (fun t (k : Steps p.tables e below (s₁.setTop (mkF m 35 #[.val (.int p0), .val (.int p1), .val (.int mv1), .val (.int dv6), .val (.double (FP.ddiv (FP.i2d p0) (FP.i2d dv6))), .second, .unset] [(.int p0)])) t) => k) _ ?_
          refine XS.ifNo X0.here hx rfl (hb hby at_35) rfl ((if0 _ _).trans (flt hm9).1) ?_
          show Steps p.tables e below (s₁.setTop (mkF m 38 #[.val (.int p0), .val (.int p1), .val (.int mv1), .val (.int dv6), .val (.double (FP.ddiv (FP.i2d p0) (FP.i2d dv6))), .second, .unset] [])) _
          refine XS.iloadN X0.here hx rfl (hb hby at_38) rfl ?_
          show Steps p.tables e below (s₁.setTop (mkF m 39 #[.val (.int p0), .val (.int p1), .val (.int mv1), .val (.int dv6), .val (.double (FP.ddiv (FP.i2d p0) (FP.i2d dv6))), .second, .unset] [(.int p0)])) _
          refine XS.iloadN X0.here hx rfl (hb hby at_39) rfl ?_
          show Steps p.tables e below (s₁.setTop (mkF m 40 #[.val (.int p0), .val (.int p1), .val (.int mv1), .val (.int dv6), .val (.double (FP.ddiv (FP.i2d p0) (FP.i2d dv6))), .second, .unset] [(.int dv6), (.int p0)])) _
          refine mg12 _ ?_
          show Steps p.tables e below (s₁.setTop (mkF m 65 #[.val (.int p0), .val (.int p1), .val (.int mv1), .val (.int dv6), .val (.double (FP.ddiv (FP.i2d p0) (FP.i2d dv6))), .second, .unset] [(.int v11)])) _
          exact kt
      refine (fun t (k : Steps p.tables e below (s₁.setTop (mkF m 31 #[.val (.int p0), .val (.int p1), .val (.int mv1), .val (.int dv6), .val (.double (FP.ddiv (FP.i2d p0) (FP.i2d dv6))), .second, .unset] [(.int dv6)])) t) => k) _ ?_
      refine XS.ifNo X0.here hx rfl (hb hby at_31) rfl ((if0 _ _).trans (tlt hm8).2.2.2) ?_
      show Steps p.tables e below (s₁.setTop (mkF m 34 #[.val (.int p0), .val (.int p1), .val (.int mv1), .val (.int dv6), .val (.double (FP.ddiv (FP.i2d p0) (FP.i2d dv6))), .second, .unset] [])) _
      refine XS.iloadN X0.here hx rfl (hb hby at_34) rfl ?_
      show Steps p.tables e below (s₁.setTop (mkF m 35 #[.val (.int p0), .val (.int p1), .val (.int mv1), .val (.int dv6), .val (.double (FP.ddiv (FP.i2d p0) (FP.i2d dv6))), .second, .unset] [(.int p0)])) _
      refine mg14 _ ?_
      show Steps p.tables e below (s₁.setTop (mkF m 65 #[.val (.int p0), .val (.int p1), .val (.int mv1), .val (.int dv6), .val (.double (FP.ddiv (FP.i2d p0) (FP.i2d dv6))), .second, .unset] [(.int v13)])) _
      exact kt
    ·
      have ev21 : v21 = v19 := by rw [hv21, if_neg hm8]
      rw [ev21] at kt
      have mg20 : ∀ t, Steps p.tables e below (s₁.setTop (mkF m 65 #[.val (.int p0), .val (.int p1), .val (.int mv1), .val (.int dv6), .val (.double (FP.ddiv (FP.i2d p0) (FP.i2d dv6))), .second, .unset] [(.int v19)])) t → Steps p.tables e below (s₁.setTop (mkF m 52 #[.val (.int p0), .val (.int p1), .val (.int mv1), .val (.int dv6), .val (.double (FP.ddiv (FP.i2d p0) (FP.i2d dv6))), .second, .unset] [(.int p0)])) t := by
        intro t kt
        by_cases hm15 : (0 : Int32) < p0
        ·
          have ev19 : v19 = (0 : Int32) := by rw [hv19, if_pos hm15]
          rw [ev19] at kt
          refine (fun t (k : Steps p.tables e below (s₁.setTop (mkF m 52 #[.val (.int p0), .val (.int p1), .val (.int mv1), .val (.int dv6), .val (.double (FP.ddiv (FP.i2d p0) (FP.i2d dv6))), .second, .unset] [(.int p0)])) t) => k) _ ?_
          refine XS.ifYes X0.here hx rfl (pc0 := 52) (pc' := 64) rfl (hb hby at_52) rfl ((if0 _ _).trans (tlt hm15).2.2.1) (by decide) (by decide) ?_
          show Steps p.tables e below (s₁.setTop (mkF m 64 #[.val (.int p0), .val (.int p1), .val (.int mv1), .val (.int dv6), .val (.double (FP.ddiv (FP.i2d p0) (FP.i2d dv6))), .second, .unset] [])) _
          refine XS.iconst X0.here hx rfl (hb hby at_64) ?_
          show Steps p.tables e below (s₁.setTop (mkF m 65 #[.val (.int p0), .val (.int p1), .val (.int mv1), .val (.int dv6), .val (.double (FP.ddiv (FP.i2d p0) (FP.i2d dv6))), .second, .unset] [(.int (0 : Int32))])) _
          exact kt
        ·
          have ev19 : v19 = v17 := by rw [hv19, if_neg hm15]
          rw [ev19] at kt
          have mg18 : ∀ t, Steps p.tables e below (s₁.setTop (mkF m 65 #[.val (.int p0), .val (.int p1), .val (.int mv1), .val (.int dv6), .val (.double (FP.ddiv (FP.i2d p0) (FP.i2d dv6))), .second, .unset] [(.int v17)])) t → Steps p.tables e below (s₁.setTop (mkF m 57 #[.val (.int p0), .val (.int p1), .val (.int mv1), .val (.int dv6), .val (.double (FP.ddiv (FP.i2d p0) (FP.i2d dv6))), .second, .unset] [(.int dv6), (.int p0)])) t := by
            intro t kt
            by_cases hm16 : p0 < dv6
            ·
              have ev17 : v17 = (0 : Int32) := by rw [hv17, if_pos hm16]
              rw [ev17] at kt
              refine (fun t (k : Steps p.tables e below (s₁.setTop (mkF m 57 #[.val (.int p0), .val (.int p1), .val (.int mv1), .val (.int dv6), .val (.double (FP.ddiv (FP.i2d p0) (FP.i2d dv6))), .second, .unset] [(.int dv6), (.int p0)])) t) => k) _ ?_
              refine XS.icmpYes X0.here hx rfl (pc0 := 57) (pc' := 64) rfl (hb hby at_57) rfl (tlt hm16).1 (by decide) (by decide) ?_
              show Steps p.tables e below (s₁.setTop (mkF m 64 #[.val (.int p0), .val (.int p1), .val (.int mv1), .val (.int dv6), .val (.double (FP.ddiv (FP.i2d p0) (FP.i2d dv6))), .second, .unset] [])) _
              refine XS.iconst X0.here hx rfl (hb hby at_64) ?_
              show Steps p.tables e below (s₁.setTop (mkF m 65 #[.val (.int p0), .val (.int p1), .val (.int mv1), .val (.int dv6), .val (.double (FP.ddiv (FP.i2d p0) (FP.i2d dv6))), .second, .unset] [(.int (0 : Int32))])) _
              exact kt
            ·
              have ev17 : v17 = (1 : Int32) := by rw [hv17, if_neg hm16]
              rw [ev17] at kt
              refine (fun t (k : Steps p.tables e below (s₁.setTop (mkF m 57 #[.val (.int p0), .val (.int p1), .val (.int mv1), .val (.int dv6), .val (.double (FP.ddiv (FP.i2d p0) (FP.i2d dv6))), .second, .unset] [(.int dv6), (.int p0)])) t) => k) _ ?_
              refine XS.icmpNo X0.here hx rfl (hb hby at_57) rfl (flt hm16).1 ?_
              show Steps p.tables e below (s₁.setTop (mkF m 60 #[.val (.int p0), .val (.int p1), .val (.int mv1), .val (.int dv6), .val (.double (FP.ddiv (FP.i2d p0) (FP.i2d dv6))), .second, .unset] [])) _
              refine XS.iconst X0.here hx rfl (hb hby at_60) ?_
              show Steps p.tables e below (s₁.setTop (mkF m 61 #[.val (.int p0), .val (.int p1), .val (.int mv1), .val (.int dv6), .val (.double (FP.ddiv (FP.i2d p0) (FP.i2d dv6))), .second, .unset] [(.int (1 : Int32))])) _
              refine XS.goto X0.here hx rfl (pc0 := 61) (pc' := 65) rfl (hb hby at_61) (by decide) (by decide) ?_
              show Steps p.tables e below (s₁.setTop (mkF m 65 #[.val (.int p0), .val (.int p1), .val (.int mv1), .val (.int dv6), .val (.double (FP.ddiv (FP.i2d p0) (FP.i2d dv6))), .second, .unset] [(.int (1 : Int32))])) _
              exact kt
          refine (fun t (k : Steps p.tables e below (s₁.setTop (mkF m 52 #[.val (.int p0), .val (.int p1), .val (.int mv1), .val (.int dv6), .val (.double (FP.ddiv (FP.i2d p0) (FP.i2d dv6))), .second, .unset] [(.int p0)])) t) => k) _ ?_
          refine XS.ifNo X0.here hx rfl (hb hby at_52) rfl ((if0 _ _).trans (flt hm15).2.2.1) ?_
          show Steps p.tables e below (s₁.setTop (mkF m 55 #[.val (.int p0), .val (.int p1), .val (.int mv1), .val (.int dv6), .val (.double (FP.ddiv (FP.i2d p0) (FP.i2d dv6))), .second, .unset] [])) _
          refine XS.iloadN X0.here hx rfl (hb hby at_55) rfl ?_
          show Steps p.tables e below (s₁.setTop (mkF m 56 #[.val (.int p0), .val (.int p1), .val (.int mv1), .val (.int dv6), .val (.double (FP.ddiv (FP.i2d p0) (FP.i2d dv6))), .second, .unset] [(.int p0)])) _
          refine XS.iloadN X0.here hx rfl (hb hby at_56) rfl ?_
          show Steps p.tables e below (s₁.setTop (mkF m 57 #[.val (.int p0), .val (.int p1), .val (.int mv1), .val (.int dv6), .val (.double (FP.ddiv (FP.i2d p0) (FP.i2d dv6))), .second, .unset] [(.int dv6), (.int p0)])) _
          refine mg18 _ ?_
          show Steps p.tables e below (s₁.setTop (mkF m 65 #[.val (.int p0), .val (.int p1), .val (.int mv1), .val (.int dv6), .val (.double (FP.ddiv (FP.i2d p0) (FP.i2d dv6))), .second, .unset] [(.int v17)])) _
          exact kt
      refine (fun t (k : Steps p.tables e below (s₁.setTop (mkF m 31 #[.val (.int p0), .val (.int p1), .val (.int mv1), .val (.int dv6), .val (.double (FP.ddiv (FP.i2d p0) (FP.i2d dv6))), .second, .unset] [(.int dv6)])) t) => k) _ ?_
      refine XS.ifYes X0.here hx rfl (pc0 := 31) (pc' := 51) rfl (hb hby at_31) rfl ((if0 _ _).trans (flt hm8).2.2.2) (by decide) (by decide) ?_
      show Steps p.tables e below (s₁.setTop (mkF m 51 #[.val (.int p0), .val (.int p1), .val (.int mv1), .val (.int dv6), .val (.double (FP.ddiv (FP.i2d p0) (FP.i2d dv6))), .second, .unset] [])) _
      refine XS.iloadN X0.here hx rfl (hb hby at_51) rfl ?_
      show Steps p.tables e below (s₁.setTop (mkF m 52 #[.val (.int p0), .val (.int p1), .val (.int mv1), .val (.int dv6), .val (.double (FP.ddiv (FP.i2d p0) (FP.i2d dv6))), .second, .unset] [(.int p0)])) _
      refine mg20 _ ?_
      show Steps p.tables e below (s₁.setTop (mkF m 65 #[.val (.int p0), .val (.int p1), .val (.int mv1), .val (.int dv6), .val (.double (FP.ddiv (FP.i2d p0) (FP.i2d dv6))), .second, .unset] [(.int v19)])) _
      exact kt
  obtain ⟨_, _, ⟨T23, L23, k23, n23⟩, -, X23, ⟨Lc23, hQ23, l23, y23, z23⟩, st23⟩ := Jvm.LawKit.callS X0 hx (y := (⟨"com/example/amherst/amherst/Feedback", "admitsQueryWeight", "(D)Z"⟩ : MethodName)) hown (mvT hZ (hw _ (List.mem_of_getElem? (i := 0) rfl))) (mvT hZ (hw _ (List.mem_of_getElem? (i := 1) rfl))) (mvT hZ (hw _ (List.mem_of_getElem? (i := 2) rfl))) (mvT hZ (hw _ (List.mem_of_getElem? (i := 3) rfl))) (by decide) (backOf (W := 0) (rm1 l Z a0 hw [] (FP.ddiv (FP.i2d p0) (FP.i2d dv6)) h0 n0 Z0) hZ (hw _ (List.mem_of_getElem? (i := 3) rfl)) (hw _ (List.mem_of_getElem? (i := 2) rfl)) (by decide) (by decide)) (g := (mkF m 69 #[.val (.int p0), .val (.int p1), .val (.int mv1), .val (.int dv6), .val (.double (FP.ddiv (FP.i2d p0) (FP.i2d dv6))), .second, .val (.int v21)] [(.double (FP.ddiv (FP.i2d p0) (FP.i2d dv6)))])) rfl (by rw [hml]; rfl) (argsL := [(.double (FP.ddiv (FP.i2d p0) (FP.i2d dv6)))]) (rest := []) (lenOf pd__D_Z rfl) rfl (by show 2 * 0 + _ ≤ _; exact Nat.le_of_eq rfl) (hb hby at_69) (fun _ _ => ⟨rfl, e0, (by decide : 0 + 0 ≤ _), (by decide : 0 + 0 ≤ _)⟩)
  dsimp only [Pt.U, Pt.locs, Pt.cells, Pt.slots] at X23 l23 y23 z23 st23 hQ23
  subst l23 y23 z23
  obtain ⟨rfl, N23q, hq23⟩ := hQ23
  have N23 := Fr.app N0 N23q
  have hk24 : (own_adm (FP.ddiv (FP.i2d p0) (FP.i2d dv6))) = v21 := by rw [hv21, hv19, hv17, hv13, hv11]; exact own_law p0 hd
  obtain ⟨fs, hr, hrun, hended, hW, hsame⟩ := X23.leave (v := some (.int (1 : Int32))) (fun h => by rw [Bd.returns] at h; cases h)
  refine ⟨_, _, pre7 _ ?_, hrun, hended, _, _, rfl, ?_, ⟨_, rfl⟩, hW, hsame.mono (by decide) (by decide)⟩
  ·
    show Steps p.tables e below (s₁.setTop (mkF m 22 #[.val (.int p0), .val (.int p1), .val (.int mv1), .unset, .unset, .unset, .unset] [(.int dv6)])) _
    refine XS.istoreN X0.here hx rfl (hb hby at_22) rfl (l' := #[.val (.int p0), .val (.int p1), .val (.int mv1), .val (.int dv6), .unset, .unset, .unset]) rfl ?_
    show Steps p.tables e below (s₁.setTop (mkF m 23 #[.val (.int p0), .val (.int p1), .val (.int mv1), .val (.int dv6), .unset, .unset, .unset] [])) _
    refine XS.iloadN X0.here hx rfl (hb hby at_23) rfl ?_
    show Steps p.tables e below (s₁.setTop (mkF m 24 #[.val (.int p0), .val (.int p1), .val (.int mv1), .val (.int dv6), .unset, .unset, .unset] [(.int p0)])) _
    refine XS.i2dS X0.here hx rfl (hb hby at_24) rfl rfl ?_
    show Steps p.tables e below (s₁.setTop (mkF m 25 #[.val (.int p0), .val (.int p1), .val (.int mv1), .val (.int dv6), .unset, .unset, .unset] [(.double (FP.i2d p0))])) _
    refine XS.iloadN X0.here hx rfl (hb hby at_25) rfl ?_
    show Steps p.tables e below (s₁.setTop (mkF m 26 #[.val (.int p0), .val (.int p1), .val (.int mv1), .val (.int dv6), .unset, .unset, .unset] [(.int dv6), (.double (FP.i2d p0))])) _
    refine XS.i2dS X0.here hx rfl (hb hby at_26) rfl rfl ?_
    show Steps p.tables e below (s₁.setTop (mkF m 27 #[.val (.int p0), .val (.int p1), .val (.int mv1), .val (.int dv6), .unset, .unset, .unset] [(.double (FP.i2d dv6)), (.double (FP.i2d p0))])) _
    refine XS.ddivS X0.here hx rfl (hb hby at_27) rfl (own_nn p0 hd) rfl ?_
    show Steps p.tables e below (s₁.setTop (mkF m 28 #[.val (.int p0), .val (.int p1), .val (.int mv1), .val (.int dv6), .unset, .unset, .unset] [(.double (FP.ddiv (FP.i2d p0) (FP.i2d dv6)))])) _
    refine XS.dstore X0.here hx rfl (hb hby at_28) rfl (l' := #[.val (.int p0), .val (.int p1), .val (.int mv1), .val (.int dv6), .val (.double (FP.ddiv (FP.i2d p0) (FP.i2d dv6))), .second, .unset]) rfl ?_
    show Steps p.tables e below (s₁.setTop (mkF m 30 #[.val (.int p0), .val (.int p1), .val (.int mv1), .val (.int dv6), .val (.double (FP.ddiv (FP.i2d p0) (FP.i2d dv6))), .second, .unset] [])) _
    refine XS.iloadN X0.here hx rfl (hb hby at_30) rfl ?_
    show Steps p.tables e below (s₁.setTop (mkF m 31 #[.val (.int p0), .val (.int p1), .val (.int mv1), .val (.int dv6), .val (.double (FP.ddiv (FP.i2d p0) (FP.i2d dv6))), .second, .unset] [(.int dv6)])) _
    refine mg22 _ ?_
    show Steps p.tables e below (s₁.setTop (mkF m 65 #[.val (.int p0), .val (.int p1), .val (.int mv1), .val (.int dv6), .val (.double (FP.ddiv (FP.i2d p0) (FP.i2d dv6))), .second, .unset] [(.int v21)])) _
    refine XS.istore X0.here hx rfl (hb hby at_65) rfl (l' := #[.val (.int p0), .val (.int p1), .val (.int mv1), .val (.int dv6), .val (.double (FP.ddiv (FP.i2d p0) (FP.i2d dv6))), .second, .val (.int v21)]) rfl ?_
    show Steps p.tables e below (s₁.setTop (mkF m 67 #[.val (.int p0), .val (.int p1), .val (.int mv1), .val (.int dv6), .val (.double (FP.ddiv (FP.i2d p0) (FP.i2d dv6))), .second, .val (.int v21)] [])) _
    refine XS.dload X0.here hx rfl (hb hby at_67) rfl ?_
    show Steps p.tables e below (s₁.setTop (mkF m 69 #[.val (.int p0), .val (.int p1), .val (.int mv1), .val (.int dv6), .val (.double (FP.ddiv (FP.i2d p0) (FP.i2d dv6))), .second, .val (.int v21)] [(.double (FP.ddiv (FP.i2d p0) (FP.i2d dv6)))])) _
    refine st23 _ ?_
    show Steps p.tables e below (T23.setTop (mkF m 72 #[.val (.int p0), .val (.int p1), .val (.int mv1), .val (.int dv6), .val (.double (FP.ddiv (FP.i2d p0) (FP.i2d dv6))), .second, .val (.int v21)] [(.int (own_adm (FP.ddiv (FP.i2d p0) (FP.i2d dv6))))])) _
    refine XS.iload X23.here hx rfl (hb hby at_72) rfl ?_
    show Steps p.tables e below (T23.setTop (mkF m 74 #[.val (.int p0), .val (.int p1), .val (.int mv1), .val (.int dv6), .val (.double (FP.ddiv (FP.i2d p0) (FP.i2d dv6))), .second, .val (.int v21)] [(.int v21), (.int (own_adm (FP.ddiv (FP.i2d p0) (FP.i2d dv6))))])) _
    refine XS.icmpNo X23.here hx rfl (hb hby at_74) rfl (teq hk24).2 ?_
    show Steps p.tables e below (T23.setTop (mkF m 77 #[.val (.int p0), .val (.int p1), .val (.int mv1), .val (.int dv6), .val (.double (FP.ddiv (FP.i2d p0) (FP.i2d dv6))), .second, .val (.int v21)] [])) _
    refine XS.iconst X23.here hx rfl (hb hby at_77) ?_
    show Steps p.tables e below (T23.setTop (mkF m 78 #[.val (.int p0), .val (.int p1), .val (.int mv1), .val (.int dv6), .val (.double (FP.ddiv (FP.i2d p0) (FP.i2d dv6))), .second, .val (.int v21)] [(.int (1 : Int32))])) _
    refine XS.goto X23.here hx rfl (pc0 := 78) (pc' := 82) rfl (hb hby at_78) (by decide) (by decide) ?_
    show Steps p.tables e below (T23.setTop (mkF m 82 #[.val (.int p0), .val (.int p1), .val (.int mv1), .val (.int dv6), .val (.double (FP.ddiv (FP.i2d p0) (FP.i2d dv6))), .second, .val (.int v21)] [(.int (1 : Int32))])) _
    exact retN X23 hx (t := .boolean) Bd.returns (by simp) (hb hby at_82) hr
  ·
    show Q0 Z p0 p1 h0 n0 _ T23.heap _
    rw [hq23]
    exact ⟨rfl, N23⟩
set_option maxRecDepth 65536 in
set_option maxHeartbeats 40000000 in
theorem comes_1 {Post : Tables → Env → Array Value → State → Outcome → State → Prop} (hpost : ∀ tb e args s v u, (limb_1_1.after args s (.returned v) u = true ∧ limb_1_2.after args s (.returned v) u = true ∧ True) → FrameEnd s (.returned v) u (Jvm.fieldLocs frame_1_writes args s ++ Jvm.arrayLocs frame_1_arrays args s ++ Jvm.staticLocs frame_1_statics s) 0 0 → Post tb e args s (.returned v) u) :
    ArmFor flags0 classFile x code maxLocals ret World_1 tables_1 room_1 Calls_1 rest_1 Pre_1 Post := by
  intro l hfl _ _ p e ha hc hk s m args below hf hA hF happ hP
  obtain ⟨hcalls, hrest, hpre⟩ := hP
  obtain ⟨-, -, -, hnamed, -, -, -, hat⟩ := (Spec.applies_iff hf).mp happ
  obtain ⟨hg, hn⟩ := and_e (Cond.before_iff.mp (show (Jvm.Cond.and given_1 narrow_1).before args s = true from hpre))
  obtain ⟨g1, g2⟩ := and_e hg
  obtain ⟨g3, g4⟩ := and_e g2
  obtain ⟨w0, w1, rfl⟩ : ∃ w0 w1 : Value, args = #[w0, w1] := by
    have hs : args.size = 2 := by simpa [Cond.value, given_1] using g1
    obtain ⟨L⟩ := args
    match L, hs with
    | [w0, w1], _ => exact ⟨w0, w1, rfl⟩
  have hw := fun d (hd : d ∈ tables_1) => atoms_spec (ws := Jvm.Cond.code x code maxLocals ret :: tables_1) hat d (List.mem_cons_of_mem _ hd)
  have hfit : Fit s := fun {y c} hc i hi => by
    obtain ⟨ha, rfl⟩ := Array.getElem?_eq_some_iff.mp hc
    have q := List.all_eq_true.mp ((Array.all_eq_true_iff_forall_mem.mp hF) _ (Array.getElem_mem ha)) i (List.mem_range.mpr hi)
    simpa [Array.getElem?_eq_getElem hi] using q
  obtain ⟨i0, ei0⟩ := is_v g3
  obtain rfl : w0 = (.int i0) := Option.some.inj ei0
  obtain ⟨i1, ei1⟩ := is_v g4
  obtain rfl : w1 = (.int i1) := Option.some.inj ei1
  obtain ⟨n, o, h1, h2, h3, _, L, rfl, ⟨rfl, N⟩, hq⟩ := rm0 l s _ hw tables_1 i0 i1 s.heap s.heap.size (Nat.le_refl _) p e ha hc hk s m _ below hf ((Spec.applies_iff_loose hf).mp happ).1 ⟨rfl, State.Warmed39.refl s, rfl⟩ trivial
  refine ⟨n, _, h1, h2, h3, hpost _ _ _ _ _ _ ⟨Cond.after_iff.mpr rfl, Cond.after_iff.mpr (eq_i res_at (Term.int_eval (1)) rfl), trivial⟩ ⟨hq.1, hq.2.1, (hq.2.2.sift fun y hy => Or.inr (N y hy)).mono (by decide) (by decide)⟩⟩
theorem main_1_1 : Claimed_1_1 := comes_1 fun _ _ _ _ _ _ h hF => ⟨h.1, hF⟩
theorem main_1_2 : Claimed_1_2 := comes_1 fun _ _ _ _ _ _ h hF => ⟨h.2.1, hF⟩
end Jvm.Pilot.@@N@@
namespace Jvm.Pilot.@@N@@
open Jvm Jvm.ClassFile Sem Op Lib Jvm.Free Jvm.Stand Jvm.Pilot.@@N@@.Jvm.D
/-! MADE BY PROGRAM (witnessworld.py) out of the Statement's table words and the real class files: 10 classes; the members and pool entries that the words name. The judged class is class 1, her method 1. -/
namespace start1
open Jvm.ClassFile
def u (s : String) : CpInfo := .utf8 (stringToUtf16 s)
/-- a pool by its gaps: so many unusable entries, then the entry; so many at the end -/
def gap : Nat → List CpInfo → List CpInfo
  | 0, r => r
  | n + 1, r => .unusable :: gap n r
def poolList (es : List (Nat × CpInfo)) (last : Nat) : List CpInfo := es.foldr (fun e r => gap e.1 (e.2 :: r)) (gap last [])
def pool (es : List (Nat × CpInfo)) (last : Nat) : Array CpInfo := ⟨poolList es last⟩
def fileOf (pool : Array CpInfo) (this : Nat) (attrs : Array Attribute := #[]) (ms : Array MethodInfo := #[]) (fl : Nat := 33) (sup : Nat := 0) (ifs : Array Nat := #[]) (fds : Array FieldInfo := #[]) : ClassFile where
  minorVersion := 0
  majorVersion := 65
  constantPool := pool
  accessFlags := fl
  thisClass := this
  superClass := sup
  interfaces := ifs
  fields := fds
  methods := ms
  attributes := attrs
def plain (name : String) (sup : Option ClassId) : Class where
  name := name
  kind := .ordinary
  loader := none
  accessFlags := 33
  super := sup
  interfaces := #[]
  cf := none
  fields := #[]
  methods := #[]
  instanceTypes := #[]
  staticTypes := #[]
  resolved := #[]
  callSites := []
  init := .initialized
  statics := none
  mirror := none

def pool0 : Array CpInfo := pool [(5, u "<init>"), (0, u "()V"), (1, .class_ 10), (1, u "java/lang/Object")] 113

def k0m0 : Method := { name := "<init>", desc := "()V", sig := { parameters := [], returnType := none }, accessFlags := 1, code := none }
/-- java/lang/Object -/
def k0 : Class := { plain "java/lang/Object" none with
  accessFlags := 33
  interfaces := #[]
  cf := some (fileOf pool0 8 #[] #[{ accessFlags := 1, nameIndex := 5, descriptorIndex := 6, attributes := #[] }] 33 0 #[] #[])
  fields := #[]
  methods := #[k0m0]
  instanceTypes := #[]
  staticTypes := #[]
  resolved := Array.replicate 124 none
  statics := none }

def pool1 : Array CpInfo := pool [(2, .class_ 4), (1, u "java/lang/Object"), (0, u "<init>"), (0, u "()V"), (0, .methodref 8 9), (0, .class_ 10), (0, .nameAndType 11 12), (0, u "com/example/amherst/amherst/Feedback"), (0, u "admitsQueryWeight"), (0, u "(D)Z"), (0, .class_ 14), (0, u "com/example/amherst/amherst/FeedbackAdmitsQueryWeightPinLaw"), (2, u "law"), (0, u "(II)Z")] 3

def k1m0 : Method := { name := "<init>", desc := "()V", sig := { parameters := [], returnType := none }, accessFlags := 1, code := none }
def k1c1 : Code := { maxStack := 4, maxLocals := 7, code := code, exceptionTable := #[], attributes := #[] }
def k1m1 : Method := { name := "law", desc := "(II)Z", sig := { parameters := [.int, .int], returnType := some .boolean }, accessFlags := 9, code := some k1c1 }
/-- com/example/amherst/amherst/FeedbackAdmitsQueryWeightPinLaw -/
def k1 : Class := { plain "com/example/amherst/amherst/FeedbackAdmitsQueryWeightPinLaw" (some 0) with
  accessFlags := 49
  interfaces := #[]
  cf := some (fileOf pool1 13 #[] #[{ accessFlags := 1, nameIndex := 5, descriptorIndex := 6, attributes := #[] }, { accessFlags := 9, nameIndex := 17, descriptorIndex := 18, attributes := #[] }] 49 2 #[] #[])
  fields := #[]
  methods := #[k1m0, k1m1]
  instanceTypes := #[]
  staticTypes := #[]
  resolved := Array.replicate 22 none
  statics := none }

def pool2 : Array CpInfo := pool [(2, .class_ 4), (1, u "java/lang/Object"), (0, u "<init>"), (0, u "()V"), (0, .class_ 8), (0, u "java/lang/Record")] 13

def k2m0 : Method := { name := "<init>", desc := "()V", sig := { parameters := [], returnType := none }, accessFlags := 4, code := none }
/-- java/lang/Record -/
def k2 : Class := { plain "java/lang/Record" (some 0) with
  accessFlags := 1057
  interfaces := #[]
  cf := some (fileOf pool2 7 #[] #[{ accessFlags := 4, nameIndex := 5, descriptorIndex := 6, attributes := #[] }] 1057 2 #[] #[])
  fields := #[]
  methods := #[k2m0]
  instanceTypes := #[]
  staticTypes := #[]
  resolved := Array.replicate 22 none
  statics := none }

def pool3 : Array CpInfo := pool [(2, .class_ 4), (1, u "java/lang/Record"), (13, .class_ 20), (1, u "com/example/amherst/amherst/Feedback"), (0, u "admitsQueryWeight"), (0, u "(D)Z"), (5, u "documents"), (0, u "I"), (2, u "terms"), (2, u "queryWeight"), (0, u "D"), (221, u "DEFAULT_TERMS"), (2, u "DEFAULT_QUERY_WEIGHT"), (2, u "QUERY_WEIGHT_RANGE"), (0, u "Ljava/lang/String;")] 89

def k3c0 : Code := { maxStack := 4, maxLocals := 2, code := prog_17_method_2_code, exceptionTable := #[], attributes := #[] }
def k3m0 : Method := { name := "admitsQueryWeight", desc := "(D)Z", sig := { parameters := [.double], returnType := some .boolean }, accessFlags := 9, code := some k3c0 }
/-- com/example/amherst/amherst/Feedback -/
def k3 : Class := { plain "com/example/amherst/amherst/Feedback" (some 2) with
  accessFlags := 49
  interfaces := #[]
  cf := some (fileOf pool3 18 #[] #[{ accessFlags := 9, nameIndex := 21, descriptorIndex := 22, attributes := #[] }] 49 2 #[] #[{ accessFlags := 18, nameIndex := 28, descriptorIndex := 29, attributes := #[] }, { accessFlags := 18, nameIndex := 32, descriptorIndex := 29, attributes := #[] }, { accessFlags := 18, nameIndex := 35, descriptorIndex := 36, attributes := #[] }, { accessFlags := 25, nameIndex := 258, descriptorIndex := 29, attributes := #[] }, { accessFlags := 25, nameIndex := 261, descriptorIndex := 36, attributes := #[] }, { accessFlags := 25, nameIndex := 264, descriptorIndex := 265, attributes := #[] }])
  fields := #[{ name := "documents", type := .int, accessFlags := 18, slot := 0, constantValue := 0 }, { name := "terms", type := .int, accessFlags := 18, slot := 1, constantValue := 0 }, { name := "queryWeight", type := .double, accessFlags := 18, slot := 2, constantValue := 0 }, { name := "DEFAULT_TERMS", type := .int, accessFlags := 25, slot := 0, constantValue := 0 }, { name := "DEFAULT_QUERY_WEIGHT", type := .double, accessFlags := 25, slot := 1, constantValue := 0 }, { name := "QUERY_WEIGHT_RANGE", type := (.object "java/lang/String"), accessFlags := 25, slot := 2, constantValue := 0 }]
  methods := #[k3m0]
  instanceTypes := #[.int, .int, .double]
  staticTypes := #[.int, .double, (.object "java/lang/String")]
  resolved := Array.replicate 355 none
  statics := none }

def pool4 : Array CpInfo := pool [(1, u "java/lang/Cloneable"), (0, .class_ 1), (0, u "java/lang/Object"), (0, .class_ 3)] 3

/-- java/lang/Cloneable -/
def k4 : Class := { plain "java/lang/Cloneable" (some 0) with
  accessFlags := 1537
  interfaces := #[]
  cf := some (fileOf pool4 2 #[] #[] 1537 4 #[] #[])
  fields := #[]
  methods := #[]
  instanceTypes := #[]
  staticTypes := #[]
  resolved := Array.replicate 8 none
  statics := none }

def pool5 : Array CpInfo := pool [(1, u "java/io/Serializable"), (0, .class_ 1), (0, u "java/lang/Object"), (0, .class_ 3)] 3

/-- java/io/Serializable -/
def k5 : Class := { plain "java/io/Serializable" (some 0) with
  accessFlags := 1537
  interfaces := #[]
  cf := some (fileOf pool5 2 #[] #[] 1537 4 #[] #[])
  fields := #[]
  methods := #[]
  instanceTypes := #[]
  staticTypes := #[]
  resolved := Array.replicate 8 none
  statics := none }

/-- the primitive byte -/
def k6 : Class := { plain "byte" none with kind := .primitive 'B', accessFlags := 0x411 }
/-- [B -/
def k7 : Class := { plain "[B" (some 0) with kind := .array 6 .byte, interfaces := #[4, 5], accessFlags := 1041 }

/-- the primitive int -/
def k8 : Class := { plain "int" none with kind := .primitive 'I', accessFlags := 0x411 }
/-- [I -/
def k9 : Class := { plain "[I" (some 0) with kind := .array 8 .int, interfaces := #[4, 5], accessFlags := 1041 }

def heap : Heap := #[]
def classes : Array Class := #[k0, k1, k2, k3, k4, k5, k6, k7, k8, k9]
def interned : List (Array UInt16 × Addr) := []
def slotsUsed : Nat := 0
def theMethod : MethodId := ⟨1, 1⟩
def args0 : Array Value := #[.int 3, .int 7]
def aboutOver (below : List Frame) : State where
  vm := { classes := classes, interned := interned.toArray }
  heap := heap
  slotsUsed := slotsUsed
  threads := #[{ frames := .invoking theMethod args0 :: below }]
def below0 : List Frame := [.native { method := ⟨0, 0⟩, args := #[] }]
def about1 : State := aboutOver below0
def p0 : Program := .bare "" "" ""
def e0 : Env := launch0.env 0 0 0
theorem w_frames : about1.frames = Frame.invoking theMethod args0 :: below0 := rfl
set_option maxRecDepth 65536 in
theorem w_args : argsFit about1.vm theMethod args0 = true := by decide +kernel
set_option maxRecDepth 65536 in
theorem w_heap : heapFits about1 = true := by decide +kernel
set_option maxRecDepth 65536 in
theorem w_runnable : about1.curStatus? = some .runnable := by decide +kernel
set_option maxRecDepth 65536 in
theorem w_alone : about1.alone = true := by decide +kernel
set_option maxRecDepth 65536 in
theorem w_named : about1.methodNamed? x = some theMethod := by decide +kernel
set_option maxRecDepth 65536 in
theorem w_hears : about1.hears theMethod below0 = true := by decide +kernel
set_option maxRecDepth 65536 in
theorem w_ripe : about1.ripe theMethod args0 below0 = true := by decide +kernel
theorem w_running : about1.status = .running := rfl
set_option maxRecDepth 65536 in
theorem w_room : about1.hasRoom e0.platform room_1 = true :=
  launch0.hasRoom_least _ room_1 (by decide +kernel) (by decide +kernel) (by decide +kernel) (by decide +kernel) (by decide +kernel) (by decide +kernel)
theorem allAtoms_all (ts : List Jvm.Cond) (a : Array Jvm.Value) (st : Jvm.State) : (allAtoms ts).before a st = ts.all (fun c => c.before a st) := by
  induction ts with
  | nil => rfl
  | cons c t ih =>
    show (Jvm.Cond.and c (allAtoms t)).before a st = _
    rw [Jvm.Cond.before_and, ih, List.all_cons]
def words1 : List Jvm.Cond := Jvm.Cond.code x code maxLocals ret :: tables_1
/-- a 'code' word, met by the world's own term for the bytes: nothing is compared byte by byte -/
theorem code_word {y : MethodName} {bytes : ByteArray} {mx : Nat} {rt : Option FieldType} {a : Array Value} {s : State} {m : MethodId} {meth : Method} {c : Code} (h1 : s.methodNamed? y = some m) (h2 : s.vm.method? m = some meth) (h3 : meth.code = some c) (h4 : c.code = bytes)
    (h5 : (c.maxLocals == mx && c.exceptionTable.isEmpty && decide (c.maxStack ≤ mostOperands) && decide (meth.sig.returnType = rt) && !meth.locks && decide (parseMethodDescriptor y.desc = some meth.sig)) = true) : (Jvm.Cond.code y bytes mx rt).before a s = true := by
  simp only [Bool.and_eq_true, beq_iff_eq, Bool.not_eq_true', decide_eq_true_eq] at h5
  obtain ⟨⟨⟨⟨⟨g1, g2⟩, g3⟩, g4⟩, g5⟩, g6⟩ := h5
  simp [Cond.before, Cond.holds, Cond.value, h1, h2, h3, h4, g1, g2, g3, g4, g5, g6]
def isCode : Jvm.Cond → Bool
  | .code _ _ _ _ => true
  | _ => false
theorem all_split {L : List Jvm.Cond} {P : Jvm.Cond → Bool} (h1 : L.all (fun c => isCode c || P c) = true) (h2 : ∀ c ∈ L.filter isCode, P c = true) : L.all P = true := by
  refine List.all_eq_true.mpr fun c hc => ?_
  have h := List.all_eq_true.mp h1 c hc
  rcases Bool.eq_false_or_eq_true (isCode c) with hi | hi
  · exact h2 c (List.mem_filter.mpr ⟨hc, hi⟩)
  · simpa [hi] using h
set_option maxRecDepth 65536 in
theorem w_c0 : (Jvm.Cond.code x code maxLocals ret).before args0 about1 = true := code_word (m := ⟨1, 1⟩) (meth := k1m1) (c := k1c1) (by decide +kernel) rfl rfl rfl (by decide +kernel)
set_option maxRecDepth 65536 in
theorem w_c1 : (Jvm.Cond.code ({ cls := "com/example/amherst/amherst/Feedback", name := "admitsQueryWeight", desc := "(D)Z" } : Jvm.MethodName) prog_17_method_2_code (2 : Nat) (Option.some Jvm.ClassFile.FieldType.boolean)).before args0 about1 = true := code_word (m := ⟨3, 0⟩) (meth := k3m0) (c := k3c0) (by decide +kernel) rfl rfl rfl (by decide +kernel)
def codes1 : List Jvm.Cond := [Jvm.Cond.code x code maxLocals ret, Jvm.Cond.code ({ cls := "com/example/amherst/amherst/Feedback", name := "admitsQueryWeight", desc := "(D)Z" } : Jvm.MethodName) prog_17_method_2_code (2 : Nat) (Option.some Jvm.ClassFile.FieldType.boolean)]
set_option maxRecDepth 65536 in
theorem codes_eq : words1.filter isCode = codes1 := rfl
theorem w_codes : ∀ c ∈ words1.filter isCode, c.before args0 about1 = true := by
  rw [codes_eq]
  intro c hc
  simp only [codes1, List.mem_cons, List.not_mem_nil, or_false] at hc
  rcases hc with rfl | rfl
  · exact w_c0
  · exact w_c1
set_option maxRecDepth 65536 in
theorem w_t1 : words1.all (fun c => isCode c || c.before args0 about1) = true := by decide +kernel
theorem w_tables : (allAtoms (Jvm.Cond.code x code maxLocals ret :: tables_1)).before args0 about1 = true := by
  rw [allAtoms_all]
  show words1.all (fun c => c.before args0 about1) = true
  refine all_split ?_ w_codes
  rw [w_t1]
set_option maxRecDepth 65536 in
theorem w_case : (Jvm.Cond.and given_1 narrow_1).before args0 about1 = true := by decide +kernel
theorem w_applies : (headSpec (Jvm.Cond.code x code maxLocals ret :: tables_1) room_1).applies x e0.platform about1 = true :=
  (Spec.applies_iff w_frames).mpr ⟨w_running, w_runnable, w_alone, w_named, w_hears, w_ripe, w_room, w_tables⟩
theorem atStart : AtStart classFile x code maxLocals ret World_1 tables_1 room_1 Calls_1 rest_1 Pre_1 launch0 p0 e0 about1 theMethod args0 below0 :=
  ⟨lists_1, trivial, launch0.admits_env _ _ _, launch0.least_env, fairChoices_fair.cas, fairChoices_fair.clock, w_frames, w_args, w_heap, w_applies, trivial, trivial, w_case⟩
end start1
theorem witness_1 : WitnessClaimed_1 := ⟨start1.p0, start1.e0, start1.about1, start1.theMethod, start1.args0, start1.below0, start1.atStart⟩
end Jvm.Pilot.@@N@@
