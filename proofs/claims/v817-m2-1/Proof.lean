import JvmDerived
import JvmDerived.Pilot.@@N@@Statement
import JvmDerived.Pilot.@@N@@Code
set_option linter.unusedVariables false
set_option linter.unusedSimpArgs false
namespace Jvm.RoadKit
open Sem ClassFile Op Lib Jvm.Stand Jvm.Free Jvm.LawKit
section New
variable {p : Program} {l : Launch} {e : Env} {R : Room} {s : State} {m : MethodId} {args : Array Value} {below : List Frame} {meth : Method} {c : Code} {T : State} {locs : List Loc} {cells slots : Nat}
theorem retI (X : Stand p l e R s m args below meth c T locs cells slots) (hx : p.tables.exec = Jvm.exec) {pc : Nat} {Ls : Array Slot} {z : Int32} {rest : List Value} (hret : meth.sig.returnType = some .int) (hd : decode c.code pc = .ok (.ireturn, 1)) {fs : List Frame}
    (hl : ∀ (f : JFrame) (acts : List Action), f.method = m → f.locked = none → f.entered = [] → (doReturn e (T.setTop f) acts (some (.int z))).1 = T.setFrames fs) : Steps p.tables e below (T.setTop (mkF m pc Ls (.int z :: rest))) (T.setFrames fs) := by
  have hm' : T.vm.method? m = some meth := X.method'
  have hn : narrow .int (.int z) = .int z := rfl
  show Steps p.tables e below (T.setTop { method := m, pc := pc, locals := Ls, stack := _ :: rest, locked := none }) _
  jvm_step X.here [X.here.top, hx, hd, hm', hret, hn]
  first | (intro acts; rw [hl _ acts rfl rfl rfl]) | rw [hl _ _ rfl rfl rfl]
  exact Steps.refl _
end New
end Jvm.RoadKit
namespace Jvm.Pilot.@@N@@
open Jvm Jvm.ClassFile Sem Op Lib Jvm.Free Jvm.Stand Jvm.LawKit Jvm.RoadKit Bundle Jvm.Pilot.@@N@@.Jvm.D
theorem own_lrem (x y : Int64) : x - x / y * y = x % y := by
  apply Int64.toInt_inj.mp
  have h1 := Int64.le_toInt (x % y)
  have h2 := Int64.toInt_lt (x % y)
  rw [Int64.toInt_sub, Int64.toInt_mul, Int64.toInt_div, Int.bmod_mul_bmod, Int.sub_bmod_bmod, Int.mul_comm (x.toInt.tdiv y.toInt), ← Int.tmod_def, ← Int64.toInt_mod]
  exact Int.bmod_eq_of_le_mul_two (by omega) (by omega)
def own_ru (v : Int64) (a : Int32) : Int64 := (((v + (a.toInt64)) - (1 : Int64)) &&& (-(a.toInt64)))
def own_end (v : Int64) (a n : Int32) : Int64 := if n = 0 then v else own_ru v a + n.toInt64
theorem own_pow {a p : Int32} (h : a = (1 : Int32) <<< (((p &&& 31) - (p &&& 31) / 31 * 31) &&& 31)) : ∃ k : Nat, k < 31 ∧ a.toInt = 2 ^ k := by
  have t : ∀ j : Fin 32, ∃ k : Fin 31, ((1 : Int32) <<< (((Int32.ofNat j.val) - (Int32.ofNat j.val) / 31 * 31) &&& 31)).toInt = 2 ^ k.val := by decide +kernel
  have b : (p &&& 31).toBitVec.toNat < 32 := by
    simp only [Int32.toBitVec_and, BitVec.toNat_and]
    exact Nat.lt_succ_of_le Nat.and_le_right
  have e : (p &&& 31) = Int32.ofNat (p &&& 31).toBitVec.toNat := by
    apply Int32.toBitVec_inj.mp
    show _ = BitVec.ofNat 32 _
    rw [BitVec.ofNat_toNat]; simp
  rw [e] at h
  obtain ⟨k, hk⟩ := t ⟨_, b⟩
  exact ⟨k.val, k.isLt, by rw [h]; exact hk⟩
theorem own_nz {a p : Int32} (h : a = (1 : Int32) <<< (((p &&& 31) - (p &&& 31) / 31 * 31) &&& 31)) : a.toInt64 ≠ 0 := fun q => by
  obtain ⟨k, -, hk⟩ := own_pow h
  have := congrArg Int64.toInt q
  rw [Int32.toInt_toInt64, hk] at this
  have z : (0 : Int64).toInt = 0 := rfl
  have p : (0 : Int) < 2 ^ k := Int.pow_pos (by decide)
  omega
theorem own_eb {e q : Int64} (h : e = q &&& 4611686018427387903) : 0 ≤ e.toInt ∧ e.toInt < 2 ^ 62 := by
  have b : (q &&& 4611686018427387903).toBitVec.toNat ≤ 4611686018427387903 := by
    rw [Int64.toBitVec_and, BitVec.toNat_and]
    exact Nat.and_le_right
  rw [h]
  show 0 ≤ (q &&& 4611686018427387903).toBitVec.toInt ∧ (q &&& 4611686018427387903).toBitVec.toInt < 2 ^ 62
  rw [BitVec.toInt_eq_toNat_of_lt (by omega)]
  omega
/-- x and not y, where y is a run of low bits -/
theorem own_mask (x y : BitVec 64) : x &&& ~~~y = x - (x &&& y) := by
  have h : (x &&& y) + (x &&& ~~~y) = x := by
    rw [BitVec.add_eq_or_of_and_eq_zero]
    · apply BitVec.eq_of_getLsbD_eq; intro i hi
      simp only [BitVec.getLsbD_or, BitVec.getLsbD_and, BitVec.getLsbD_not]
      cases x.getLsbD i <;> cases y.getLsbD i <;> simp [hi]
    · apply BitVec.eq_of_getLsbD_eq; intro i hi
      simp only [BitVec.getLsbD_and, BitVec.getLsbD_not]
      cases x.getLsbD i <;> cases y.getLsbD i <;> simp [hi]
  rw [BitVec.eq_sub_iff_add_eq, BitVec.add_comm]; exact h
theorem own_neg (a : BitVec 64) : -a = ~~~(a - 1#64) := by
  rw [BitVec.not_eq_neg_add, BitVec.neg_sub]
  apply BitVec.eq_of_toInt_eq
  simp
  exact (BitVec.toInt_bmod_cancel (-a)).symm
theorem own_tn {x : Int64} (h : 0 ≤ x.toInt) : (x.toBitVec.toNat : Int) = x.toInt := by
  have e : x.toInt = x.toBitVec.toInt := rfl
  rw [BitVec.toInt_eq_toNat_cond] at e
  have := x.toBitVec.isLt
  split at e <;> omega
theorem own_round (e a : Int64) {k : Nat} (hk : k < 31) (ha : a.toInt = 2 ^ k) (h0 : 0 ≤ e.toInt) (h1 : e.toInt < 2 ^ 62) :
    ((e + a - 1) &&& (-a)) = if e - e / a * a = 0 then e else e - (e - e / a * a) + a := by
  have p0 : (0 : Int) < 2 ^ k := Int.pow_pos (by decide)
  have p1 : (2 : Int) ^ k ≤ 2 ^ 30 := by
    have : (2 : Nat) ^ k ≤ 2 ^ 30 := Nat.pow_le_pow_right (by decide) (by omega)
    exact_mod_cast this
  have o1 : (1 : Int64).toInt = 1 := rfl
  have s1 : (e + a).toInt = e.toInt + a.toInt := by rw [Int64.toInt_add]; apply Int.bmod_eq_of_le <;> omega
  have s2 : (e + a - 1).toInt = e.toInt + a.toInt - 1 := by rw [Int64.toInt_sub, s1, o1]; apply Int.bmod_eq_of_le <;> omega
  have s3 : (a - 1).toInt = a.toInt - 1 := by rw [Int64.toInt_sub, o1]; apply Int.bmod_eq_of_le <;> omega
  have nx := own_tn (x := e + a - 1) (by omega)
  have na := own_tn (x := a - 1) (by omega)
  have nk : (a - 1).toBitVec.toNat = 2 ^ k - 1 := by
    have c : ((2 ^ k : Nat) : Int) = 2 ^ k := by norm_cast
    have : 0 < 2 ^ k := Nat.two_pow_pos k
    omega
  have mk : (e + a - 1) &&& (-a) = (e + a - 1) - ((e + a - 1) &&& (a - 1)) := by
    apply Int64.toBitVec_inj.mp
    rw [Int64.toBitVec_and, Int64.toBitVec_neg, own_neg]
    show _ = (e + a - 1).toBitVec - ((e + a - 1) &&& (a - 1)).toBitVec
    rw [Int64.toBitVec_and]
    exact own_mask _ _
  have mv : ((e + a - 1) &&& (a - 1)).toBitVec.toNat = (e + a - 1).toBitVec.toNat % 2 ^ k := by
    rw [Int64.toBitVec_and, BitVec.toNat_and, nk, Nat.and_two_pow_sub_one_eq_mod]
  have mi : ((e + a - 1) &&& (a - 1)).toInt = (e + a - 1).toInt % 2 ^ k := by
    have lt : (e + a - 1).toBitVec.toNat % 2 ^ k < 2 ^ k := Nat.mod_lt _ (Nat.two_pow_pos k)
    have c : ((2 ^ k : Nat) : Int) = 2 ^ k := by norm_cast
    have e1 : ((e + a - 1) &&& (a - 1)).toInt = (((e + a - 1) &&& (a - 1)).toBitVec.toNat : Int) := by
      show ((e + a - 1) &&& (a - 1)).toBitVec.toInt = _
      rw [BitVec.toInt_eq_toNat_of_lt]
      rw [mv]; omega
    rw [e1, mv, Int.natCast_emod, nx, c]
  have q : ∀ x y : Int64, x - x / y * y = x % y := own_lrem
  have rm : (e - e / a * a).toInt = e.toInt % 2 ^ k := by
    rw [q, Int64.toInt_mod, ha, Int.tmod_eq_emod_of_nonneg h0]
  have r0 : 0 ≤ e.toInt % 2 ^ k := Int.emod_nonneg _ (by omega)
  have r1 : e.toInt % 2 ^ k < 2 ^ k := Int.emod_lt_of_pos _ p0
  have key : (2 : Int) ^ k * (e.toInt / 2 ^ k) + e.toInt % 2 ^ k = e.toInt := Int.mul_ediv_add_emod _ _
  have xm : (e.toInt + a.toInt - 1) % 2 ^ k = (e.toInt % 2 ^ k + 2 ^ k - 1) % 2 ^ k := by
    rw [ha, show e.toInt + 2 ^ k - 1 = (e.toInt % 2 ^ k + 2 ^ k - 1) + 2 ^ k * (e.toInt / 2 ^ k) by omega, Int.add_mul_emod_self_left]
  rw [mk]
  apply Int64.toInt_inj.mp
  have lhs : ((e + a - 1) - ((e + a - 1) &&& (a - 1))).toInt = (e.toInt + a.toInt - 1) - (e.toInt % 2 ^ k + 2 ^ k - 1) % 2 ^ k := by
    have m0 : 0 ≤ (e.toInt % 2 ^ k + 2 ^ k - 1) % 2 ^ k := Int.emod_nonneg _ (by omega)
    have m1 : (e.toInt % 2 ^ k + 2 ^ k - 1) % 2 ^ k < 2 ^ k := Int.emod_lt_of_pos _ p0
    rw [Int64.toInt_sub, mi, s2, xm]; apply Int.bmod_eq_of_le <;> omega
  rw [lhs]
  by_cases z : e.toInt % 2 ^ k = 0
  · rw [if_pos (Int64.toInt_inj.mp (rm.trans (z.trans rfl))), z, Int.emod_eq_of_lt (by omega) (by omega)]
    omega
  · have nz : ¬ (e - e / a * a) = 0 := fun w => z (by rw [← rm, w]; rfl)
    rw [if_neg nz]
    have t1 : (e - (e - e / a * a)).toInt = e.toInt - e.toInt % 2 ^ k := by rw [Int64.toInt_sub, rm]; apply Int.bmod_eq_of_le <;> omega
    have t2 : (e - (e - e / a * a) + a).toInt = e.toInt - e.toInt % 2 ^ k + a.toInt := by rw [Int64.toInt_add, t1]; apply Int.bmod_eq_of_le <;> omega
    rw [t2, show e.toInt % 2 ^ k + 2 ^ k - 1 = (e.toInt % 2 ^ k - 1) + 2 ^ k * 1 by omega, Int.add_mul_emod_self_left, Int.emod_eq_of_lt (by omega) (by omega)]
    omega
theorem own_law {e q : Int64} {a n p : Int32} (he : e = q &&& 4611686018427387903) (ha : a = (1 : Int32) <<< (((p &&& 31) - (p &&& 31) / 31 * 31) &&& 31)) :
    own_end e a n = if n = 0 then e else ((if e - e / a.toInt64 * a.toInt64 = 0 then e else e - (e - e / a.toInt64 * a.toInt64) + a.toInt64) + n.toInt64) := by
  obtain ⟨k, hk, h⟩ := own_pow ha
  obtain ⟨b0, b1⟩ := own_eb he
  unfold own_end own_ru
  rw [own_round e a.toInt64 hk (by rw [Int32.toInt_toInt64]; exact h) b0 b1]
theorem d2_0 : decode prog_42_method_18_code 0 = .ok (.lload_n 0, 1) := by decide +kernel
theorem d2_1 : decode prog_42_method_18_code 1 = .ok (.iload_n 2, 1) := by decide +kernel
theorem d2_2 : decode prog_42_method_18_code 2 = .ok (.i2l, 1) := by decide +kernel
theorem d2_3 : decode prog_42_method_18_code 3 = .ok (.ladd, 1) := by decide +kernel
theorem d2_4 : decode prog_42_method_18_code 4 = .ok (.lconst 1, 1) := by decide +kernel
theorem d2_5 : decode prog_42_method_18_code 5 = .ok (.lsub, 1) := by decide +kernel
theorem d2_6 : decode prog_42_method_18_code 6 = .ok (.iload_n 2, 1) := by decide +kernel
theorem d2_7 : decode prog_42_method_18_code 7 = .ok (.i2l, 1) := by decide +kernel
theorem d2_8 : decode prog_42_method_18_code 8 = .ok (.lneg, 1) := by decide +kernel
theorem d2_9 : decode prog_42_method_18_code 9 = .ok (.land, 1) := by decide +kernel
theorem d2_10 : decode prog_42_method_18_code 10 = .ok (.lreturn, 1) := by decide +kernel
theorem pn_2 : plainName "com/example/flatwire/flatwire/layout/Layouts" = true := by first | (simp [plainName, overriddenIn]; done) | decide +kernel
theorem ef_2 (m : MethodId) (q0 : Int64) (p1 : Int32) : entryFrame m #[(.long q0), (.int p1)] 3 = (mkF m 0 #[.val (.long q0), .second, .val (.int p1)] []) := by first | (simp [entryFrame, mkF, argsToLocals, Value.category]; done) | rfl
def Q2 (Z : State) (q0 : Int64) (p1 : Int32) (h0 : Heap) (n0 : Nat) (v : Option Value) (h : Heap) (L : List Loc) : Prop := v = some (.long (own_ru q0 p1)) ∧ Fr n0 L ∧ h = h0
set_option maxRecDepth 65536 in
set_option maxHeartbeats 40000000 in
theorem rm2 (l : Launch) (Z : State) (a0 : Array Value) (hw : ∀ d ∈ tables_1, d.before a0 Z = true) (ws : List Jvm.Cond) (q0 : Int64) (p1 : Int32) (h0 : Heap) (n0 : Nat) (Z0 : n0 ≤ h0.size) :
    MetFree l (⟨"com/example/flatwire/flatwire/layout/Layouts", "roundUp", "(JI)J"⟩ : MethodName) (head1 (Jvm.Cond.code (⟨"com/example/flatwire/flatwire/layout/Layouts", "roundUp", "(JI)J"⟩ : MethodName) prog_42_method_18_code 3 (some .long) :: ws) ({ frames := 0, cells := 0, slots := 0, locals := 0 } : Room)) (fun a U => a = #[(.long q0), (.int p1)] ∧ Z.Warmed39 U.vm ∧ U.heap = h0) (fun _ _ _ _ _ => True) (fun _ U o U' => ∃ v L, o = .returned v ∧ Q2 Z q0 p1 h0 n0 v U'.heap L ∧ FrameEnd U o U' L ({ frames := 0, cells := 0, slots := 0, locals := 0 } : Room).cells ({ frames := 0, cells := 0, slots := 0, locals := 0 } : Room).slots) := by
  refine MetFree.of_bodySF (plainFor_of_name pn_2) hisR ?_
  intro p e s m args below meth c s₁ Bd hml0 hP hK
  obtain ⟨rfl, hZ, hh⟩ := hP
  have hx := Bd.exec
  have hby := Bd.bytes
  have hml : c.maxLocals = 3 := hml0
  have hown : s.vm.findClass "com/example/flatwire/flatwire/layout/Layouts" = some m.cls := findClass_of_methodNamed Bd.named
  have hnm := (name_of_methodNamed Bd.named Bd.method).1
  have X0 : Stand p l e ({ frames := 0, cells := 0, slots := 0, locals := 0 } : Room) s m #[(.long q0), (.int p1)] below meth c s₁ [] 0 0 := Stand.of_body Bd
  have e0 : s₁.heap = h0 := by rw [← hh, Bd.state]; rfl
  have N0 := Fr.nil n0
  have K0 := Keep.refl h0 ([] : List Addr)
  have pre0 : ∀ t, Steps p.tables e below (s₁.setTop (mkF m 0 #[.val (.long q0), .second, .val (.int p1)] [])) t → Steps p.tables e below (s₁.setTop (entryFrame m #[(.long q0), (.int p1)] 3)) t := fun t k => castTop (ef_2 m q0 p1) k
  obtain ⟨fs, hr, hrun, hended, hW, hsame⟩ := X0.leave (v := some (.long (own_ru q0 p1))) (fun h => by rw [Bd.returns] at h; cases h)
  refine ⟨_, _, pre0 _ ?_, hrun, hended, _, _, rfl, ?_, ⟨_, rfl⟩, hW, hsame.mono (by decide) (by decide)⟩
  ·
    show Steps p.tables e below (s₁.setTop (mkF m 0 #[.val (.long q0), .second, .val (.int p1)] [])) _
    refine XS.lloadN X0.here hx rfl (hb hby d2_0) rfl ?_
    show Steps p.tables e below (s₁.setTop (mkF m 1 #[.val (.long q0), .second, .val (.int p1)] [(.long q0)])) _
    refine XS.iloadN X0.here hx rfl (hb hby d2_1) rfl ?_
    show Steps p.tables e below (s₁.setTop (mkF m 2 #[.val (.long q0), .second, .val (.int p1)] [(.int p1), (.long q0)])) _
    refine XS.i2l X0.here hx rfl (hb hby d2_2) rfl ?_
    show Steps p.tables e below (s₁.setTop (mkF m 3 #[.val (.long q0), .second, .val (.int p1)] [(.long (p1.toInt64)), (.long q0)])) _
    refine XS.ladd X0.here hx rfl (hb hby d2_3) rfl ?_
    show Steps p.tables e below (s₁.setTop (mkF m 4 #[.val (.long q0), .second, .val (.int p1)] [(.long (q0 + (p1.toInt64)))])) _
    refine XS.lconst X0.here hx rfl (hb hby d2_4) ?_
    show Steps p.tables e below (s₁.setTop (mkF m 5 #[.val (.long q0), .second, .val (.int p1)] [(.long (1 : Int64)), (.long (q0 + (p1.toInt64)))])) _
    refine XS.lsub X0.here hx rfl (hb hby d2_5) rfl ?_
    show Steps p.tables e below (s₁.setTop (mkF m 6 #[.val (.long q0), .second, .val (.int p1)] [(.long ((q0 + (p1.toInt64)) - (1 : Int64)))])) _
    refine XS.iloadN X0.here hx rfl (hb hby d2_6) rfl ?_
    show Steps p.tables e below (s₁.setTop (mkF m 7 #[.val (.long q0), .second, .val (.int p1)] [(.int p1), (.long ((q0 + (p1.toInt64)) - (1 : Int64)))])) _
    refine XS.i2l X0.here hx rfl (hb hby d2_7) rfl ?_
    show Steps p.tables e below (s₁.setTop (mkF m 8 #[.val (.long q0), .second, .val (.int p1)] [(.long (p1.toInt64)), (.long ((q0 + (p1.toInt64)) - (1 : Int64)))])) _
    refine XS.lneg X0.here hx rfl (hb hby d2_8) rfl ?_
    show Steps p.tables e below (s₁.setTop (mkF m 9 #[.val (.long q0), .second, .val (.int p1)] [(.long (-(p1.toInt64))), (.long ((q0 + (p1.toInt64)) - (1 : Int64)))])) _
    refine XS.land X0.here hx rfl (hb hby d2_9) rfl ?_
    show Steps p.tables e below (s₁.setTop (mkF m 10 #[.val (.long q0), .second, .val (.int p1)] [(.long (((q0 + (p1.toInt64)) - (1 : Int64)) &&& (-(p1.toInt64))))])) _
    exact X0.lreturnOut hx Bd.returns (hb hby d2_10) hr
  ·
    show Q2 Z q0 p1 h0 n0 _ s₁.heap _
    rw [e0]
    exact ⟨rfl, N0, rfl⟩
theorem d1_0 : decode prog_50_method_8_code 0 = .ok (.iload_n 3, 1) := by decide +kernel
theorem d1_1 : decode prog_50_method_8_code 1 = .ok (.ifCond .ne 7, 3) := by decide +kernel
theorem d1_4 : decode prog_50_method_8_code 4 = .ok (.lload_n 0, 1) := by decide +kernel
theorem d1_5 : decode prog_50_method_8_code 5 = .ok (.goto 11, 3) := by decide +kernel
theorem d1_8 : decode prog_50_method_8_code 8 = .ok (.lload_n 0, 1) := by decide +kernel
theorem d1_9 : decode prog_50_method_8_code 9 = .ok (.iload_n 2, 1) := by decide +kernel
theorem d1_10 : decode prog_50_method_8_code 10 = .ok (.invokestatic 228, 3) := by decide +kernel
theorem d1_13 : decode prog_50_method_8_code 13 = .ok (.iload_n 3, 1) := by decide +kernel
theorem d1_14 : decode prog_50_method_8_code 14 = .ok (.i2l, 1) := by decide +kernel
theorem d1_15 : decode prog_50_method_8_code 15 = .ok (.ladd, 1) := by decide +kernel
theorem d1_16 : decode prog_50_method_8_code 16 = .ok (.lreturn, 1) := by decide +kernel
theorem pn_1 : plainName "com/example/flatwire/flatwire/message/MessageBuilder" = true := by first | (simp [plainName, overriddenIn]; done) | decide +kernel
theorem pd__JI_J : parseMethodDescriptor "(JI)J" = some ⟨[.long, .int], some .long⟩ := by decide +kernel
theorem ef_1 (m : MethodId) (q0 : Int64) (p1 : Int32) (p2 : Int32) : entryFrame m #[(.long q0), (.int p1), (.int p2)] 4 = (mkF m 0 #[.val (.long q0), .second, .val (.int p1), .val (.int p2)] []) := by first | (simp [entryFrame, mkF, argsToLocals, Value.category]; done) | rfl
def Q1 (Z : State) (q0 : Int64) (p1 : Int32) (p2 : Int32) (h0 : Heap) (n0 : Nat) (v : Option Value) (h : Heap) (L : List Loc) : Prop := v = some (.long (own_end q0 p1 p2)) ∧ Fr n0 L ∧ h = h0
set_option maxRecDepth 65536 in
set_option maxHeartbeats 40000000 in
theorem rm1 (l : Launch) (Z : State) (a0 : Array Value) (hw : ∀ d ∈ tables_1, d.before a0 Z = true) (ws : List Jvm.Cond) (q0 : Int64) (p1 : Int32) (p2 : Int32) (h0 : Heap) (n0 : Nat) (Z0 : n0 ≤ h0.size) :
    MetFree l (⟨"com/example/flatwire/flatwire/message/MessageBuilder", "end", "(JII)J"⟩ : MethodName) (head1 (Jvm.Cond.code (⟨"com/example/flatwire/flatwire/message/MessageBuilder", "end", "(JII)J"⟩ : MethodName) prog_50_method_8_code 4 (some .long) :: ws) ({ frames := 1, cells := 0, slots := 0, locals := 14 } : Room)) (fun a U => a = #[(.long q0), (.int p1), (.int p2)] ∧ Z.Warmed39 U.vm ∧ U.heap = h0) (fun _ _ _ _ _ => True) (fun _ U o U' => ∃ v L, o = .returned v ∧ Q1 Z q0 p1 p2 h0 n0 v U'.heap L ∧ FrameEnd U o U' L ({ frames := 1, cells := 0, slots := 0, locals := 14 } : Room).cells ({ frames := 1, cells := 0, slots := 0, locals := 14 } : Room).slots) := by
  refine MetFree.of_bodySF (plainFor_of_name pn_1) hisR ?_
  intro p e s m args below meth c s₁ Bd hml0 hP hK
  obtain ⟨rfl, hZ, hh⟩ := hP
  have hx := Bd.exec
  have hby := Bd.bytes
  have hml : c.maxLocals = 4 := hml0
  have hown : s.vm.findClass "com/example/flatwire/flatwire/message/MessageBuilder" = some m.cls := findClass_of_methodNamed Bd.named
  have hnm := (name_of_methodNamed Bd.named Bd.method).1
  have X0 : Stand p l e ({ frames := 1, cells := 0, slots := 0, locals := 14 } : Room) s m #[(.long q0), (.int p1), (.int p2)] below meth c s₁ [] 0 0 := Stand.of_body Bd
  have e0 : s₁.heap = h0 := by rw [← hh, Bd.state]; rfl
  have N0 := Fr.nil n0
  have K0 := Keep.refl h0 ([] : List Addr)
  have pre0 : ∀ t, Steps p.tables e below (s₁.setTop (mkF m 0 #[.val (.long q0), .second, .val (.int p1), .val (.int p2)] [])) t → Steps p.tables e below (s₁.setTop (entryFrame m #[(.long q0), (.int p1), (.int p2)] 4)) t := fun t k => castTop (ef_1 m q0 p1 p2) k
  have pre1 : ∀ t, Steps p.tables e below (s₁.setTop (mkF m 1 #[.val (.long q0), .second, .val (.int p1), .val (.int p2)] [(.int p2)])) t → Steps p.tables e below (s₁.setTop (entryFrame m #[(.long q0), (.int p1), (.int p2)] 4)) t := by
    intro t kt
    refine pre0 _ ?_
    show Steps p.tables e below (s₁.setTop (mkF m 0 #[.val (.long q0), .second, .val (.int p1), .val (.int p2)] [])) _
    refine XS.iloadN X0.here hx rfl (hb hby d1_0) rfl ?_
    show Steps p.tables e below (s₁.setTop (mkF m 1 #[.val (.long q0), .second, .val (.int p1), .val (.int p2)] [(.int p2)])) _
    exact kt
  by_cases hc1_2 : p2 = (0 : Int32)
  ·
    have hv : own_end q0 p1 p2 = q0 := by simp [own_end, hc1_2]
    obtain ⟨fs, hr, hrun, hended, hW, hsame⟩ := X0.leave (v := some (.long (own_end q0 p1 p2))) (fun h => by rw [Bd.returns] at h; cases h)
    refine ⟨_, _, pre1 _ ?_, hrun, hended, _, _, rfl, ?_, ⟨_, rfl⟩, hW, hsame.mono (by decide) (by decide)⟩
    ·
      show Steps p.tables e below (s₁.setTop (mkF m 1 #[.val (.long q0), .second, .val (.int p1), .val (.int p2)] [(.int p2)])) _
      refine XS.ifNo X0.here hx rfl (hb hby d1_1) rfl ((if0 _ _).trans (teq hc1_2).2) ?_
      show Steps p.tables e below (s₁.setTop (mkF m 4 #[.val (.long q0), .second, .val (.int p1), .val (.int p2)] [])) _
      refine XS.lloadN X0.here hx rfl (hb hby d1_4) rfl ?_
      show Steps p.tables e below (s₁.setTop (mkF m 5 #[.val (.long q0), .second, .val (.int p1), .val (.int p2)] [(.long q0)])) _
      refine XS.goto X0.here hx rfl (pc0 := 5) (pc' := 16) rfl (hb hby d1_5) (by decide) (by decide) ?_
      show Steps p.tables e below (s₁.setTop (mkF m 16 #[.val (.long q0), .second, .val (.int p1), .val (.int p2)] [(.long q0)])) _
      rw [hv] at hr
      exact X0.lreturnOut hx Bd.returns (hb hby d1_16) hr
    ·
      show Q1 Z q0 p1 p2 h0 n0 _ s₁.heap _
      rw [e0]
      exact ⟨rfl, N0, rfl⟩
  ·
    obtain ⟨_, _, ⟨T3, L3, k3, n3⟩, -, X3, ⟨Lc3, hQ3, l3, y3, z3⟩, st3⟩ := Jvm.LawKit.callS X0 hx (y := (⟨"com/example/flatwire/flatwire/layout/Layouts", "roundUp", "(JI)J"⟩ : MethodName)) hown (mvT hZ (hw _ (List.mem_of_getElem? (i := 6) rfl))) (mvT hZ (hw _ (List.mem_of_getElem? (i := 7) rfl))) (mvT hZ (hw _ (List.mem_of_getElem? (i := 8) rfl))) (mvT hZ (hw _ (List.mem_of_getElem? (i := 9) rfl))) (by decide) (backOf (W := 0) (rm2 l Z a0 hw [] q0 p1 h0 n0 Z0) hZ (hw _ (List.mem_of_getElem? (i := 9) rfl)) (hw _ (List.mem_of_getElem? (i := 8) rfl)) (by decide) (by decide)) (g := (mkF m 10 #[.val (.long q0), .second, .val (.int p1), .val (.int p2)] [(.int p1), (.long q0)])) rfl (by rw [hml]; rfl) (argsL := [(.long q0), (.int p1)]) (rest := []) (lenOf pd__JI_J rfl) rfl (by show 2 * 0 + _ ≤ _; exact Nat.le_of_eq rfl) (hb hby d1_10) (fun _ _ => ⟨rfl, e0, (by decide : 0 + 0 ≤ _), (by decide : 0 + 0 ≤ _)⟩)
    dsimp only [Pt.U, Pt.locs, Pt.cells, Pt.slots] at X3 l3 y3 z3 st3 hQ3
    subst l3 y3 z3
    obtain ⟨rfl, N3q, hq3⟩ := hQ3
    have N3 := Fr.app N0 N3q
    have hv : own_end q0 p1 p2 = ((own_ru q0 p1) + (p2.toInt64)) := by simp [own_end, hc1_2]
    obtain ⟨fs, hr, hrun, hended, hW, hsame⟩ := X3.leave (v := some (.long (own_end q0 p1 p2))) (fun h => by rw [Bd.returns] at h; cases h)
    refine ⟨_, _, pre1 _ ?_, hrun, hended, _, _, rfl, ?_, ⟨_, rfl⟩, hW, hsame.mono (by decide) (by decide)⟩
    ·
      show Steps p.tables e below (s₁.setTop (mkF m 1 #[.val (.long q0), .second, .val (.int p1), .val (.int p2)] [(.int p2)])) _
      refine XS.ifYes X0.here hx rfl (pc0 := 1) (pc' := 8) rfl (hb hby d1_1) rfl ((if0 _ _).trans (feq hc1_2).2) (by decide) (by decide) ?_
      show Steps p.tables e below (s₁.setTop (mkF m 8 #[.val (.long q0), .second, .val (.int p1), .val (.int p2)] [])) _
      refine XS.lloadN X0.here hx rfl (hb hby d1_8) rfl ?_
      show Steps p.tables e below (s₁.setTop (mkF m 9 #[.val (.long q0), .second, .val (.int p1), .val (.int p2)] [(.long q0)])) _
      refine XS.iloadN X0.here hx rfl (hb hby d1_9) rfl ?_
      show Steps p.tables e below (s₁.setTop (mkF m 10 #[.val (.long q0), .second, .val (.int p1), .val (.int p2)] [(.int p1), (.long q0)])) _
      refine st3 _ ?_
      show Steps p.tables e below (T3.setTop (mkF m 13 #[.val (.long q0), .second, .val (.int p1), .val (.int p2)] [(.long (own_ru q0 p1))])) _
      refine XS.iloadN X3.here hx rfl (hb hby d1_13) rfl ?_
      show Steps p.tables e below (T3.setTop (mkF m 14 #[.val (.long q0), .second, .val (.int p1), .val (.int p2)] [(.int p2), (.long (own_ru q0 p1))])) _
      refine XS.i2l X3.here hx rfl (hb hby d1_14) rfl ?_
      show Steps p.tables e below (T3.setTop (mkF m 15 #[.val (.long q0), .second, .val (.int p1), .val (.int p2)] [(.long (p2.toInt64)), (.long (own_ru q0 p1))])) _
      refine XS.ladd X3.here hx rfl (hb hby d1_15) rfl ?_
      show Steps p.tables e below (T3.setTop (mkF m 16 #[.val (.long q0), .second, .val (.int p1), .val (.int p2)] [(.long ((own_ru q0 p1) + (p2.toInt64)))])) _
      rw [hv] at hr
      exact X3.lreturnOut hx Bd.returns (hb hby d1_16) hr
    ·
      show Q1 Z q0 p1 p2 h0 n0 _ T3.heap _
      rw [hq3]
      exact ⟨rfl, N3, rfl⟩
theorem pn_0 : plainName "com/example/flatwire/flatwire/message/MessageBuilderEndPinLaw" = true := by first | (simp [plainName, overriddenIn]; done) | decide +kernel
theorem pd__JII_J : parseMethodDescriptor "(JII)J" = some ⟨[.long, .int, .int], some .long⟩ := by decide +kernel
theorem ef_0 (m : MethodId) (q0 : Int64) (p1 : Int32) (p2 : Int32) (p3 : Int32) : entryFrame m #[(.long q0), (.int p1), (.int p2), (.int p3)] maxLocals = (mkF m 0 #[.val (.long q0), .second, .val (.int p1), .val (.int p2), .val (.int p3), .unset, .unset, .unset, .unset, .unset, .unset, .unset, .unset, .unset, .unset] []) := by first | (simp [entryFrame, mkF, argsToLocals, Value.category, maxLocals]; done) | rfl
def Q0 (Z : State) (q0 : Int64) (p1 : Int32) (p2 : Int32) (p3 : Int32) (h0 : Heap) (n0 : Nat) (v : Option Value) (h : Heap) (L : List Loc) : Prop := v = some (.int 1) ∧ Fr n0 L
set_option maxRecDepth 65536 in
set_option maxHeartbeats 40000000 in
theorem rm0 (l : Launch) (Z : State) (a0 : Array Value) (hw : ∀ d ∈ tables_1, d.before a0 Z = true) (ws : List Jvm.Cond) (q0 : Int64) (p1 : Int32) (p2 : Int32) (p3 : Int32) (h0 : Heap) (n0 : Nat) (Z0 : n0 ≤ h0.size) :
    MetFree l x (head1 (Jvm.Cond.code x code maxLocals ret :: ws) room_1) (fun a U => a = #[(.long q0), (.int p1), (.int p2), (.int p3)] ∧ Z.Warmed39 U.vm ∧ U.heap = h0) (fun _ _ _ _ _ => True) (fun _ U o U' => ∃ v L, o = .returned v ∧ Q0 Z q0 p1 p2 p3 h0 n0 v U'.heap L ∧ FrameEnd U o U' L 0 0) := by
  refine MetFree.of_bodySF (plainFor_of_name pn_0) hisR ?_
  intro p e s m args below meth c s₁ Bd hml0 hP hK
  obtain ⟨rfl, hZ, hh⟩ := hP
  have hx := Bd.exec
  have hby := Bd.bytes
  have hml : c.maxLocals = 15 := hml0
  have hown : s.vm.findClass "com/example/flatwire/flatwire/message/MessageBuilderEndPinLaw" = some m.cls := findClass_of_methodNamed Bd.named
  have hnm := (name_of_methodNamed Bd.named Bd.method).1
  have X0 : Stand p l e room_1 s m #[(.long q0), (.int p1), (.int p2), (.int p3)] below meth c s₁ [] 0 0 := Stand.of_body Bd
  have e0 : s₁.heap = h0 := by rw [← hh, Bd.state]; rfl
  have N0 := Fr.nil n0
  have K0 := Keep.refl h0 ([] : List Addr)
  have pre0 : ∀ t, Steps p.tables e below (s₁.setTop (mkF m 0 #[.val (.long q0), .second, .val (.int p1), .val (.int p2), .val (.int p3), .unset, .unset, .unset, .unset, .unset, .unset, .unset, .unset, .unset, .unset] [])) t → Steps p.tables e below (s₁.setTop (entryFrame m #[(.long q0), (.int p1), (.int p2), (.int p3)] maxLocals)) t := fun t k => castTop (ef_0 m q0 p1 p2 p3) k
  obtain ⟨ev1, hev1⟩ : ∃ z, z = (q0 &&& (4611686018427387903 : Int64)) := ⟨_, rfl⟩
  have pre2 : ∀ t, Steps p.tables e below (s₁.setTop (mkF m 5 #[.val (.long q0), .second, .val (.int p1), .val (.int p2), .val (.int p3), .unset, .unset, .unset, .unset, .unset, .unset, .unset, .unset, .unset, .unset] [(.long ev1)])) t → Steps p.tables e below (s₁.setTop (entryFrame m #[(.long q0), (.int p1), (.int p2), (.int p3)] maxLocals)) t := by
    intro t kt
    rw [hev1] at kt
    refine pre0 _ ?_
    show Steps p.tables e below (s₁.setTop (mkF m 0 #[.val (.long q0), .second, .val (.int p1), .val (.int p2), .val (.int p3), .unset, .unset, .unset, .unset, .unset, .unset, .unset, .unset, .unset, .unset] [])) _
    refine XS.lloadN X0.here hx rfl (hb hby at_0) rfl ?_
    show Steps p.tables e below (s₁.setTop (mkF m 1 #[.val (.long q0), .second, .val (.int p1), .val (.int p2), .val (.int p3), .unset, .unset, .unset, .unset, .unset, .unset, .unset, .unset, .unset, .unset] [(.long q0)])) _
    refine X0.ldc2Long hx hown (mvT hZ (hw _ (List.mem_of_getElem? (i := 0) rfl))) (g := (mkF m 1 #[.val (.long q0), .second, .val (.int p1), .val (.int p2), .val (.int p3), .unset, .unset, .unset, .unset, .unset, .unset, .unset, .unset, .unset, .unset] [(.long q0)])) rfl (hb hby at_1) _ ?_
    show Steps p.tables e below (s₁.setTop (mkF m 4 #[.val (.long q0), .second, .val (.int p1), .val (.int p2), .val (.int p3), .unset, .unset, .unset, .unset, .unset, .unset, .unset, .unset, .unset, .unset] [(.long (4611686018427387903 : Int64)), (.long q0)])) _
    refine XS.land X0.here hx rfl (hb hby at_4) rfl ?_
    show Steps p.tables e below (s₁.setTop (mkF m 5 #[.val (.long q0), .second, .val (.int p1), .val (.int p2), .val (.int p3), .unset, .unset, .unset, .unset, .unset, .unset, .unset, .unset, .unset, .unset] [(.long (q0 &&& (4611686018427387903 : Int64)))])) _
    exact kt
  obtain ⟨av3, hav3⟩ : ∃ z, z = ((1 : Int32) <<< (((p1 &&& (31 : Int32)) - (p1 &&& (31 : Int32)) / (31 : Int32) * (31 : Int32)) &&& 31)) := ⟨_, rfl⟩
  have pre4 : ∀ t, Steps p.tables e below (s₁.setTop (mkF m 16 #[.val (.long q0), .second, .val (.int p1), .val (.int p2), .val (.int p3), .val (.long ev1), .second, .unset, .unset, .unset, .unset, .unset, .unset, .unset, .unset] [(.int av3)])) t → Steps p.tables e below (s₁.setTop (entryFrame m #[(.long q0), (.int p1), (.int p2), (.int p3)] maxLocals)) t := by
    intro t kt
    rw [hav3] at kt
    refine pre2 _ ?_
    show Steps p.tables e below (s₁.setTop (mkF m 5 #[.val (.long q0), .second, .val (.int p1), .val (.int p2), .val (.int p3), .unset, .unset, .unset, .unset, .unset, .unset, .unset, .unset, .unset, .unset] [(.long ev1)])) _
    refine XS.lstore X0.here hx rfl (hb hby at_5) rfl (l' := #[.val (.long q0), .second, .val (.int p1), .val (.int p2), .val (.int p3), .val (.long ev1), .second, .unset, .unset, .unset, .unset, .unset, .unset, .unset, .unset]) rfl ?_
    show Steps p.tables e below (s₁.setTop (mkF m 7 #[.val (.long q0), .second, .val (.int p1), .val (.int p2), .val (.int p3), .val (.long ev1), .second, .unset, .unset, .unset, .unset, .unset, .unset, .unset, .unset] [])) _
    refine XS.iconst X0.here hx rfl (hb hby at_7) ?_
    show Steps p.tables e below (s₁.setTop (mkF m 8 #[.val (.long q0), .second, .val (.int p1), .val (.int p2), .val (.int p3), .val (.long ev1), .second, .unset, .unset, .unset, .unset, .unset, .unset, .unset, .unset] [(.int (1 : Int32))])) _
    refine XS.iloadN X0.here hx rfl (hb hby at_8) rfl ?_
    show Steps p.tables e below (s₁.setTop (mkF m 9 #[.val (.long q0), .second, .val (.int p1), .val (.int p2), .val (.int p3), .val (.long ev1), .second, .unset, .unset, .unset, .unset, .unset, .unset, .unset, .unset] [(.int p1), (.int (1 : Int32))])) _
    refine XS.bipush X0.here hx rfl (hb hby at_9) ?_
    show Steps p.tables e below (s₁.setTop (mkF m 11 #[.val (.long q0), .second, .val (.int p1), .val (.int p2), .val (.int p3), .val (.long ev1), .second, .unset, .unset, .unset, .unset, .unset, .unset, .unset, .unset] [(.int (31 : Int32)), (.int p1), (.int (1 : Int32))])) _
    refine XS.iand X0.here hx rfl (hb hby at_11) rfl ?_
    show Steps p.tables e below (s₁.setTop (mkF m 12 #[.val (.long q0), .second, .val (.int p1), .val (.int p2), .val (.int p3), .val (.long ev1), .second, .unset, .unset, .unset, .unset, .unset, .unset, .unset, .unset] [(.int (p1 &&& (31 : Int32))), (.int (1 : Int32))])) _
    refine XS.bipush X0.here hx rfl (hb hby at_12) ?_
    show Steps p.tables e below (s₁.setTop (mkF m 14 #[.val (.long q0), .second, .val (.int p1), .val (.int p2), .val (.int p3), .val (.long ev1), .second, .unset, .unset, .unset, .unset, .unset, .unset, .unset, .unset] [(.int (31 : Int32)), (.int (p1 &&& (31 : Int32))), (.int (1 : Int32))])) _
    refine XS.irem X0.here hx rfl (hb hby at_14) rfl (by decide) ?_
    show Steps p.tables e below (s₁.setTop (mkF m 15 #[.val (.long q0), .second, .val (.int p1), .val (.int p2), .val (.int p3), .val (.long ev1), .second, .unset, .unset, .unset, .unset, .unset, .unset, .unset, .unset] [(.int ((p1 &&& (31 : Int32)) - (p1 &&& (31 : Int32)) / (31 : Int32) * (31 : Int32))), (.int (1 : Int32))])) _
    refine XS.ishl X0.here hx rfl (hb hby at_15) rfl ?_
    show Steps p.tables e below (s₁.setTop (mkF m 16 #[.val (.long q0), .second, .val (.int p1), .val (.int p2), .val (.int p3), .val (.long ev1), .second, .unset, .unset, .unset, .unset, .unset, .unset, .unset, .unset] [(.int ((1 : Int32) <<< (((p1 &&& (31 : Int32)) - (p1 &&& (31 : Int32)) / (31 : Int32) * (31 : Int32)) &&& 31)))])) _
    exact kt
  have hnz : av3.toInt64 ≠ 0 := own_nz hav3
  obtain ⟨v6, hv6⟩ : ∃ z : Int32, z = if (p3 &&& (1 : Int32)) = (0 : Int32) then (0 : Int32) else (p2 &&& (2147483647 : Int32)) := ⟨_, rfl⟩
  have mg7 : ∀ t, Steps p.tables e below (s₁.setTop (mkF m 33 #[.val (.long q0), .second, .val (.int p1), .val (.int p2), .val (.int p3), .val (.long ev1), .second, .val (.int av3), .unset, .unset, .unset, .unset, .unset, .unset, .unset] [(.int v6)])) t → Steps p.tables e below (s₁.setTop (mkF m 22 #[.val (.long q0), .second, .val (.int p1), .val (.int p2), .val (.int p3), .val (.long ev1), .second, .val (.int av3), .unset, .unset, .unset, .unset, .unset, .unset, .unset] [(.int (p3 &&& (1 : Int32)))])) t := by
    intro t kt
    by_cases hm5 : (p3 &&& (1 : Int32)) = (0 : Int32)
    ·
      have ev6 : v6 = (0 : Int32) := by rw [hv6, if_pos hm5]
      rw [ev6] at kt
      refine (fun t (k : Steps p.tables e below (s₁.setTop (mkF m 22 #[.val (.long q0), .second, .val (.int p1), .val (.int p2), .val (.int p3), .val (.long ev1), .second, .val (.int av3), .unset, .unset, .unset, .unset, .unset, .unset, .unset] [(.int (p3 &&& (1 : Int32)))])) t) => k) _ ?_
      refine XS.ifNo X0.here hx rfl (hb hby at_22) rfl ((if0 _ _).trans (teq hm5).2) ?_
      show Steps p.tables e below (s₁.setTop (mkF m 25 #[.val (.long q0), .second, .val (.int p1), .val (.int p2), .val (.int p3), .val (.long ev1), .second, .val (.int av3), .unset, .unset, .unset, .unset, .unset, .unset, .unset] [])) _
      refine XS.iconst X0.here hx rfl (hb hby at_25) ?_
      show Steps p.tables e below (s₁.setTop (mkF m 26 #[.val (.long q0), .second, .val (.int p1), .val (.int p2), .val (.int p3), .val (.long ev1), .second, .val (.int av3), .unset, .unset, .unset, .unset, .unset, .unset, .unset] [(.int (0 : Int32))])) _
      refine XS.goto X0.here hx rfl (pc0 := 26) (pc' := 33) rfl (hb hby at_26) (by decide) (by decide) ?_
      show Steps p.tables e below (s₁.setTop (mkF m 33 #[.val (.long q0), .second, .val (.int p1), .val (.int p2), .val (.int p3), .val (.long ev1), .second, .val (.int av3), .unset, .unset, .unset, .unset, .unset, .unset, .unset] [(.int (0 : Int32))])) _
      exact kt
    ·
      have ev6 : v6 = (p2 &&& (2147483647 : Int32)) := by rw [hv6, if_neg hm5]
      rw [ev6] at kt
      refine (fun t (k : Steps p.tables e below (s₁.setTop (mkF m 22 #[.val (.long q0), .second, .val (.int p1), .val (.int p2), .val (.int p3), .val (.long ev1), .second, .val (.int av3), .unset, .unset, .unset, .unset, .unset, .unset, .unset] [(.int (p3 &&& (1 : Int32)))])) t) => k) _ ?_
      refine XS.ifYes X0.here hx rfl (pc0 := 22) (pc' := 29) rfl (hb hby at_22) rfl ((if0 _ _).trans (feq hm5).2) (by decide) (by decide) ?_
      show Steps p.tables e below (s₁.setTop (mkF m 29 #[.val (.long q0), .second, .val (.int p1), .val (.int p2), .val (.int p3), .val (.long ev1), .second, .val (.int av3), .unset, .unset, .unset, .unset, .unset, .unset, .unset] [])) _
      refine XS.iloadN X0.here hx rfl (hb hby at_29) rfl ?_
      show Steps p.tables e below (s₁.setTop (mkF m 30 #[.val (.long q0), .second, .val (.int p1), .val (.int p2), .val (.int p3), .val (.long ev1), .second, .val (.int av3), .unset, .unset, .unset, .unset, .unset, .unset, .unset] [(.int p2)])) _
      refine X0.ldcInt hx hown (mvT hZ (hw _ (List.mem_of_getElem? (i := 5) rfl))) (g := (mkF m 30 #[.val (.long q0), .second, .val (.int p1), .val (.int p2), .val (.int p3), .val (.long ev1), .second, .val (.int av3), .unset, .unset, .unset, .unset, .unset, .unset, .unset] [(.int p2)])) rfl (hb hby at_30) _ ?_
      show Steps p.tables e below (s₁.setTop (mkF m 32 #[.val (.long q0), .second, .val (.int p1), .val (.int p2), .val (.int p3), .val (.long ev1), .second, .val (.int av3), .unset, .unset, .unset, .unset, .unset, .unset, .unset] [(.int (2147483647 : Int32)), (.int p2)])) _
      refine XS.iand X0.here hx rfl (hb hby at_32) rfl ?_
      show Steps p.tables e below (s₁.setTop (mkF m 33 #[.val (.long q0), .second, .val (.int p1), .val (.int p2), .val (.int p3), .val (.long ev1), .second, .val (.int av3), .unset, .unset, .unset, .unset, .unset, .unset, .unset] [(.int (p2 &&& (2147483647 : Int32)))])) _
      exact kt
  obtain ⟨nv8, hnv8⟩ : ∃ z, z = v6 := ⟨_, rfl⟩
  have pre9 : ∀ t, Steps p.tables e below (s₁.setTop (mkF m 33 #[.val (.long q0), .second, .val (.int p1), .val (.int p2), .val (.int p3), .val (.long ev1), .second, .val (.int av3), .unset, .unset, .unset, .unset, .unset, .unset, .unset] [(.int nv8)])) t → Steps p.tables e below (s₁.setTop (entryFrame m #[(.long q0), (.int p1), (.int p2), (.int p3)] maxLocals)) t := by
    intro t kt
    rw [hnv8] at kt
    refine pre4 _ ?_
    show Steps p.tables e below (s₁.setTop (mkF m 16 #[.val (.long q0), .second, .val (.int p1), .val (.int p2), .val (.int p3), .val (.long ev1), .second, .unset, .unset, .unset, .unset, .unset, .unset, .unset, .unset] [(.int av3)])) _
    refine XS.istore X0.here hx rfl (hb hby at_16) rfl (l' := #[.val (.long q0), .second, .val (.int p1), .val (.int p2), .val (.int p3), .val (.long ev1), .second, .val (.int av3), .unset, .unset, .unset, .unset, .unset, .unset, .unset]) rfl ?_
    show Steps p.tables e below (s₁.setTop (mkF m 18 #[.val (.long q0), .second, .val (.int p1), .val (.int p2), .val (.int p3), .val (.long ev1), .second, .val (.int av3), .unset, .unset, .unset, .unset, .unset, .unset, .unset] [])) _
    refine XS.iload X0.here hx rfl (hb hby at_18) rfl ?_
    show Steps p.tables e below (s₁.setTop (mkF m 20 #[.val (.long q0), .second, .val (.int p1), .val (.int p2), .val (.int p3), .val (.long ev1), .second, .val (.int av3), .unset, .unset, .unset, .unset, .unset, .unset, .unset] [(.int p3)])) _
    refine XS.iconst X0.here hx rfl (hb hby at_20) ?_
    show Steps p.tables e below (s₁.setTop (mkF m 21 #[.val (.long q0), .second, .val (.int p1), .val (.int p2), .val (.int p3), .val (.long ev1), .second, .val (.int av3), .unset, .unset, .unset, .unset, .unset, .unset, .unset] [(.int (1 : Int32)), (.int p3)])) _
    refine XS.iand X0.here hx rfl (hb hby at_21) rfl ?_
    show Steps p.tables e below (s₁.setTop (mkF m 22 #[.val (.long q0), .second, .val (.int p1), .val (.int p2), .val (.int p3), .val (.long ev1), .second, .val (.int av3), .unset, .unset, .unset, .unset, .unset, .unset, .unset] [(.int (p3 &&& (1 : Int32)))])) _
    refine mg7 _ ?_
    show Steps p.tables e below (s₁.setTop (mkF m 33 #[.val (.long q0), .second, .val (.int p1), .val (.int p2), .val (.int p3), .val (.long ev1), .second, .val (.int av3), .unset, .unset, .unset, .unset, .unset, .unset, .unset] [(.int v6)])) _
    exact kt
  obtain ⟨rv11, hrv11⟩ : ∃ z, z = (ev1 - ev1 / (av3.toInt64) * (av3.toInt64)) := ⟨_, rfl⟩
  obtain ⟨v14, hv14⟩ : ∃ z : Int64, z = if rv11 = (0 : Int64) then ev1 else ((ev1 - rv11) + (av3.toInt64)) := ⟨_, rfl⟩
  obtain ⟨sv16, hsv16⟩ : ∃ z, z = v14 := ⟨_, rfl⟩
  obtain ⟨xv18, hxv18⟩ : ∃ z, z = (sv16 + (nv8.toInt64)) := ⟨_, rfl⟩
  obtain ⟨v20, hv20⟩ : ∃ z : Int64, z = if nv8 = (0 : Int32) then ev1 else xv18 := ⟨_, rfl⟩
  obtain ⟨s21, hs21⟩ : ∃ z : Slot, z = if nv8 = (0 : Int32) then (.unset : Slot) else .val (.long rv11) := ⟨_, rfl⟩
  obtain ⟨s22, hs22⟩ : ∃ z : Slot, z = if nv8 = (0 : Int32) then (.unset : Slot) else .second := ⟨_, rfl⟩
  obtain ⟨s23, hs23⟩ : ∃ z : Slot, z = if nv8 = (0 : Int32) then (.unset : Slot) else .val (.long sv16) := ⟨_, rfl⟩
  have mg24 : ∀ t, Steps p.tables e below (s₁.setTop (mkF m 86 #[.val (.long q0), .second, .val (.int p1), .val (.int p2), .val (.int p3), .val (.long ev1), .second, .val (.int av3), .val (.int nv8), .val (.long v20), .second, s21, s22, s23, s22] [])) t → Steps p.tables e below (s₁.setTop (mkF m 37 #[.val (.long q0), .second, .val (.int p1), .val (.int p2), .val (.int p3), .val (.long ev1), .second, .val (.int av3), .val (.int nv8), .unset, .unset, .unset, .unset, .unset, .unset] [(.int nv8)])) t := by
    intro t kt
    by_cases hm10 : nv8 = (0 : Int32)
    ·
      have ev20 : v20 = ev1 := by rw [hv20, if_pos hm10]
      have es21 : s21 = (.unset : Slot) := by rw [hs21, if_pos hm10]
      have es22 : s22 = (.unset : Slot) := by rw [hs22, if_pos hm10]
      have es23 : s23 = (.unset : Slot) := by rw [hs23, if_pos hm10]
      rw [ev20, es21, es22, es23] at kt
      refine (fun t (k : Steps p.tables e below (s₁.setTop (mkF m 37 #[.val (.long q0), .second, .val (.int p1), .val (.int p2), .val (.int p3), .val (.long ev1), .second, .val (.int av3), .val (.int nv8), .unset, .unset, .unset, .unset, .unset, .unset] [(.int nv8)])) t) => k) _ ?_
      refine XS.ifNo X0.here hx rfl (hb hby at_37) rfl ((if0 _ _).trans (teq hm10).2) ?_
      show Steps p.tables e below (s₁.setTop (mkF m 40 #[.val (.long q0), .second, .val (.int p1), .val (.int p2), .val (.int p3), .val (.long ev1), .second, .val (.int av3), .val (.int nv8), .unset, .unset, .unset, .unset, .unset, .unset] [])) _
      refine XS.lload X0.here hx rfl (hb hby at_40) rfl ?_
      show Steps p.tables e below (s₁.setTop (mkF m 42 #[.val (.long q0), .second, .val (.int p1), .val (.int p2), .val (.int p3), .val (.long ev1), .second, .val (.int av3), .val (.int nv8), .unset, .unset, .unset, .unset, .unset, .unset] [(.long ev1)])) _
      refine XS.lstore X0.here hx rfl (hb hby at_42) rfl (l' := #[.val (.long q0), .second, .val (.int p1), .val (.int p2), .val (.int p3), .val (.long ev1), .second, .val (.int av3), .val (.int nv8), .val (.long ev1), .second, .unset, .unset, .unset, .unset]) rfl ?_
      show Steps p.tables e below (s₁.setTop (mkF m 44 #[.val (.long q0), .second, .val (.int p1), .val (.int p2), .val (.int p3), .val (.long ev1), .second, .val (.int av3), .val (.int nv8), .val (.long ev1), .second, .unset, .unset, .unset, .unset] [])) _
      refine XS.goto X0.here hx rfl (pc0 := 44) (pc' := 86) rfl (hb hby at_44) (by decide) (by decide) ?_
      show Steps p.tables e below (s₁.setTop (mkF m 86 #[.val (.long q0), .second, .val (.int p1), .val (.int p2), .val (.int p3), .val (.long ev1), .second, .val (.int av3), .val (.int nv8), .val (.long ev1), .second, .unset, .unset, .unset, .unset] [])) _
      exact kt
    ·
      have ev20 : v20 = xv18 := by rw [hv20, if_neg hm10]
      have es21 : s21 = .val (.long rv11) := by rw [hs21, if_neg hm10]
      have es22 : s22 = .second := by rw [hs22, if_neg hm10]
      have es23 : s23 = .val (.long sv16) := by rw [hs23, if_neg hm10]
      rw [ev20, es21, es22, es23] at kt
      have pre12 : ∀ t, Steps p.tables e below (s₁.setTop (mkF m 53 #[.val (.long q0), .second, .val (.int p1), .val (.int p2), .val (.int p3), .val (.long ev1), .second, .val (.int av3), .val (.int nv8), .unset, .unset, .unset, .unset, .unset, .unset] [(.long rv11)])) t → Steps p.tables e below (s₁.setTop (mkF m 37 #[.val (.long q0), .second, .val (.int p1), .val (.int p2), .val (.int p3), .val (.long ev1), .second, .val (.int av3), .val (.int nv8), .unset, .unset, .unset, .unset, .unset, .unset] [(.int nv8)])) t := by
        intro t kt
        rw [hrv11] at kt
        refine (fun t (k : Steps p.tables e below (s₁.setTop (mkF m 37 #[.val (.long q0), .second, .val (.int p1), .val (.int p2), .val (.int p3), .val (.long ev1), .second, .val (.int av3), .val (.int nv8), .unset, .unset, .unset, .unset, .unset, .unset] [(.int nv8)])) t) => k) _ ?_
        refine XS.ifYes X0.here hx rfl (pc0 := 37) (pc' := 47) rfl (hb hby at_37) rfl ((if0 _ _).trans (feq hm10).2) (by decide) (by decide) ?_
        show Steps p.tables e below (s₁.setTop (mkF m 47 #[.val (.long q0), .second, .val (.int p1), .val (.int p2), .val (.int p3), .val (.long ev1), .second, .val (.int av3), .val (.int nv8), .unset, .unset, .unset, .unset, .unset, .unset] [])) _
        refine XS.lload X0.here hx rfl (hb hby at_47) rfl ?_
        show Steps p.tables e below (s₁.setTop (mkF m 49 #[.val (.long q0), .second, .val (.int p1), .val (.int p2), .val (.int p3), .val (.long ev1), .second, .val (.int av3), .val (.int nv8), .unset, .unset, .unset, .unset, .unset, .unset] [(.long ev1)])) _
        refine XS.iload X0.here hx rfl (hb hby at_49) rfl ?_
        show Steps p.tables e below (s₁.setTop (mkF m 51 #[.val (.long q0), .second, .val (.int p1), .val (.int p2), .val (.int p3), .val (.long ev1), .second, .val (.int av3), .val (.int nv8), .unset, .unset, .unset, .unset, .unset, .unset] [(.int av3), (.long ev1)])) _
        refine XS.i2l X0.here hx rfl (hb hby at_51) rfl ?_
        show Steps p.tables e below (s₁.setTop (mkF m 52 #[.val (.long q0), .second, .val (.int p1), .val (.int p2), .val (.int p3), .val (.long ev1), .second, .val (.int av3), .val (.int nv8), .unset, .unset, .unset, .unset, .unset, .unset] [(.long (av3.toInt64)), (.long ev1)])) _
        refine XS.lrem X0.here hx rfl (hb hby at_52) rfl hnz ?_
        show Steps p.tables e below (s₁.setTop (mkF m 53 #[.val (.long q0), .second, .val (.int p1), .val (.int p2), .val (.int p3), .val (.long ev1), .second, .val (.int av3), .val (.int nv8), .unset, .unset, .unset, .unset, .unset, .unset] [(.long (ev1 - ev1 / (av3.toInt64) * (av3.toInt64)))])) _
        exact kt
      have mg15 : ∀ t, Steps p.tables e below (s₁.setTop (mkF m 76 #[.val (.long q0), .second, .val (.int p1), .val (.int p2), .val (.int p3), .val (.long ev1), .second, .val (.int av3), .val (.int nv8), .unset, .unset, .val (.long rv11), .second, .unset, .unset] [(.long v14)])) t → Steps p.tables e below (s₁.setTop (mkF m 59 #[.val (.long q0), .second, .val (.int p1), .val (.int p2), .val (.int p3), .val (.long ev1), .second, .val (.int av3), .val (.int nv8), .unset, .unset, .val (.long rv11), .second, .unset, .unset] [(.int (lcmpW rv11 (0 : Int64)))])) t := by
        intro t kt
        by_cases hm13 : rv11 = (0 : Int64)
        ·
          have ev14 : v14 = ev1 := by rw [hv14, if_pos hm13]
          rw [ev14] at kt
          refine (fun t (k : Steps p.tables e below (s₁.setTop (mkF m 59 #[.val (.long q0), .second, .val (.int p1), .val (.int p2), .val (.int p3), .val (.long ev1), .second, .val (.int av3), .val (.int nv8), .unset, .unset, .val (.long rv11), .second, .unset, .unset] [(.int (lcmpW rv11 (0 : Int64)))])) t) => k) _ ?_
          refine XS.ifNo X0.here hx rfl (hb hby at_59) rfl ((if0 _ _).trans (teq ((lw_eq _ _).mpr hm13)).2) ?_
          show Steps p.tables e below (s₁.setTop (mkF m 62 #[.val (.long q0), .second, .val (.int p1), .val (.int p2), .val (.int p3), .val (.long ev1), .second, .val (.int av3), .val (.int nv8), .unset, .unset, .val (.long rv11), .second, .unset, .unset] [])) _
          refine XS.lload X0.here hx rfl (hb hby at_62) rfl ?_
          show Steps p.tables e below (s₁.setTop (mkF m 64 #[.val (.long q0), .second, .val (.int p1), .val (.int p2), .val (.int p3), .val (.long ev1), .second, .val (.int av3), .val (.int nv8), .unset, .unset, .val (.long rv11), .second, .unset, .unset] [(.long ev1)])) _
          refine XS.goto X0.here hx rfl (pc0 := 64) (pc' := 76) rfl (hb hby at_64) (by decide) (by decide) ?_
          show Steps p.tables e below (s₁.setTop (mkF m 76 #[.val (.long q0), .second, .val (.int p1), .val (.int p2), .val (.int p3), .val (.long ev1), .second, .val (.int av3), .val (.int nv8), .unset, .unset, .val (.long rv11), .second, .unset, .unset] [(.long ev1)])) _
          exact kt
        ·
          have ev14 : v14 = ((ev1 - rv11) + (av3.toInt64)) := by rw [hv14, if_neg hm13]
          rw [ev14] at kt
          refine (fun t (k : Steps p.tables e below (s₁.setTop (mkF m 59 #[.val (.long q0), .second, .val (.int p1), .val (.int p2), .val (.int p3), .val (.long ev1), .second, .val (.int av3), .val (.int nv8), .unset, .unset, .val (.long rv11), .second, .unset, .unset] [(.int (lcmpW rv11 (0 : Int64)))])) t) => k) _ ?_
          refine XS.ifYes X0.here hx rfl (pc0 := 59) (pc' := 67) rfl (hb hby at_59) rfl ((if0 _ _).trans (feq (fun q => hm13 ((lw_eq _ _).mp q))).2) (by decide) (by decide) ?_
          show Steps p.tables e below (s₁.setTop (mkF m 67 #[.val (.long q0), .second, .val (.int p1), .val (.int p2), .val (.int p3), .val (.long ev1), .second, .val (.int av3), .val (.int nv8), .unset, .unset, .val (.long rv11), .second, .unset, .unset] [])) _
          refine XS.lload X0.here hx rfl (hb hby at_67) rfl ?_
          show Steps p.tables e below (s₁.setTop (mkF m 69 #[.val (.long q0), .second, .val (.int p1), .val (.int p2), .val (.int p3), .val (.long ev1), .second, .val (.int av3), .val (.int nv8), .unset, .unset, .val (.long rv11), .second, .unset, .unset] [(.long ev1)])) _
          refine XS.lload X0.here hx rfl (hb hby at_69) rfl ?_
          show Steps p.tables e below (s₁.setTop (mkF m 71 #[.val (.long q0), .second, .val (.int p1), .val (.int p2), .val (.int p3), .val (.long ev1), .second, .val (.int av3), .val (.int nv8), .unset, .unset, .val (.long rv11), .second, .unset, .unset] [(.long rv11), (.long ev1)])) _
          refine XS.lsub X0.here hx rfl (hb hby at_71) rfl ?_
          show Steps p.tables e below (s₁.setTop (mkF m 72 #[.val (.long q0), .second, .val (.int p1), .val (.int p2), .val (.int p3), .val (.long ev1), .second, .val (.int av3), .val (.int nv8), .unset, .unset, .val (.long rv11), .second, .unset, .unset] [(.long (ev1 - rv11))])) _
          refine XS.iload X0.here hx rfl (hb hby at_72) rfl ?_
          show Steps p.tables e below (s₁.setTop (mkF m 74 #[.val (.long q0), .second, .val (.int p1), .val (.int p2), .val (.int p3), .val (.long ev1), .second, .val (.int av3), .val (.int nv8), .unset, .unset, .val (.long rv11), .second, .unset, .unset] [(.int av3), (.long (ev1 - rv11))])) _
          refine XS.i2l X0.here hx rfl (hb hby at_74) rfl ?_
          show Steps p.tables e below (s₁.setTop (mkF m 75 #[.val (.long q0), .second, .val (.int p1), .val (.int p2), .val (.int p3), .val (.long ev1), .second, .val (.int av3), .val (.int nv8), .unset, .unset, .val (.long rv11), .second, .unset, .unset] [(.long (av3.toInt64)), (.long (ev1 - rv11))])) _
          refine XS.ladd X0.here hx rfl (hb hby at_75) rfl ?_
          show Steps p.tables e below (s₁.setTop (mkF m 76 #[.val (.long q0), .second, .val (.int p1), .val (.int p2), .val (.int p3), .val (.long ev1), .second, .val (.int av3), .val (.int nv8), .unset, .unset, .val (.long rv11), .second, .unset, .unset] [(.long ((ev1 - rv11) + (av3.toInt64)))])) _
          exact kt
      have pre17 : ∀ t, Steps p.tables e below (s₁.setTop (mkF m 76 #[.val (.long q0), .second, .val (.int p1), .val (.int p2), .val (.int p3), .val (.long ev1), .second, .val (.int av3), .val (.int nv8), .unset, .unset, .val (.long rv11), .second, .unset, .unset] [(.long sv16)])) t → Steps p.tables e below (s₁.setTop (mkF m 37 #[.val (.long q0), .second, .val (.int p1), .val (.int p2), .val (.int p3), .val (.long ev1), .second, .val (.int av3), .val (.int nv8), .unset, .unset, .unset, .unset, .unset, .unset] [(.int nv8)])) t := by
        intro t kt
        rw [hsv16] at kt
        refine pre12 _ ?_
        show Steps p.tables e below (s₁.setTop (mkF m 53 #[.val (.long q0), .second, .val (.int p1), .val (.int p2), .val (.int p3), .val (.long ev1), .second, .val (.int av3), .val (.int nv8), .unset, .unset, .unset, .unset, .unset, .unset] [(.long rv11)])) _
        refine XS.lstore X0.here hx rfl (hb hby at_53) rfl (l' := #[.val (.long q0), .second, .val (.int p1), .val (.int p2), .val (.int p3), .val (.long ev1), .second, .val (.int av3), .val (.int nv8), .unset, .unset, .val (.long rv11), .second, .unset, .unset]) rfl ?_
        show Steps p.tables e below (s₁.setTop (mkF m 55 #[.val (.long q0), .second, .val (.int p1), .val (.int p2), .val (.int p3), .val (.long ev1), .second, .val (.int av3), .val (.int nv8), .unset, .unset, .val (.long rv11), .second, .unset, .unset] [])) _
        refine XS.lload X0.here hx rfl (hb hby at_55) rfl ?_
        show Steps p.tables e below (s₁.setTop (mkF m 57 #[.val (.long q0), .second, .val (.int p1), .val (.int p2), .val (.int p3), .val (.long ev1), .second, .val (.int av3), .val (.int nv8), .unset, .unset, .val (.long rv11), .second, .unset, .unset] [(.long rv11)])) _
        refine XS.lconst X0.here hx rfl (hb hby at_57) ?_
        show Steps p.tables e below (s₁.setTop (mkF m 58 #[.val (.long q0), .second, .val (.int p1), .val (.int p2), .val (.int p3), .val (.long ev1), .second, .val (.int av3), .val (.int nv8), .unset, .unset, .val (.long rv11), .second, .unset, .unset] [(.long (0 : Int64)), (.long rv11)])) _
        refine XS.lcmp X0.here hx rfl (hb hby at_58) rfl ?_
        show Steps p.tables e below (s₁.setTop (mkF m 59 #[.val (.long q0), .second, .val (.int p1), .val (.int p2), .val (.int p3), .val (.long ev1), .second, .val (.int av3), .val (.int nv8), .unset, .unset, .val (.long rv11), .second, .unset, .unset] [(.int (lcmpW rv11 (0 : Int64)))])) _
        refine mg15 _ ?_
        show Steps p.tables e below (s₁.setTop (mkF m 76 #[.val (.long q0), .second, .val (.int p1), .val (.int p2), .val (.int p3), .val (.long ev1), .second, .val (.int av3), .val (.int nv8), .unset, .unset, .val (.long rv11), .second, .unset, .unset] [(.long v14)])) _
        exact kt
      have pre19 : ∀ t, Steps p.tables e below (s₁.setTop (mkF m 84 #[.val (.long q0), .second, .val (.int p1), .val (.int p2), .val (.int p3), .val (.long ev1), .second, .val (.int av3), .val (.int nv8), .unset, .unset, .val (.long rv11), .second, .val (.long sv16), .second] [(.long xv18)])) t → Steps p.tables e below (s₁.setTop (mkF m 37 #[.val (.long q0), .second, .val (.int p1), .val (.int p2), .val (.int p3), .val (.long ev1), .second, .val (.int av3), .val (.int nv8), .unset, .unset, .unset, .unset, .unset, .unset] [(.int nv8)])) t := by
        intro t kt
        rw [hxv18] at kt
        refine pre17 _ ?_
        show Steps p.tables e below (s₁.setTop (mkF m 76 #[.val (.long q0), .second, .val (.int p1), .val (.int p2), .val (.int p3), .val (.long ev1), .second, .val (.int av3), .val (.int nv8), .unset, .unset, .val (.long rv11), .second, .unset, .unset] [(.long sv16)])) _
        refine XS.lstore X0.here hx rfl (hb hby at_76) rfl (l' := #[.val (.long q0), .second, .val (.int p1), .val (.int p2), .val (.int p3), .val (.long ev1), .second, .val (.int av3), .val (.int nv8), .unset, .unset, .val (.long rv11), .second, .val (.long sv16), .second]) rfl ?_
        show Steps p.tables e below (s₁.setTop (mkF m 78 #[.val (.long q0), .second, .val (.int p1), .val (.int p2), .val (.int p3), .val (.long ev1), .second, .val (.int av3), .val (.int nv8), .unset, .unset, .val (.long rv11), .second, .val (.long sv16), .second] [])) _
        refine XS.lload X0.here hx rfl (hb hby at_78) rfl ?_
        show Steps p.tables e below (s₁.setTop (mkF m 80 #[.val (.long q0), .second, .val (.int p1), .val (.int p2), .val (.int p3), .val (.long ev1), .second, .val (.int av3), .val (.int nv8), .unset, .unset, .val (.long rv11), .second, .val (.long sv16), .second] [(.long sv16)])) _
        refine XS.iload X0.here hx rfl (hb hby at_80) rfl ?_
        show Steps p.tables e below (s₁.setTop (mkF m 82 #[.val (.long q0), .second, .val (.int p1), .val (.int p2), .val (.int p3), .val (.long ev1), .second, .val (.int av3), .val (.int nv8), .unset, .unset, .val (.long rv11), .second, .val (.long sv16), .second] [(.int nv8), (.long sv16)])) _
        refine XS.i2l X0.here hx rfl (hb hby at_82) rfl ?_
        show Steps p.tables e below (s₁.setTop (mkF m 83 #[.val (.long q0), .second, .val (.int p1), .val (.int p2), .val (.int p3), .val (.long ev1), .second, .val (.int av3), .val (.int nv8), .unset, .unset, .val (.long rv11), .second, .val (.long sv16), .second] [(.long (nv8.toInt64)), (.long sv16)])) _
        refine XS.ladd X0.here hx rfl (hb hby at_83) rfl ?_
        show Steps p.tables e below (s₁.setTop (mkF m 84 #[.val (.long q0), .second, .val (.int p1), .val (.int p2), .val (.int p3), .val (.long ev1), .second, .val (.int av3), .val (.int nv8), .unset, .unset, .val (.long rv11), .second, .val (.long sv16), .second] [(.long (sv16 + (nv8.toInt64)))])) _
        exact kt
      refine pre19 _ ?_
      show Steps p.tables e below (s₁.setTop (mkF m 84 #[.val (.long q0), .second, .val (.int p1), .val (.int p2), .val (.int p3), .val (.long ev1), .second, .val (.int av3), .val (.int nv8), .unset, .unset, .val (.long rv11), .second, .val (.long sv16), .second] [(.long xv18)])) _
      refine XS.lstore X0.here hx rfl (hb hby at_84) rfl (l' := #[.val (.long q0), .second, .val (.int p1), .val (.int p2), .val (.int p3), .val (.long ev1), .second, .val (.int av3), .val (.int nv8), .val (.long xv18), .second, .val (.long rv11), .second, .val (.long sv16), .second]) rfl ?_
      show Steps p.tables e below (s₁.setTop (mkF m 86 #[.val (.long q0), .second, .val (.int p1), .val (.int p2), .val (.int p3), .val (.long ev1), .second, .val (.int av3), .val (.int nv8), .val (.long xv18), .second, .val (.long rv11), .second, .val (.long sv16), .second] [])) _
      exact kt
  obtain ⟨_, _, ⟨T25, L25, k25, n25⟩, -, X25, ⟨Lc25, hQ25, l25, y25, z25⟩, st25⟩ := Jvm.LawKit.callS X0 hx (y := (⟨"com/example/flatwire/flatwire/message/MessageBuilder", "end", "(JII)J"⟩ : MethodName)) hown (mvT hZ (hw _ (List.mem_of_getElem? (i := 1) rfl))) (mvT hZ (hw _ (List.mem_of_getElem? (i := 2) rfl))) (mvT hZ (hw _ (List.mem_of_getElem? (i := 3) rfl))) (mvT hZ (hw _ (List.mem_of_getElem? (i := 4) rfl))) (by decide) (backOf (W := 0) (rm1 l Z a0 hw [] ev1 av3 nv8 h0 n0 Z0) hZ (hw _ (List.mem_of_getElem? (i := 4) rfl)) (hw _ (List.mem_of_getElem? (i := 3) rfl)) (by decide) (by decide)) (g := (mkF m 92 #[.val (.long q0), .second, .val (.int p1), .val (.int p2), .val (.int p3), .val (.long ev1), .second, .val (.int av3), .val (.int nv8), .val (.long v20), .second, s21, s22, s23, s22] [(.int nv8), (.int av3), (.long ev1)])) rfl (by rw [hml]; rfl) (argsL := [(.long ev1), (.int av3), (.int nv8)]) (rest := []) (lenOf pd__JII_J rfl) rfl (by show 2 * 0 + _ ≤ _; exact Nat.le_of_eq rfl) (hb hby at_92) (fun _ _ => ⟨rfl, e0, (by decide : 0 + 0 ≤ _), (by decide : 0 + 0 ≤ _)⟩)
  dsimp only [Pt.U, Pt.locs, Pt.cells, Pt.slots] at X25 l25 y25 z25 st25 hQ25
  subst l25 y25 z25
  obtain ⟨rfl, N25q, hq25⟩ := hQ25
  have N25 := Fr.app N0 N25q
  have hk26 : (own_end ev1 av3 nv8) = v20 := by rw [hv20, hxv18, hsv16, hv14, hrv11]; exact own_law hev1 hav3
  obtain ⟨fs, hr, hrun, hended, hW, hsame⟩ := X25.leave (v := some (.int (1 : Int32))) (fun h => by rw [Bd.returns] at h; cases h)
  refine ⟨_, _, pre9 _ ?_, hrun, hended, _, _, rfl, ?_, ⟨_, rfl⟩, hW, hsame.mono (by decide) (by decide)⟩
  ·
    show Steps p.tables e below (s₁.setTop (mkF m 33 #[.val (.long q0), .second, .val (.int p1), .val (.int p2), .val (.int p3), .val (.long ev1), .second, .val (.int av3), .unset, .unset, .unset, .unset, .unset, .unset, .unset] [(.int nv8)])) _
    refine XS.istore X0.here hx rfl (hb hby at_33) rfl (l' := #[.val (.long q0), .second, .val (.int p1), .val (.int p2), .val (.int p3), .val (.long ev1), .second, .val (.int av3), .val (.int nv8), .unset, .unset, .unset, .unset, .unset, .unset]) rfl ?_
    show Steps p.tables e below (s₁.setTop (mkF m 35 #[.val (.long q0), .second, .val (.int p1), .val (.int p2), .val (.int p3), .val (.long ev1), .second, .val (.int av3), .val (.int nv8), .unset, .unset, .unset, .unset, .unset, .unset] [])) _
    refine XS.iload X0.here hx rfl (hb hby at_35) rfl ?_
    show Steps p.tables e below (s₁.setTop (mkF m 37 #[.val (.long q0), .second, .val (.int p1), .val (.int p2), .val (.int p3), .val (.long ev1), .second, .val (.int av3), .val (.int nv8), .unset, .unset, .unset, .unset, .unset, .unset] [(.int nv8)])) _
    refine mg24 _ ?_
    show Steps p.tables e below (s₁.setTop (mkF m 86 #[.val (.long q0), .second, .val (.int p1), .val (.int p2), .val (.int p3), .val (.long ev1), .second, .val (.int av3), .val (.int nv8), .val (.long v20), .second, s21, s22, s23, s22] [])) _
    refine XS.lload X0.here hx rfl (hb hby at_86) rfl ?_
    show Steps p.tables e below (s₁.setTop (mkF m 88 #[.val (.long q0), .second, .val (.int p1), .val (.int p2), .val (.int p3), .val (.long ev1), .second, .val (.int av3), .val (.int nv8), .val (.long v20), .second, s21, s22, s23, s22] [(.long ev1)])) _
    refine XS.iload X0.here hx rfl (hb hby at_88) rfl ?_
    show Steps p.tables e below (s₁.setTop (mkF m 90 #[.val (.long q0), .second, .val (.int p1), .val (.int p2), .val (.int p3), .val (.long ev1), .second, .val (.int av3), .val (.int nv8), .val (.long v20), .second, s21, s22, s23, s22] [(.int av3), (.long ev1)])) _
    refine XS.iload X0.here hx rfl (hb hby at_90) rfl ?_
    show Steps p.tables e below (s₁.setTop (mkF m 92 #[.val (.long q0), .second, .val (.int p1), .val (.int p2), .val (.int p3), .val (.long ev1), .second, .val (.int av3), .val (.int nv8), .val (.long v20), .second, s21, s22, s23, s22] [(.int nv8), (.int av3), (.long ev1)])) _
    refine st25 _ ?_
    show Steps p.tables e below (T25.setTop (mkF m 95 #[.val (.long q0), .second, .val (.int p1), .val (.int p2), .val (.int p3), .val (.long ev1), .second, .val (.int av3), .val (.int nv8), .val (.long v20), .second, s21, s22, s23, s22] [(.long (own_end ev1 av3 nv8))])) _
    refine XS.lload X25.here hx rfl (hb hby at_95) rfl ?_
    show Steps p.tables e below (T25.setTop (mkF m 97 #[.val (.long q0), .second, .val (.int p1), .val (.int p2), .val (.int p3), .val (.long ev1), .second, .val (.int av3), .val (.int nv8), .val (.long v20), .second, s21, s22, s23, s22] [(.long v20), (.long (own_end ev1 av3 nv8))])) _
    refine XS.lcmp X25.here hx rfl (hb hby at_97) rfl ?_
    show Steps p.tables e below (T25.setTop (mkF m 98 #[.val (.long q0), .second, .val (.int p1), .val (.int p2), .val (.int p3), .val (.long ev1), .second, .val (.int av3), .val (.int nv8), .val (.long v20), .second, s21, s22, s23, s22] [(.int (lcmpW (own_end ev1 av3 nv8) v20))])) _
    refine XS.ifNo X25.here hx rfl (hb hby at_98) rfl ((if0 _ _).trans (teq ((lw_eq _ _).mpr hk26)).2) ?_
    show Steps p.tables e below (T25.setTop (mkF m 101 #[.val (.long q0), .second, .val (.int p1), .val (.int p2), .val (.int p3), .val (.long ev1), .second, .val (.int av3), .val (.int nv8), .val (.long v20), .second, s21, s22, s23, s22] [])) _
    refine XS.iconst X25.here hx rfl (hb hby at_101) ?_
    show Steps p.tables e below (T25.setTop (mkF m 102 #[.val (.long q0), .second, .val (.int p1), .val (.int p2), .val (.int p3), .val (.long ev1), .second, .val (.int av3), .val (.int nv8), .val (.long v20), .second, s21, s22, s23, s22] [(.int (1 : Int32))])) _
    refine XS.goto X25.here hx rfl (pc0 := 102) (pc' := 106) rfl (hb hby at_102) (by decide) (by decide) ?_
    show Steps p.tables e below (T25.setTop (mkF m 106 #[.val (.long q0), .second, .val (.int p1), .val (.int p2), .val (.int p3), .val (.long ev1), .second, .val (.int av3), .val (.int nv8), .val (.long v20), .second, s21, s22, s23, s22] [(.int (1 : Int32))])) _
    exact retN X25 hx (t := .boolean) Bd.returns (by simp) (hb hby at_106) hr
  ·
    show Q0 Z q0 p1 p2 p3 h0 n0 _ T25.heap _
    rw [hq25]
    exact ⟨rfl, N25⟩
set_option maxRecDepth 65536 in
set_option maxHeartbeats 40000000 in
theorem comes_1 {Post : Tables → Env → Array Value → State → Outcome → State → Prop} (hpost : ∀ tb e args s v u, (limb_1_1.after args s (.returned v) u = true ∧ limb_1_2.after args s (.returned v) u = true ∧ True) → FrameEnd s (.returned v) u (Jvm.fieldLocs frame_1_writes args s ++ Jvm.arrayLocs frame_1_arrays args s ++ Jvm.staticLocs frame_1_statics s) 0 0 → Post tb e args s (.returned v) u) :
    ArmFor flags0 classFile x code maxLocals ret World_1 tables_1 room_1 Calls_1 rest_1 Pre_1 Post := by
  intro l hfl _ _ p e ha hc hk s m args below hf hA hF happ hP
  obtain ⟨hcalls, hrest, hpre⟩ := hP
  obtain ⟨-, -, -, hnamed, -, -, -, hat⟩ := (Spec.applies_iff hf).mp happ
  obtain ⟨hg, hn⟩ := and_e (Cond.before_iff.mp (show (Jvm.Cond.and given_1 narrow_1).before args s = true from hpre))
  obtain ⟨g1, g2⟩ := and_e hg
  obtain ⟨g3, g4⟩ := and_e g2
  obtain ⟨g5, g6⟩ := and_e g4
  obtain ⟨g7, g8⟩ := and_e g6
  obtain ⟨w0, w1, w2, w3, rfl⟩ : ∃ w0 w1 w2 w3 : Value, args = #[w0, w1, w2, w3] := by
    have hs : args.size = 4 := by simpa [Cond.value, given_1] using g1
    obtain ⟨L⟩ := args
    match L, hs with
    | [w0, w1, w2, w3], _ => exact ⟨w0, w1, w2, w3, rfl⟩
  have hw := fun d (hd : d ∈ tables_1) => atoms_spec (ws := Jvm.Cond.code x code maxLocals ret :: tables_1) hat d (List.mem_cons_of_mem _ hd)
  have hfit : Fit s := fun {y c} hc i hi => by
    obtain ⟨ha, rfl⟩ := Array.getElem?_eq_some_iff.mp hc
    have q := List.all_eq_true.mp ((Array.all_eq_true_iff_forall_mem.mp hF) _ (Array.getElem_mem ha)) i (List.mem_range.mpr hi)
    simpa [Array.getElem?_eq_getElem hi] using q
  obtain ⟨i0, ei0⟩ := isL_v g3
  obtain rfl : w0 = (.long i0) := Option.some.inj ei0
  obtain ⟨i1, ei1⟩ := is_v g5
  obtain rfl : w1 = (.int i1) := Option.some.inj ei1
  obtain ⟨i2, ei2⟩ := is_v g7
  obtain rfl : w2 = (.int i2) := Option.some.inj ei2
  obtain ⟨i3, ei3⟩ := is_v g8
  obtain rfl : w3 = (.int i3) := Option.some.inj ei3
  obtain ⟨n, o, h1, h2, h3, _, L, rfl, ⟨rfl, N⟩, hq⟩ := rm0 l s _ hw tables_1 i0 i1 i2 i3 s.heap s.heap.size (Nat.le_refl _) p e ha hc hk s m _ below hf ((Spec.applies_iff_loose hf).mp happ).1 ⟨rfl, State.Warmed39.refl s, rfl⟩ trivial
  refine ⟨n, _, h1, h2, h3, hpost _ _ _ _ _ _ ⟨Cond.after_iff.mpr rfl, Cond.after_iff.mpr (eq_i res_at (Term.int_eval (1)) rfl), trivial⟩ ⟨hq.1, hq.2.1, (hq.2.2.sift fun y hy => Or.inr (N y hy)).mono (by decide) (by decide)⟩⟩
theorem main_1_1 : Claimed_1_1 := comes_1 fun _ _ _ _ _ _ h hF => ⟨h.1, hF⟩
theorem main_1_2 : Claimed_1_2 := comes_1 fun _ _ _ _ _ _ h hF => ⟨h.2.1, hF⟩
end Jvm.Pilot.@@N@@
namespace Jvm.Pilot.@@N@@
open Jvm Jvm.ClassFile Sem Op Lib Jvm.Free Jvm.Stand Jvm.Pilot.@@N@@.Jvm.D
/-! MADE BY PROGRAM (witnessworld.py) out of the Statement's table words and the real class files: 10 classes; the members and pool entries that the words name. The judged class is class 1, her method 1. -/
namespace start1
open Jvm.ClassFile
def u (s : String) : CpInfo := .utf8 (stringToUtf16 s)
/-- a pool by its gaps: so many unusable entries, then the entry; so many at the end -/
def gap : Nat → List CpInfo → List CpInfo
  | 0, r => r
  | n + 1, r => .unusable :: gap n r
def poolList (es : List (Nat × CpInfo)) (last : Nat) : List CpInfo := es.foldr (fun e r => gap e.1 (e.2 :: r)) (gap last [])
def pool (es : List (Nat × CpInfo)) (last : Nat) : Array CpInfo := ⟨poolList es last⟩
def fileOf (pool : Array CpInfo) (this : Nat) (attrs : Array Attribute := #[]) (ms : Array MethodInfo := #[]) (fl : Nat := 33) (sup : Nat := 0) (ifs : Array Nat := #[]) (fds : Array FieldInfo := #[]) : ClassFile where
  minorVersion := 0
  majorVersion := 65
  constantPool := pool
  accessFlags := fl
  thisClass := this
  superClass := sup
  interfaces := ifs
  fields := fds
  methods := ms
  attributes := attrs
def plain (name : String) (sup : Option ClassId) : Class where
  name := name
  kind := .ordinary
  loader := none
  accessFlags := 33
  super := sup
  interfaces := #[]
  cf := none
  fields := #[]
  methods := #[]
  instanceTypes := #[]
  staticTypes := #[]
  resolved := #[]
  callSites := []
  init := .initialized
  statics := none
  mirror := none

def pool0 : Array CpInfo := pool [(5, u "<init>"), (0, u "()V"), (1, .class_ 10), (1, u "java/lang/Object")] 113

def k0m0 : Method := { name := "<init>", desc := "()V", sig := { parameters := [], returnType := none }, accessFlags := 1, code := none }
/-- java/lang/Object -/
def k0 : Class := { plain "java/lang/Object" none with
  accessFlags := 33
  interfaces := #[]
  cf := some (fileOf pool0 8 #[] #[{ accessFlags := 1, nameIndex := 5, descriptorIndex := 6, attributes := #[] }] 33 0 #[] #[])
  fields := #[]
  methods := #[k0m0]
  instanceTypes := #[]
  staticTypes := #[]
  resolved := Array.replicate 124 none
  statics := none }

def pool1 : Array CpInfo := pool [(2, .class_ 4), (1, u "java/lang/Object"), (0, u "<init>"), (0, u "()V"), (0, .long 4611686018427387903), (1, .integer 2147483647), (0, .methodref 11 12), (0, .class_ 13), (0, .nameAndType 14 15), (0, u "com/example/flatwire/flatwire/message/MessageBuilder"), (0, u "end"), (0, u "(JII)J"), (0, .class_ 17), (0, u "com/example/flatwire/flatwire/message/MessageBuilderEndPinLaw"), (2, u "law"), (0, u "(JIII)Z")] 3

def k1m0 : Method := { name := "<init>", desc := "()V", sig := { parameters := [], returnType := none }, accessFlags := 1, code := none }
def k1c1 : Code := { maxStack := 4, maxLocals := 15, code := code, exceptionTable := #[], attributes := #[] }
def k1m1 : Method := { name := "law", desc := "(JIII)Z", sig := { parameters := [.long, .int, .int, .int], returnType := some .boolean }, accessFlags := 9, code := some k1c1 }
/-- com/example/flatwire/flatwire/message/MessageBuilderEndPinLaw -/
def k1 : Class := { plain "com/example/flatwire/flatwire/message/MessageBuilderEndPinLaw" (some 0) with
  accessFlags := 49
  interfaces := #[]
  cf := some (fileOf pool1 16 #[] #[{ accessFlags := 1, nameIndex := 5, descriptorIndex := 6, attributes := #[] }, { accessFlags := 9, nameIndex := 20, descriptorIndex := 21, attributes := #[] }] 49 2 #[] #[])
  fields := #[]
  methods := #[k1m0, k1m1]
  instanceTypes := #[]
  staticTypes := #[]
  resolved := Array.replicate 25 none
  statics := none }

def pool2 : Array CpInfo := pool [(4, .class_ 6), (1, u "java/lang/Object"), (6, .class_ 15), (1, u "com/example/flatwire/flatwire/message/MessageBuilder"), (0, u "slots"), (0, u "Ljava/util/SortedMap;"), (21, u "layouts"), (0, u "Lcom/example/flatwire/flatwire/layout/Layouts;"), (1, .class_ 44), (1, u "com/example/flatwire/flatwire/layout/Layouts"), (4, u "layout"), (0, u "Lcom/example/flatwire/flatwire/layout/CompositeLayout;"), (24, u "inline"), (0, u "Ljava/nio/ByteBuffer;"), (37, .class_ 115), (0, u "com/example/flatwire/flatwire/message/MessageBuilder$Slot"), (8, .class_ 125), (0, u "com/example/flatwire/flatwire/message/MessageBuilder$Block"), (51, u "end"), (0, u "(JII)J"), (49, .methodref 42 229), (0, .nameAndType 230 231), (0, u "roundUp"), (0, u "(JI)J"), (56, u "U64"), (0, u "I")] 62

def k2c0 : Code := { maxStack := 4, maxLocals := 4, code := prog_50_method_8_code, exceptionTable := #[], attributes := #[] }
def k2m0 : Method := { name := "end", desc := "(JII)J", sig := { parameters := [.long, .int, .int], returnType := some .long }, accessFlags := 9, code := some k2c0 }
/-- com/example/flatwire/flatwire/message/MessageBuilder -/
def k2 : Class := { plain "com/example/flatwire/flatwire/message/MessageBuilder" (some 0) with
  accessFlags := 49
  interfaces := #[]
  cf := some (fileOf pool2 13 #[.nestMembers #[114, 124]] #[{ accessFlags := 9, nameIndex := 177, descriptorIndex := 178, attributes := #[] }] 49 4 #[] #[{ accessFlags := 26, nameIndex := 288, descriptorIndex := 289, attributes := #[] }, { accessFlags := 18, nameIndex := 39, descriptorIndex := 40, attributes := #[] }, { accessFlags := 18, nameIndex := 49, descriptorIndex := 50, attributes := #[] }, { accessFlags := 18, nameIndex := 75, descriptorIndex := 76, attributes := #[] }, { accessFlags := 18, nameIndex := 16, descriptorIndex := 17, attributes := #[] }])
  fields := #[{ name := "U64", type := .int, accessFlags := 26, slot := 0, constantValue := 0 }, { name := "layouts", type := (.object "com/example/flatwire/flatwire/layout/Layouts"), accessFlags := 18, slot := 0, constantValue := 0 }, { name := "layout", type := (.object "com/example/flatwire/flatwire/layout/CompositeLayout"), accessFlags := 18, slot := 1, constantValue := 0 }, { name := "inline", type := (.object "java/nio/ByteBuffer"), accessFlags := 18, slot := 2, constantValue := 0 }, { name := "slots", type := (.object "java/util/SortedMap"), accessFlags := 18, slot := 3, constantValue := 0 }]
  methods := #[k2m0]
  instanceTypes := #[(.object "com/example/flatwire/flatwire/layout/Layouts"), (.object "com/example/flatwire/flatwire/layout/CompositeLayout"), (.object "java/nio/ByteBuffer"), (.object "java/util/SortedMap")]
  staticTypes := #[.int]
  resolved := Array.replicate 352 none
  statics := none }

def pool3 : Array CpInfo := pool [(4, .class_ 6), (1, u "java/lang/Object"), (6, .class_ 15), (1, u "com/example/flatwire/flatwire/layout/Layouts"), (0, u "computed"), (0, u "Ljava/util/Map;"), (2, u "schema"), (0, u "Lcom/example/flatwire/flatwire/schema/Schema;"), (155, u "roundUp"), (0, u "(JI)J"), (126, u "MAX_SIZE"), (0, u "I"), (2, u "REFERENCE_SIZE"), (1, u "REFERENCE_ALIGNMENT")] 42

def k3c0 : Code := { maxStack := 4, maxLocals := 3, code := prog_42_method_18_code, exceptionTable := #[], attributes := #[] }
def k3m0 : Method := { name := "roundUp", desc := "(JI)J", sig := { parameters := [.long, .int], returnType := some .long }, accessFlags := 9, code := some k3c0 }
/-- com/example/flatwire/flatwire/layout/Layouts -/
def k3 : Class := { plain "com/example/flatwire/flatwire/layout/Layouts" (some 0) with
  accessFlags := 49
  interfaces := #[]
  cf := some (fileOf pool3 13 #[] #[{ accessFlags := 9, nameIndex := 177, descriptorIndex := 178, attributes := #[] }] 49 4 #[] #[{ accessFlags := 25, nameIndex := 305, descriptorIndex := 306, attributes := #[] }, { accessFlags := 25, nameIndex := 309, descriptorIndex := 306, attributes := #[] }, { accessFlags := 25, nameIndex := 311, descriptorIndex := 306, attributes := #[] }, { accessFlags := 18, nameIndex := 20, descriptorIndex := 21, attributes := #[] }, { accessFlags := 18, nameIndex := 16, descriptorIndex := 17, attributes := #[] }])
  fields := #[{ name := "MAX_SIZE", type := .int, accessFlags := 25, slot := 0, constantValue := 0 }, { name := "REFERENCE_SIZE", type := .int, accessFlags := 25, slot := 1, constantValue := 0 }, { name := "REFERENCE_ALIGNMENT", type := .int, accessFlags := 25, slot := 2, constantValue := 0 }, { name := "schema", type := (.object "com/example/flatwire/flatwire/schema/Schema"), accessFlags := 18, slot := 0, constantValue := 0 }, { name := "computed", type := (.object "java/util/Map"), accessFlags := 18, slot := 1, constantValue := 0 }]
  methods := #[k3m0]
  instanceTypes := #[(.object "com/example/flatwire/flatwire/schema/Schema"), (.object "java/util/Map")]
  staticTypes := #[.int, .int, .int]
  resolved := Array.replicate 354 none
  statics := none }

def pool4 : Array CpInfo := pool [(1, u "java/lang/Cloneable"), (0, .class_ 1), (0, u "java/lang/Object"), (0, .class_ 3)] 3

/-- java/lang/Cloneable -/
def k4 : Class := { plain "java/lang/Cloneable" (some 0) with
  accessFlags := 1537
  interfaces := #[]
  cf := some (fileOf pool4 2 #[] #[] 1537 4 #[] #[])
  fields := #[]
  methods := #[]
  instanceTypes := #[]
  staticTypes := #[]
  resolved := Array.replicate 8 none
  statics := none }

def pool5 : Array CpInfo := pool [(1, u "java/io/Serializable"), (0, .class_ 1), (0, u "java/lang/Object"), (0, .class_ 3)] 3

/-- java/io/Serializable -/
def k5 : Class := { plain "java/io/Serializable" (some 0) with
  accessFlags := 1537
  interfaces := #[]
  cf := some (fileOf pool5 2 #[] #[] 1537 4 #[] #[])
  fields := #[]
  methods := #[]
  instanceTypes := #[]
  staticTypes := #[]
  resolved := Array.replicate 8 none
  statics := none }

/-- the primitive byte -/
def k6 : Class := { plain "byte" none with kind := .primitive 'B', accessFlags := 0x411 }
/-- [B -/
def k7 : Class := { plain "[B" (some 0) with kind := .array 6 .byte, interfaces := #[4, 5], accessFlags := 1041 }

/-- the primitive int -/
def k8 : Class := { plain "int" none with kind := .primitive 'I', accessFlags := 0x411 }
/-- [I -/
def k9 : Class := { plain "[I" (some 0) with kind := .array 8 .int, interfaces := #[4, 5], accessFlags := 1041 }

def heap : Heap := #[]
def classes : Array Class := #[k0, k1, k2, k3, k4, k5, k6, k7, k8, k9]
def interned : List (Array UInt16 × Addr) := []
def slotsUsed : Nat := 0
def theMethod : MethodId := ⟨1, 1⟩
def args0 : Array Value := #[.long 100, .int 3, .int 5, .int 1]
def aboutOver (below : List Frame) : State where
  vm := { classes := classes, interned := interned.toArray }
  heap := heap
  slotsUsed := slotsUsed
  threads := #[{ frames := .invoking theMethod args0 :: below }]
def below0 : List Frame := [.native { method := ⟨0, 0⟩, args := #[] }]
def about1 : State := aboutOver below0
def p0 : Program := .bare "" "" ""
def e0 : Env := launch0.env 0 0 0
theorem w_frames : about1.frames = Frame.invoking theMethod args0 :: below0 := rfl
set_option maxRecDepth 65536 in
theorem w_args : argsFit about1.vm theMethod args0 = true := by decide +kernel
set_option maxRecDepth 65536 in
theorem w_heap : heapFits about1 = true := by decide +kernel
set_option maxRecDepth 65536 in
theorem w_runnable : about1.curStatus? = some .runnable := by decide +kernel
set_option maxRecDepth 65536 in
theorem w_alone : about1.alone = true := by decide +kernel
set_option maxRecDepth 65536 in
theorem w_named : about1.methodNamed? x = some theMethod := by decide +kernel
set_option maxRecDepth 65536 in
theorem w_hears : about1.hears theMethod below0 = true := by decide +kernel
set_option maxRecDepth 65536 in
theorem w_ripe : about1.ripe theMethod args0 below0 = true := by decide +kernel
theorem w_running : about1.status = .running := rfl
set_option maxRecDepth 65536 in
theorem w_room : about1.hasRoom e0.platform room_1 = true :=
  launch0.hasRoom_least _ room_1 (by decide +kernel) (by decide +kernel) (by decide +kernel) (by decide +kernel) (by decide +kernel) (by decide +kernel)
theorem allAtoms_all (ts : List Jvm.Cond) (a : Array Jvm.Value) (st : Jvm.State) : (allAtoms ts).before a st = ts.all (fun c => c.before a st) := by
  induction ts with
  | nil => rfl
  | cons c t ih =>
    show (Jvm.Cond.and c (allAtoms t)).before a st = _
    rw [Jvm.Cond.before_and, ih, List.all_cons]
def words1 : List Jvm.Cond := Jvm.Cond.code x code maxLocals ret :: tables_1
/-- a 'code' word, met by the world's own term for the bytes: nothing is compared byte by byte -/
theorem code_word {y : MethodName} {bytes : ByteArray} {mx : Nat} {rt : Option FieldType} {a : Array Value} {s : State} {m : MethodId} {meth : Method} {c : Code} (h1 : s.methodNamed? y = some m) (h2 : s.vm.method? m = some meth) (h3 : meth.code = some c) (h4 : c.code = bytes)
    (h5 : (c.maxLocals == mx && c.exceptionTable.isEmpty && decide (c.maxStack ≤ mostOperands) && decide (meth.sig.returnType = rt) && !meth.locks && decide (parseMethodDescriptor y.desc = some meth.sig)) = true) : (Jvm.Cond.code y bytes mx rt).before a s = true := by
  simp only [Bool.and_eq_true, beq_iff_eq, Bool.not_eq_true', decide_eq_true_eq] at h5
  obtain ⟨⟨⟨⟨⟨g1, g2⟩, g3⟩, g4⟩, g5⟩, g6⟩ := h5
  simp [Cond.before, Cond.holds, Cond.value, h1, h2, h3, h4, g1, g2, g3, g4, g5, g6]
def isCode : Jvm.Cond → Bool
  | .code _ _ _ _ => true
  | _ => false
theorem all_split {L : List Jvm.Cond} {P : Jvm.Cond → Bool} (h1 : L.all (fun c => isCode c || P c) = true) (h2 : ∀ c ∈ L.filter isCode, P c = true) : L.all P = true := by
  refine List.all_eq_true.mpr fun c hc => ?_
  have h := List.all_eq_true.mp h1 c hc
  rcases Bool.eq_false_or_eq_true (isCode c) with hi | hi
  · exact h2 c (List.mem_filter.mpr ⟨hc, hi⟩)
  · simpa [hi] using h
set_option maxRecDepth 65536 in
theorem w_c0 : (Jvm.Cond.code x code maxLocals ret).before args0 about1 = true := code_word (m := ⟨1, 1⟩) (meth := k1m1) (c := k1c1) (by decide +kernel) rfl rfl rfl (by decide +kernel)
set_option maxRecDepth 65536 in
theorem w_c1 : (Jvm.Cond.code ({ cls := "com/example/flatwire/flatwire/message/MessageBuilder", name := "end", desc := "(JII)J" } : Jvm.MethodName) prog_50_method_8_code (4 : Nat) (Option.some Jvm.ClassFile.FieldType.long)).before args0 about1 = true := code_word (m := ⟨2, 0⟩) (meth := k2m0) (c := k2c0) (by decide +kernel) rfl rfl rfl (by decide +kernel)
set_option maxRecDepth 65536 in
theorem w_c2 : (Jvm.Cond.code ({ cls := "com/example/flatwire/flatwire/layout/Layouts", name := "roundUp", desc := "(JI)J" } : Jvm.MethodName) prog_42_method_18_code (3 : Nat) (Option.some Jvm.ClassFile.FieldType.long)).before args0 about1 = true := code_word (m := ⟨3, 0⟩) (meth := k3m0) (c := k3c0) (by decide +kernel) rfl rfl rfl (by decide +kernel)
def codes1 : List Jvm.Cond := [Jvm.Cond.code x code maxLocals ret, Jvm.Cond.code ({ cls := "com/example/flatwire/flatwire/message/MessageBuilder", name := "end", desc := "(JII)J" } : Jvm.MethodName) prog_50_method_8_code (4 : Nat) (Option.some Jvm.ClassFile.FieldType.long), Jvm.Cond.code ({ cls := "com/example/flatwire/flatwire/layout/Layouts", name := "roundUp", desc := "(JI)J" } : Jvm.MethodName) prog_42_method_18_code (3 : Nat) (Option.some Jvm.ClassFile.FieldType.long)]
set_option maxRecDepth 65536 in
theorem codes_eq : words1.filter isCode = codes1 := rfl
theorem w_codes : ∀ c ∈ words1.filter isCode, c.before args0 about1 = true := by
  rw [codes_eq]
  intro c hc
  simp only [codes1, List.mem_cons, List.not_mem_nil, or_false] at hc
  rcases hc with rfl | rfl | rfl
  · exact w_c0
  · exact w_c1
  · exact w_c2
set_option maxRecDepth 65536 in
theorem w_t1 : words1.all (fun c => isCode c || c.before args0 about1) = true := by decide +kernel
theorem w_tables : (allAtoms (Jvm.Cond.code x code maxLocals ret :: tables_1)).before args0 about1 = true := by
  rw [allAtoms_all]
  show words1.all (fun c => c.before args0 about1) = true
  refine all_split ?_ w_codes
  rw [w_t1]
set_option maxRecDepth 65536 in
theorem w_case : (Jvm.Cond.and given_1 narrow_1).before args0 about1 = true := by decide +kernel
theorem w_applies : (headSpec (Jvm.Cond.code x code maxLocals ret :: tables_1) room_1).applies x e0.platform about1 = true :=
  (Spec.applies_iff w_frames).mpr ⟨w_running, w_runnable, w_alone, w_named, w_hears, w_ripe, w_room, w_tables⟩
theorem atStart : AtStart classFile x code maxLocals ret World_1 tables_1 room_1 Calls_1 rest_1 Pre_1 launch0 p0 e0 about1 theMethod args0 below0 :=
  ⟨lists_1, trivial, launch0.admits_env _ _ _, launch0.least_env, fairChoices_fair.cas, fairChoices_fair.clock, w_frames, w_args, w_heap, w_applies, trivial, trivial, w_case⟩
end start1
theorem witness_1 : WitnessClaimed_1 := ⟨start1.p0, start1.e0, start1.about1, start1.theMethod, start1.args0, start1.below0, start1.atStart⟩
end Jvm.Pilot.@@N@@
