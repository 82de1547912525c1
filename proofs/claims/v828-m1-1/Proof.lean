import JvmDerived
import JvmDerived.Pilot.@@N@@Statement
import JvmDerived.Pilot.@@N@@Code
set_option linter.unusedVariables false
set_option linter.unusedSimpArgs false
namespace Jvm.RoadKit
open Sem ClassFile Op Lib Jvm.Stand Jvm.Free Jvm.LawKit
section New
variable {p : Program} {l : Launch} {e : Env} {R : Room} {s : State} {m : MethodId} {args : Array Value} {below : List Frame} {meth : Method} {c : Code} {T : State} {locs : List Loc} {cells slots : Nat}
theorem retI (X : Stand p l e R s m args below meth c T locs cells slots) (hx : p.tables.exec = Jvm.exec) {pc : Nat} {Ls : Array Slot} {z : Int32} {rest : List Value} (hret : meth.sig.returnType = some .int) (hd : decode c.code pc = .ok (.ireturn, 1)) {fs : List Frame}
    (hl : ∀ (f : JFrame) (acts : List Action), f.method = m → f.locked = none → f.entered = [] → (doReturn e (T.setTop f) acts (some (.int z))).1 = T.setFrames fs) : Steps p.tables e below (T.setTop (mkF m pc Ls (.int z :: rest))) (T.setFrames fs) := by
  have hm' : T.vm.method? m = some meth := X.method'
  have hn : narrow .int (.int z) = .int z := rfl
  show Steps p.tables e below (T.setTop { method := m, pc := pc, locals := Ls, stack := _ :: rest, locked := none }) _
  jvm_step X.here [X.here.top, hx, hd, hm', hret, hn]
  first | (intro acts; rw [hl _ acts rfl rfl rfl]) | rw [hl _ _ rfl rfl rfl]
  exact Steps.refl _
end New
end Jvm.RoadKit
namespace Jvm.Pilot.@@N@@
open Jvm Jvm.ClassFile Sem Op Lib Jvm.Free Jvm.Stand Jvm.LawKit Jvm.RoadKit Bundle Jvm.Pilot.@@N@@.Jvm.D
def own_g (t : Int32) : Int32 := t ^^^ ((t.toUInt32 >>> ((16 : Int32) &&& 31).toUInt32).toInt32)
def own_mix (h v : Int32) : Int32 := ((h + v) * (-1640531527 : Int32)) ^^^ ((((h + v) * (-1640531527 : Int32)).toUInt32 >>> ((16 : Int32) &&& 31).toUInt32).toInt32)
def own_h0 : Int32 := 0
def own_h1 (a : Int32) : Int32 := own_mix 1 a
def own_h2 (a b : Int32) : Int32 := own_mix (own_mix 2 a) b
def own_h3 (a b c : Int32) : Int32 := own_mix (own_mix (own_mix 3 a) b) c
theorem own_gg (t : Int32) : own_g (own_g t) = t := by
  apply Int32.toBitVec_inj.mp
  have hs : ((16 : Int32) &&& 31).toUInt32 = 16 := by decide
  simp only [own_g, hs, Int32.toBitVec_xor]
  apply BitVec.eq_of_getLsbD_eq
  intro i hi
  simp only [BitVec.getLsbD_xor]
  have e : ∀ (x : Int32) (j : Nat), j < 32 → ((x.toUInt32 >>> (16 : UInt32)).toInt32).toBitVec.getLsbD j = x.toBitVec.getLsbD (16 + j) := by
    intro x j hj
    show (x.toUInt32 >>> (16 : UInt32)).toBitVec.getLsbD j = _
    rw [UInt32.toBitVec_shiftRight]
    have : ((16 : UInt32).toBitVec % 32) = 16#32 := by decide
    rw [this]
    show (x.toBitVec >>> (16#32 : BitVec 32)).getLsbD j = _
    rw [BitVec.ushiftRight_eq', BitVec.getLsbD_ushiftRight]
    rfl
  rw [e _ _ hi, e _ _ hi, Int32.toBitVec_xor, BitVec.getLsbD_xor]
  by_cases h : 16 + i < 32
  · rw [e _ _ h]
    have : t.toBitVec.getLsbD (16 + (16 + i)) = false := BitVec.getLsbD_of_ge _ _ (by omega)
    rw [this]
    cases t.toBitVec.getLsbD i <;> cases t.toBitVec.getLsbD (16 + i) <;> rfl
  · have z1 : t.toBitVec.getLsbD (16 + i) = false := BitVec.getLsbD_of_ge _ _ (by omega)
    have z2 : ((t.toUInt32 >>> (16 : UInt32)).toInt32).toBitVec.getLsbD (16 + i) = false := BitVec.getLsbD_of_ge _ _ (by omega)
    rw [z1, z2]; simp
theorem own_ginj {s t : Int32} (h : own_g s = own_g t) : s = t := by rw [← own_gg s, h, own_gg]
theorem own_mulinj {a b : Int32} (h : a * (-1640531527) = b * (-1640531527)) : a = b := by
  have c : (-1640531527 : Int32) * 340573321 = 1 := by decide
  have h2 : a * (-1640531527) * 340573321 = b * (-1640531527) * 340573321 := by rw [h]
  rw [Int32.mul_assoc, Int32.mul_assoc, c, Int32.mul_one, Int32.mul_one] at h2
  exact h2
theorem own_mix_iff (h v h' v' : Int32) : own_mix h v = own_mix h' v' ↔ h + v = h' + v' :=
  ⟨fun q => own_mulinj (own_ginj q), fun q => by unfold own_mix; rw [q]⟩
theorem own_mix_l {h v v' : Int32} : own_mix h v = own_mix h v' ↔ v = v' := by rw [own_mix_iff]; exact ⟨fun q => by simpa using congrArg (fun z => z - h) ((Int32.add_comm _ _).trans (q.trans (Int32.add_comm _ _))), fun q => by rw [q]⟩
theorem own_mix_r {h h' v : Int32} : own_mix h v = own_mix h' v ↔ h = h' := by rw [own_mix_iff]; exact ⟨fun q => by simpa using congrArg (fun z => z - v) q, fun q => by rw [q]⟩
theorem own_ite {P Q : Prop} [Decidable P] [Decidable Q] (h : P ↔ Q) : (if P then (1 : Int32) else 0) = if Q then 1 else 0 := by
  by_cases p : P
  · rw [if_pos p, if_pos (h.mp p)]
  · rw [if_neg p, if_neg fun q => p (h.mpr q)]
theorem own_law_0 : (if own_h0 = own_h0 then (1 : Int32) else 0) = 1 := by simp
theorem own_law_1_0 (a d : Int32) : (if own_h1 a = own_h1 d then (1 : Int32) else 0) = if a = d then 1 else 0 := own_ite own_mix_l
theorem own_law_2_0 (a b d : Int32) : (if own_h2 a b = own_h2 d b then (1 : Int32) else 0) = if a = d then 1 else 0 := own_ite (own_mix_r.trans own_mix_l)
theorem own_law_2_1 (a b d : Int32) : (if own_h2 a b = own_h2 a d then (1 : Int32) else 0) = if b = d then 1 else 0 := own_ite own_mix_l
theorem own_law_3_0 (a b c d : Int32) : (if own_h3 a b c = own_h3 d b c then (1 : Int32) else 0) = if a = d then 1 else 0 := own_ite (own_mix_r.trans (own_mix_r.trans own_mix_l))
theorem own_law_3_1 (a b c d : Int32) : (if own_h3 a b c = own_h3 a d c then (1 : Int32) else 0) = if b = d then 1 else 0 := own_ite (own_mix_r.trans own_mix_l)
theorem own_law_3_2 (a b c d : Int32) : (if own_h3 a b c = own_h3 a b d then (1 : Int32) else 0) = if c = d then 1 else 0 := own_ite own_mix_l
theorem own_and (x : Int32) (k : Nat) (hk : k < 2 ^ 31) (m : Int32) (hm : m = Int32.ofNat k) : ∃ n : Nat, n ≤ k ∧ x &&& m = Int32.ofNat n := by
  refine ⟨(x &&& m).toBitVec.toNat, ?_, ?_⟩
  · rw [Int32.toBitVec_and, BitVec.toNat_and]
    refine Nat.le_trans Nat.and_le_right ?_
    rw [hm]; show (BitVec.ofNat 32 k).toNat ≤ k
    rw [BitVec.toNat_ofNat]; exact Nat.mod_le _ _
  · apply Int32.toBitVec_inj.mp
    show _ = BitVec.ofNat 32 _
    rw [BitVec.ofNat_toNat]; simp
theorem own_n4 {n p : Int32} (h : n = p &&& 3) : n = 0 ∨ n = 1 ∨ n = 2 ∨ n = 3 := by
  obtain ⟨k, hk, e⟩ := own_and p 3 (by decide) 3 rfl
  rw [h, e]
  have : k = 0 ∨ k = 1 ∨ k = 2 ∨ k = 3 := by omega
  rcases this with rfl | rfl | rfl | rfl <;> simp
theorem own_rem {p : Int32} {m : Nat} (h0 : 0 < m) (hm : m < 2 ^ 31) : ∃ r, r < m ∧ (p &&& 2147483647) - (p &&& 2147483647) / Int32.ofNat m * Int32.ofNat m = Int32.ofNat r := by
  obtain ⟨k, hk, e⟩ := own_and p 2147483647 (by decide) 2147483647 rfl
  refine ⟨k % m, Nat.mod_lt _ h0, ?_⟩
  have q : ∀ x y : Int32, x - x / y * y = x % y := irem_eq_mod
  rw [e, q]
  apply Int32.toInt_inj.mp
  rw [Int32.toInt_mod, Int32.toInt_ofNat_of_lt (by omega), Int32.toInt_ofNat_of_lt hm, Int32.toInt_ofNat_of_lt (by have := Nat.mod_le k m; omega)]
  rw [Int.tmod_eq_emod_of_nonneg (by omega)]; rfl
theorem own_p1 {v p : Int32} (h : v = (p &&& 2147483647) - (p &&& 2147483647) / 1 * 1) : v = 0 := by
  obtain ⟨r, hr, e⟩ := own_rem (p := p) (m := 1) (by decide) (by decide)
  rw [h]; refine e.trans ?_
  obtain rfl : r = 0 := by omega
  rfl
theorem own_p2 {v p : Int32} (h : v = (p &&& 2147483647) - (p &&& 2147483647) / 2 * 2) : v = 0 ∨ v = 1 := by
  obtain ⟨r, hr, e⟩ := own_rem (p := p) (m := 2) (by decide) (by decide)
  have e' : v = Int32.ofNat r := h.trans e
  have : r = 0 ∨ r = 1 := by omega
  rcases this with rfl | rfl
  · exact Or.inl e'
  · exact Or.inr e'
theorem own_p3 {v p : Int32} (h : v = (p &&& 2147483647) - (p &&& 2147483647) / 3 * 3) : v = 0 ∨ v = 1 ∨ v = 2 := by
  obtain ⟨r, hr, e⟩ := own_rem (p := p) (m := 3) (by decide) (by decide)
  have e' : v = Int32.ofNat r := h.trans e
  have : r = 0 ∨ r = 1 ∨ r = 2 := by omega
  rcases this with rfl | rfl | rfl
  · exact Or.inl e'
  · exact Or.inr (Or.inl e')
  · exact Or.inr (Or.inr e')
theorem d2_0 : decode jdk_30_method_1_code 0 = .ok (.aload_n 0, 1) := by decide +kernel
theorem d2_1 : decode jdk_30_method_1_code 1 = .ok (.invokespecial 1, 3) := by decide +kernel
theorem d2_4 : decode jdk_30_method_1_code 4 = .ok (.return_, 1) := by decide +kernel
theorem pn_2 : plainName "java/lang/Record" = true := by first | (simp [plainName, overriddenIn]; done) | decide +kernel
theorem ef_2 (m : MethodId) (a1 : Addr) : entryFrame m #[(.ref a1)] 1 = (mkF m 0 #[.val (.ref a1)] []) := by first | (simp [entryFrame, mkF, argsToLocals, Value.category]; done) | rfl
def Q2 (Z : State) (a1 : Addr) (h0 : Heap) (n0 : Nat) (v : Option Value) (h : Heap) (L : List Loc) : Prop := v = none ∧ Fr n0 L ∧ h = h0
set_option maxRecDepth 65536 in
set_option maxHeartbeats 40000000 in
theorem rm2 (l : Launch) (Z : State) (a0 : Array Value) (hw : ∀ d ∈ tables_1, d.before a0 Z = true) (ws : List Jvm.Cond) (a1 : Addr) (h0 : Heap) (n0 : Nat) (Z0 : n0 ≤ h0.size) :
    MetFree l (⟨"java/lang/Record", "<init>", "()V"⟩ : MethodName) (head1 (Jvm.Cond.code (⟨"java/lang/Record", "<init>", "()V"⟩ : MethodName) jdk_30_method_1_code 1 none :: ws) ({ frames := 1, cells := 0, slots := 0, locals := 12 } : Room)) (fun a U => a = #[(.ref a1)] ∧ Z.Warmed39 U.vm ∧ U.heap = h0) (fun _ _ _ _ _ => True) (fun _ U o U' => ∃ v L, o = .returned v ∧ Q2 Z a1 h0 n0 v U'.heap L ∧ FrameEnd U o U' L ({ frames := 1, cells := 0, slots := 0, locals := 12 } : Room).cells ({ frames := 1, cells := 0, slots := 0, locals := 12 } : Room).slots) := by
  refine MetFree.of_bodySF (plainFor_of_name pn_2) hisR ?_
  intro p e s m args below meth c s₁ Bd hml0 hP hK
  obtain ⟨rfl, hZ, hh⟩ := hP
  have hx := Bd.exec
  have hby := Bd.bytes
  have hml : c.maxLocals = 1 := hml0
  have hown : s.vm.findClass "java/lang/Record" = some m.cls := findClass_of_methodNamed Bd.named
  have hnm := (name_of_methodNamed Bd.named Bd.method).1
  have X0 : Stand p l e ({ frames := 1, cells := 0, slots := 0, locals := 12 } : Room) s m #[(.ref a1)] below meth c s₁ [] 0 0 := Stand.of_body Bd
  have e0 : s₁.heap = h0 := by rw [← hh, Bd.state]; rfl
  have N0 := Fr.nil n0
  have K0 := Keep.refl h0 ([] : List Addr)
  have pre0 : ∀ t, Steps p.tables e below (s₁.setTop (mkF m 0 #[.val (.ref a1)] [])) t → Steps p.tables e below (s₁.setTop (entryFrame m #[(.ref a1)] 1)) t := fun t k => castTop (ef_2 m a1) k
  obtain ⟨T1, X1, e1, st1⟩ := initO X0 hx hZ hown (hw _ (List.mem_of_getElem? (i := 12) rfl)) (hw _ (List.mem_of_getElem? (i := 13) rfl)) (hw _ (List.mem_of_getElem? (i := 14) rfl)) e0 (g := (mkF m 1 #[.val (.ref a1)] [(.ref a1)])) rfl (by rw [hml]; rfl) rfl (hb hby d2_1) (by decide) (W := 0) (by show 2 * 0 + _ ≤ _; exact Nat.le_of_eq rfl) (by decide)
  obtain ⟨fs, hr, hrun, hended, hW, hsame⟩ := X1.leave (v := none) (fun _ => rfl)
  refine ⟨_, _, pre0 _ ?_, hrun, hended, _, _, rfl, ?_, ⟨_, rfl⟩, hW, hsame.mono (by decide) (by decide)⟩
  ·
    show Steps p.tables e below (s₁.setTop (mkF m 0 #[.val (.ref a1)] [])) _
    refine XS.aloadN X0.here hx rfl (hb hby d2_0) rfl rfl ?_
    show Steps p.tables e below (s₁.setTop (mkF m 1 #[.val (.ref a1)] [(.ref a1)])) _
    refine st1 _ ?_
    show Steps p.tables e below (T1.setTop (mkF m 4 #[.val (.ref a1)] [])) _
    exact X1.returnOut hx Bd.returns (hb hby d2_4) hr
  ·
    show Q2 Z a1 h0 n0 _ T1.heap _
    rw [e1]
    exact ⟨rfl, N0, rfl⟩
theorem d1_0 : decode prog_49_method_1_code 0 = .ok (.aload_n 0, 1) := by decide +kernel
theorem d1_1 : decode prog_49_method_1_code 1 = .ok (.invokespecial 1, 3) := by decide +kernel
theorem d1_4 : decode prog_49_method_1_code 4 = .ok (.aload_n 0, 1) := by decide +kernel
theorem d1_5 : decode prog_49_method_1_code 5 = .ok (.aload_n 1, 1) := by decide +kernel
theorem d1_6 : decode prog_49_method_1_code 6 = .ok (.putfield 7, 3) := by decide +kernel
theorem d1_9 : decode prog_49_method_1_code 9 = .ok (.return_, 1) := by decide +kernel
theorem pn_1 : plainName "com/example/hedge/hedge/analysis/IntArrayKey" = true := by first | (simp [plainName, overriddenIn]; done) | decide +kernel
theorem pd___V : parseMethodDescriptor "()V" = some ⟨[], none⟩ := by decide +kernel
theorem ef_1 (m : MethodId) (a1 : Addr) (a2 : Addr) : entryFrame m #[(.ref a1), (.ref a2)] 2 = (mkF m 0 #[.val (.ref a1), .val (.ref a2)] []) := by first | (simp [entryFrame, mkF, argsToLocals, Value.category]; done) | rfl
def Q1 (Z : State) (a1 : Addr) (a2 : Addr) (h0 : Heap) (n0 : Nat) (v : Option Value) (h : Heap) (L : List Loc) : Prop := v = none ∧ Fr n0 L ∧ Keep h0 h [a1] ∧ Fld Z h a1 "com/example/hedge/hedge/analysis/IntArrayKey" "values" "[I" (.ref a2)
set_option maxRecDepth 65536 in
set_option maxHeartbeats 40000000 in
theorem rm1 (l : Launch) (Z : State) (a0 : Array Value) (hw : ∀ d ∈ tables_1, d.before a0 Z = true) (ws : List Jvm.Cond) (a1 : Addr) (a2 : Addr) (h0 : Heap) (n0 : Nat) (Z0 : n0 ≤ h0.size) (E_a1 : Exa Z h0 a1 "com/example/hedge/hedge/analysis/IntArrayKey") (F_a1 : Fld Z h0 a1 "com/example/hedge/hedge/analysis/IntArrayKey" "values" "[I" .null) (g_a1 : n0 ≤ a1) :
    MetFree l (⟨"com/example/hedge/hedge/analysis/IntArrayKey", "<init>", "([I)V"⟩ : MethodName) (head1 (Jvm.Cond.code (⟨"com/example/hedge/hedge/analysis/IntArrayKey", "<init>", "([I)V"⟩ : MethodName) prog_49_method_1_code 2 none :: ws) ({ frames := 2, cells := 0, slots := 0, locals := 24 } : Room)) (fun a U => a = #[(.ref a1), (.ref a2)] ∧ Z.Warmed39 U.vm ∧ U.heap = h0) (fun _ _ _ _ _ => True) (fun _ U o U' => ∃ v L, o = .returned v ∧ Q1 Z a1 a2 h0 n0 v U'.heap L ∧ FrameEnd U o U' L ({ frames := 2, cells := 0, slots := 0, locals := 24 } : Room).cells ({ frames := 2, cells := 0, slots := 0, locals := 24 } : Room).slots) := by
  refine MetFree.of_bodySF (plainFor_of_name pn_1) hisR ?_
  intro p e s m args below meth c s₁ Bd hml0 hP hK
  obtain ⟨rfl, hZ, hh⟩ := hP
  have hx := Bd.exec
  have hby := Bd.bytes
  have hml : c.maxLocals = 2 := hml0
  have hown : s.vm.findClass "com/example/hedge/hedge/analysis/IntArrayKey" = some m.cls := findClass_of_methodNamed Bd.named
  have hnm := (name_of_methodNamed Bd.named Bd.method).1
  have X0 : Stand p l e ({ frames := 2, cells := 0, slots := 0, locals := 24 } : Room) s m #[(.ref a1), (.ref a2)] below meth c s₁ [] 0 0 := Stand.of_body Bd
  have e0 : s₁.heap = h0 := by rw [← hh, Bd.state]; rfl
  have N0 := Fr.nil n0
  have K0 := Keep.refl h0 ([a1] : List Addr)
  have pre0 : ∀ t, Steps p.tables e below (s₁.setTop (mkF m 0 #[.val (.ref a1), .val (.ref a2)] [])) t → Steps p.tables e below (s₁.setTop (entryFrame m #[(.ref a1), (.ref a2)] 2)) t := fun t k => castTop (ef_1 m a1 a2) k
  obtain ⟨_, _, ⟨T1, L1, k1, n1⟩, -, X1, ⟨Lc1, hQ1, l1, y1, z1⟩, st1⟩ := X0.specialBack hx (y := (⟨"java/lang/Record", "<init>", "()V"⟩ : MethodName)) rfl hown (mvT hZ (hw _ (List.mem_of_getElem? (i := 7) rfl))) (mvT hZ (hw _ (List.mem_of_getElem? (i := 8) rfl))) (mvT hZ (hw _ (List.mem_of_getElem? (i := 11) rfl))) (by decide) (backOf (W := 0) (rm2 l Z a0 hw [] a1 h0 n0 Z0) hZ (hw _ (List.mem_of_getElem? (i := 11) rfl)) (hw _ (List.mem_of_getElem? (i := 10) rfl)) (by decide) (by decide)) (g := (mkF m 1 #[.val (.ref a1), .val (.ref a2)] [(.ref a1)])) rfl (by rw [hml]; rfl) (Steps.refl _) (a := a1) (argsL := []) (rest := []) (lenOf pd___V rfl) rfl (by show 2 * 0 + _ ≤ _; exact Nat.le_of_eq rfl) (hb hby d1_1) (fun _ _ => ⟨rfl, e0, (by decide : 0 + 0 ≤ _), (by decide : 0 + 0 ≤ _)⟩)
  dsimp only [Pt.U, Pt.locs, Pt.cells, Pt.slots] at X1 l1 y1 z1 st1 hQ1
  subst l1 y1 z1
  obtain ⟨rfl, N1q, hq1⟩ := hQ1
  have N1 := Fr.app N0 N1q
  obtain ⟨T2, h2, X2, e2, W2, st2⟩ := putF X1 hx hZ hown (host := "") (Or.inl (hw _ (List.mem_of_getElem? (i := 15) rfl))) Via.refl hq1 F_a1 E_a1 (Or.inr ⟨(hw _ (List.mem_of_getElem? (i := 16) rfl)), rfl, hnm⟩) (hw _ (List.mem_of_getElem? (i := 2) rfl)) (ty := (.array .int)) (by decide) rfl rfl (g := (mkF m 6 #[.val (.ref a1), .val (.ref a2)] [(.ref a2), (.ref a1)])) rfl rfl (hb hby d1_6)
  have Fw2 := F_a1.same W2
  have K2 := K0.wr W2 (Or.inl (List.mem_of_getElem? (i := 0) rfl))
  have N2 := Fr.snoc X2 N1 g_a1
  obtain ⟨fs, hr, hrun, hended, hW, hsame⟩ := X2.leave (v := none) (fun _ => rfl)
  refine ⟨_, _, pre0 _ ?_, hrun, hended, _, _, rfl, ?_, ⟨_, rfl⟩, hW, hsame.mono (by decide) (by decide)⟩
  ·
    show Steps p.tables e below (s₁.setTop (mkF m 0 #[.val (.ref a1), .val (.ref a2)] [])) _
    refine XS.aloadN X0.here hx rfl (hb hby d1_0) rfl rfl ?_
    show Steps p.tables e below (s₁.setTop (mkF m 1 #[.val (.ref a1), .val (.ref a2)] [(.ref a1)])) _
    refine st1.trans ?_
    show Steps p.tables e below (T1.setTop (mkF m 4 #[.val (.ref a1), .val (.ref a2)] [])) _
    refine XS.aloadN X1.here hx rfl (hb hby d1_4) rfl rfl ?_
    show Steps p.tables e below (T1.setTop (mkF m 5 #[.val (.ref a1), .val (.ref a2)] [(.ref a1)])) _
    refine XS.aloadN X1.here hx rfl (hb hby d1_5) rfl rfl ?_
    show Steps p.tables e below (T1.setTop (mkF m 6 #[.val (.ref a1), .val (.ref a2)] [(.ref a2), (.ref a1)])) _
    refine st2 _ ?_
    show Steps p.tables e below (T2.setTop (mkF m 9 #[.val (.ref a1), .val (.ref a2)] [])) _
    exact X2.returnOut hx Bd.returns (hb hby d1_9) hr
  ·
    show Q1 Z a1 a2 h0 n0 _ T2.heap _
    rw [e2]
    exact ⟨rfl, N2, K2, Fw2⟩
theorem d4_0 : decode prog_49_method_3_code 0 = .ok (.aload_n 0, 1) := by decide +kernel
theorem d4_1 : decode prog_49_method_3_code 1 = .ok (.getfield 7, 3) := by decide +kernel
theorem d4_4 : decode prog_49_method_3_code 4 = .ok (.arraylength, 1) := by decide +kernel
theorem d4_5 : decode prog_49_method_3_code 5 = .ok (.istore_n 1, 1) := by decide +kernel
theorem d4_6 : decode prog_49_method_3_code 6 = .ok (.aload_n 0, 1) := by decide +kernel
theorem d4_7 : decode prog_49_method_3_code 7 = .ok (.getfield 7, 3) := by decide +kernel
theorem d4_10 : decode prog_49_method_3_code 10 = .ok (.astore_n 2, 1) := by decide +kernel
theorem d4_11 : decode prog_49_method_3_code 11 = .ok (.aload_n 2, 1) := by decide +kernel
theorem d4_12 : decode prog_49_method_3_code 12 = .ok (.arraylength, 1) := by decide +kernel
theorem d4_13 : decode prog_49_method_3_code 13 = .ok (.istore_n 3, 1) := by decide +kernel
theorem d4_14 : decode prog_49_method_3_code 14 = .ok (.iconst 0, 1) := by decide +kernel
theorem d4_15 : decode prog_49_method_3_code 15 = .ok (.istore 4, 2) := by decide +kernel
theorem d4_17 : decode prog_49_method_3_code 17 = .ok (.iload 4, 2) := by decide +kernel
theorem d4_19 : decode prog_49_method_3_code 19 = .ok (.iload_n 3, 1) := by decide +kernel
theorem d4_20 : decode prog_49_method_3_code 20 = .ok (.if_icmp .ge 30, 3) := by decide +kernel
theorem d4_50 : decode prog_49_method_3_code 50 = .ok (.iload_n 1, 1) := by decide +kernel
theorem d4_51 : decode prog_49_method_3_code 51 = .ok (.ireturn, 1) := by decide +kernel
theorem pn_4 : plainName "com/example/hedge/hedge/analysis/IntArrayKey" = true := by first | (simp [plainName, overriddenIn]; done) | decide +kernel
theorem ef_hc0 (m : MethodId) (a1 : Addr) : entryFrame m #[(.ref a1)] 6 = (mkF m 0 #[.val (.ref a1), .unset, .unset, .unset, .unset, .unset] []) := by first | (simp [entryFrame, mkF, argsToLocals, Value.category]; done) | rfl
def Qhc0 (Z : State) (a1 : Addr) (a2 : Addr) (ka : ClassId) (h0 : Heap) (n0 : Nat) (v : Option Value) (h : Heap) (L : List Loc) : Prop := v = some (.int (own_h0 )) ∧ Fr n0 L ∧ h = h0
set_option maxRecDepth 65536 in
set_option maxHeartbeats 40000000 in
theorem hc0 (l : Launch) (Z : State) (a0 : Array Value) (hw : ∀ d ∈ tables_1, d.before a0 Z = true) (ws : List Jvm.Cond) (a1 : Addr) (a2 : Addr) (ka : ClassId) (h0 : Heap) (n0 : Nat) (Z0 : n0 ≤ h0.size) (F_a1 : Fld Z h0 a1 "com/example/hedge/hedge/analysis/IntArrayKey" "values" "[I" (.ref a2)) (V_a2 : Arv Z h0 a2 ka .int 0 [] (.int (0 : Int32))) :
    MetFree l (⟨"com/example/hedge/hedge/analysis/IntArrayKey", "hashCode", "()I"⟩ : MethodName) (head1 (Jvm.Cond.code (⟨"com/example/hedge/hedge/analysis/IntArrayKey", "hashCode", "()I"⟩ : MethodName) prog_49_method_3_code 6 (some .int) :: ws) ({ frames := 0, cells := 0, slots := 0, locals := 0 } : Room)) (fun a U => a = #[(.ref a1)] ∧ Z.Warmed39 U.vm ∧ U.heap = h0) (fun _ _ _ _ _ => True) (fun _ U o U' => ∃ v L, o = .returned v ∧ Qhc0 Z a1 a2 ka h0 n0 v U'.heap L ∧ FrameEnd U o U' L ({ frames := 0, cells := 0, slots := 0, locals := 0 } : Room).cells ({ frames := 0, cells := 0, slots := 0, locals := 0 } : Room).slots) := by
  refine MetFree.of_bodySF (plainFor_of_name pn_4) hisR ?_
  intro p e s m args below meth c s₁ Bd hml0 hP hK
  obtain ⟨rfl, hZ, hh⟩ := hP
  have hx := Bd.exec
  have hby := Bd.bytes
  have hml : c.maxLocals = 6 := hml0
  have hown : s.vm.findClass "com/example/hedge/hedge/analysis/IntArrayKey" = some m.cls := findClass_of_methodNamed Bd.named
  have hnm := (name_of_methodNamed Bd.named Bd.method).1
  have X0 : Stand p l e ({ frames := 0, cells := 0, slots := 0, locals := 0 } : Room) s m #[(.ref a1)] below meth c s₁ [] 0 0 := Stand.of_body Bd
  have e0 : s₁.heap = h0 := by rw [← hh, Bd.state]; rfl
  have N0 := Fr.nil n0
  have K0 := Keep.refl h0 ([] : List Addr)
  have pre0 : ∀ t, Steps p.tables e below (s₁.setTop (mkF m 0 #[.val (.ref a1), .unset, .unset, .unset, .unset, .unset] [])) t → Steps p.tables e below (s₁.setTop (entryFrame m #[(.ref a1)] 6)) t := fun t k => castTop (ef_hc0 m a1) k
  obtain ⟨T1, X1, e1, st1⟩ := getF X0 hx hZ hown (host := "") (Or.inl (hw _ (List.mem_of_getElem? (i := 15) rfl))) Via.refl e0 F_a1 (g := (mkF m 1 #[.val (.ref a1), .unset, .unset, .unset, .unset, .unset] [(.ref a1)])) rfl rfl (hb hby d4_1)
  obtain ⟨clo2, Aro2, -, So2, No2, -, -⟩ := id V_a2
  obtain ⟨T3, X3, e3, st3⟩ := getF X1 hx hZ hown (host := "") (Or.inl (hw _ (List.mem_of_getElem? (i := 15) rfl))) Via.refl e1 F_a1 (g := (mkF m 7 #[.val (.ref a1), .val (.int (0 : Int32)), .unset, .unset, .unset, .unset] [(.ref a1)])) rfl rfl (hb hby d4_7)
  obtain ⟨clo4, Aro4, -, So4, No4, -, -⟩ := id V_a2
  obtain ⟨fs, hr, hrun, hended, hW, hsame⟩ := X3.leave (v := some (.int (own_h0 ))) (fun h => by rw [Bd.returns] at h; cases h)
  refine ⟨_, _, pre0 _ ?_, hrun, hended, _, _, rfl, ?_, ⟨_, rfl⟩, hW, hsame.mono (by decide) (by decide)⟩
  ·
    show Steps p.tables e below (s₁.setTop (mkF m 0 #[.val (.ref a1), .unset, .unset, .unset, .unset, .unset] [])) _
    refine XS.aloadN X0.here hx rfl (hb hby d4_0) rfl rfl ?_
    show Steps p.tables e below (s₁.setTop (mkF m 1 #[.val (.ref a1), .unset, .unset, .unset, .unset, .unset] [(.ref a1)])) _
    refine st1 _ ?_
    show Steps p.tables e below (T1.setTop (mkF m 4 #[.val (.ref a1), .unset, .unset, .unset, .unset, .unset] [(.ref a2)])) _
    refine X1.arraylength hx (by rw [e1]; exact Aro2.1) (State.isArrayOf_alike hZ.alike Aro2.2.1) (g := (mkF m 4 #[.val (.ref a1), .unset, .unset, .unset, .unset, .unset] [(.ref a2)])) rfl rfl (hb hby d4_4) _ ?_
    rw [len_of So2 No2]
    show Steps p.tables e below (T1.setTop (mkF m 5 #[.val (.ref a1), .unset, .unset, .unset, .unset, .unset] [(.int (0 : Int32))])) _
    refine XS.istoreN X1.here hx rfl (hb hby d4_5) rfl (l' := #[.val (.ref a1), .val (.int (0 : Int32)), .unset, .unset, .unset, .unset]) rfl ?_
    show Steps p.tables e below (T1.setTop (mkF m 6 #[.val (.ref a1), .val (.int (0 : Int32)), .unset, .unset, .unset, .unset] [])) _
    refine XS.aloadN X1.here hx rfl (hb hby d4_6) rfl rfl ?_
    show Steps p.tables e below (T1.setTop (mkF m 7 #[.val (.ref a1), .val (.int (0 : Int32)), .unset, .unset, .unset, .unset] [(.ref a1)])) _
    refine st3 _ ?_
    show Steps p.tables e below (T3.setTop (mkF m 10 #[.val (.ref a1), .val (.int (0 : Int32)), .unset, .unset, .unset, .unset] [(.ref a2)])) _
    refine XS.astoreN X3.here hx rfl (hb hby d4_10) rfl rfl (l' := #[.val (.ref a1), .val (.int (0 : Int32)), .val (.ref a2), .unset, .unset, .unset]) rfl ?_
    show Steps p.tables e below (T3.setTop (mkF m 11 #[.val (.ref a1), .val (.int (0 : Int32)), .val (.ref a2), .unset, .unset, .unset] [])) _
    refine XS.aloadN X3.here hx rfl (hb hby d4_11) rfl rfl ?_
    show Steps p.tables e below (T3.setTop (mkF m 12 #[.val (.ref a1), .val (.int (0 : Int32)), .val (.ref a2), .unset, .unset, .unset] [(.ref a2)])) _
    refine X3.arraylength hx (by rw [e3]; exact Aro4.1) (State.isArrayOf_alike hZ.alike Aro4.2.1) (g := (mkF m 12 #[.val (.ref a1), .val (.int (0 : Int32)), .val (.ref a2), .unset, .unset, .unset] [(.ref a2)])) rfl rfl (hb hby d4_12) _ ?_
    rw [len_of So4 No4]
    show Steps p.tables e below (T3.setTop (mkF m 13 #[.val (.ref a1), .val (.int (0 : Int32)), .val (.ref a2), .unset, .unset, .unset] [(.int (0 : Int32))])) _
    refine XS.istoreN X3.here hx rfl (hb hby d4_13) rfl (l' := #[.val (.ref a1), .val (.int (0 : Int32)), .val (.ref a2), .val (.int (0 : Int32)), .unset, .unset]) rfl ?_
    show Steps p.tables e below (T3.setTop (mkF m 14 #[.val (.ref a1), .val (.int (0 : Int32)), .val (.ref a2), .val (.int (0 : Int32)), .unset, .unset] [])) _
    refine XS.iconst X3.here hx rfl (hb hby d4_14) ?_
    show Steps p.tables e below (T3.setTop (mkF m 15 #[.val (.ref a1), .val (.int (0 : Int32)), .val (.ref a2), .val (.int (0 : Int32)), .unset, .unset] [(.int (0 : Int32))])) _
    refine XS.istore X3.here hx rfl (hb hby d4_15) rfl (l' := #[.val (.ref a1), .val (.int (0 : Int32)), .val (.ref a2), .val (.int (0 : Int32)), .val (.int (0 : Int32)), .unset]) rfl ?_
    show Steps p.tables e below (T3.setTop (mkF m 17 #[.val (.ref a1), .val (.int (0 : Int32)), .val (.ref a2), .val (.int (0 : Int32)), .val (.int (0 : Int32)), .unset] [])) _
    refine XS.iload X3.here hx rfl (hb hby d4_17) rfl ?_
    show Steps p.tables e below (T3.setTop (mkF m 19 #[.val (.ref a1), .val (.int (0 : Int32)), .val (.ref a2), .val (.int (0 : Int32)), .val (.int (0 : Int32)), .unset] [(.int (0 : Int32))])) _
    refine XS.iloadN X3.here hx rfl (hb hby d4_19) rfl ?_
    show Steps p.tables e below (T3.setTop (mkF m 20 #[.val (.ref a1), .val (.int (0 : Int32)), .val (.ref a2), .val (.int (0 : Int32)), .val (.int (0 : Int32)), .unset] [(.int (0 : Int32)), (.int (0 : Int32))])) _
    refine XS.icmpYes X3.here hx rfl (pc0 := 20) (pc' := 50) rfl (hb hby d4_20) rfl (flt (by decide : ¬ ((0 : Int32) < (0 : Int32)))).2.1 (by decide) (by decide) ?_
    show Steps p.tables e below (T3.setTop (mkF m 50 #[.val (.ref a1), .val (.int (0 : Int32)), .val (.ref a2), .val (.int (0 : Int32)), .val (.int (0 : Int32)), .unset] [])) _
    refine XS.iloadN X3.here hx rfl (hb hby d4_50) rfl ?_
    show Steps p.tables e below (T3.setTop (mkF m 51 #[.val (.ref a1), .val (.int (0 : Int32)), .val (.ref a2), .val (.int (0 : Int32)), .val (.int (0 : Int32)), .unset] [(.int (0 : Int32))])) _
    exact retI X3 hx Bd.returns (hb hby d4_51) hr
  ·
    show Qhc0 Z a1 a2 ka h0 n0 _ T3.heap _
    rw [e3]
    exact ⟨rfl, N0, rfl⟩
theorem d4_23 : decode prog_49_method_3_code 23 = .ok (.aload_n 2, 1) := by decide +kernel
theorem d4_24 : decode prog_49_method_3_code 24 = .ok (.iload 4, 2) := by decide +kernel
theorem d4_26 : decode prog_49_method_3_code 26 = .ok (.iaload, 1) := by decide +kernel
theorem d4_27 : decode prog_49_method_3_code 27 = .ok (.istore 5, 2) := by decide +kernel
theorem d4_29 : decode prog_49_method_3_code 29 = .ok (.iload_n 1, 1) := by decide +kernel
theorem d4_30 : decode prog_49_method_3_code 30 = .ok (.iload 5, 2) := by decide +kernel
theorem d4_32 : decode prog_49_method_3_code 32 = .ok (.iadd, 1) := by decide +kernel
theorem d4_33 : decode prog_49_method_3_code 33 = .ok (.ldc 19, 2) := by decide +kernel
theorem d4_35 : decode prog_49_method_3_code 35 = .ok (.imul, 1) := by decide +kernel
theorem d4_36 : decode prog_49_method_3_code 36 = .ok (.istore_n 1, 1) := by decide +kernel
theorem d4_37 : decode prog_49_method_3_code 37 = .ok (.iload_n 1, 1) := by decide +kernel
theorem d4_38 : decode prog_49_method_3_code 38 = .ok (.iload_n 1, 1) := by decide +kernel
theorem d4_39 : decode prog_49_method_3_code 39 = .ok (.bipush 16, 2) := by decide +kernel
theorem d4_41 : decode prog_49_method_3_code 41 = .ok (.iushr, 1) := by decide +kernel
theorem d4_42 : decode prog_49_method_3_code 42 = .ok (.ixor, 1) := by decide +kernel
theorem d4_43 : decode prog_49_method_3_code 43 = .ok (.istore_n 1, 1) := by decide +kernel
theorem d4_44 : decode prog_49_method_3_code 44 = .ok (.iinc 4 1, 3) := by decide +kernel
theorem d4_47 : decode prog_49_method_3_code 47 = .ok (.goto (-30), 3) := by decide +kernel
theorem ef_hc1 (m : MethodId) (a1 : Addr) : entryFrame m #[(.ref a1)] 6 = (mkF m 0 #[.val (.ref a1), .unset, .unset, .unset, .unset, .unset] []) := by first | (simp [entryFrame, mkF, argsToLocals, Value.category]; done) | rfl
def Qhc1 (Z : State) (a1 : Addr) (a2 : Addr) (ka : ClassId) (x0 : Int32) (h0 : Heap) (n0 : Nat) (v : Option Value) (h : Heap) (L : List Loc) : Prop := v = some (.int (own_h1 x0)) ∧ Fr n0 L ∧ h = h0
set_option maxRecDepth 65536 in
set_option maxHeartbeats 40000000 in
theorem hc1 (l : Launch) (Z : State) (a0 : Array Value) (hw : ∀ d ∈ tables_1, d.before a0 Z = true) (ws : List Jvm.Cond) (a1 : Addr) (a2 : Addr) (ka : ClassId) (x0 : Int32) (h0 : Heap) (n0 : Nat) (Z0 : n0 ≤ h0.size) (F_a1 : Fld Z h0 a1 "com/example/hedge/hedge/analysis/IntArrayKey" "values" "[I" (.ref a2)) (V_a2 : Arv Z h0 a2 ka .int 1 [(.int x0)] (.int (0 : Int32))) :
    MetFree l (⟨"com/example/hedge/hedge/analysis/IntArrayKey", "hashCode", "()I"⟩ : MethodName) (head1 (Jvm.Cond.code (⟨"com/example/hedge/hedge/analysis/IntArrayKey", "hashCode", "()I"⟩ : MethodName) prog_49_method_3_code 6 (some .int) :: ws) ({ frames := 0, cells := 0, slots := 0, locals := 0 } : Room)) (fun a U => a = #[(.ref a1)] ∧ Z.Warmed39 U.vm ∧ U.heap = h0) (fun _ _ _ _ _ => True) (fun _ U o U' => ∃ v L, o = .returned v ∧ Qhc1 Z a1 a2 ka x0 h0 n0 v U'.heap L ∧ FrameEnd U o U' L ({ frames := 0, cells := 0, slots := 0, locals := 0 } : Room).cells ({ frames := 0, cells := 0, slots := 0, locals := 0 } : Room).slots) := by
  refine MetFree.of_bodySF (plainFor_of_name pn_4) hisR ?_
  intro p e s m args below meth c s₁ Bd hml0 hP hK
  obtain ⟨rfl, hZ, hh⟩ := hP
  have hx := Bd.exec
  have hby := Bd.bytes
  have hml : c.maxLocals = 6 := hml0
  have hown : s.vm.findClass "com/example/hedge/hedge/analysis/IntArrayKey" = some m.cls := findClass_of_methodNamed Bd.named
  have hnm := (name_of_methodNamed Bd.named Bd.method).1
  have X0 : Stand p l e ({ frames := 0, cells := 0, slots := 0, locals := 0 } : Room) s m #[(.ref a1)] below meth c s₁ [] 0 0 := Stand.of_body Bd
  have e0 : s₁.heap = h0 := by rw [← hh, Bd.state]; rfl
  have N0 := Fr.nil n0
  have K0 := Keep.refl h0 ([] : List Addr)
  have pre0 : ∀ t, Steps p.tables e below (s₁.setTop (mkF m 0 #[.val (.ref a1), .unset, .unset, .unset, .unset, .unset] [])) t → Steps p.tables e below (s₁.setTop (entryFrame m #[(.ref a1)] 6)) t := fun t k => castTop (ef_hc1 m a1) k
  obtain ⟨T1, X1, e1, st1⟩ := getF X0 hx hZ hown (host := "") (Or.inl (hw _ (List.mem_of_getElem? (i := 15) rfl))) Via.refl e0 F_a1 (g := (mkF m 1 #[.val (.ref a1), .unset, .unset, .unset, .unset, .unset] [(.ref a1)])) rfl rfl (hb hby d4_1)
  obtain ⟨clo2, Aro2, -, So2, No2, -, -⟩ := id V_a2
  obtain ⟨T3, X3, e3, st3⟩ := getF X1 hx hZ hown (host := "") (Or.inl (hw _ (List.mem_of_getElem? (i := 15) rfl))) Via.refl e1 F_a1 (g := (mkF m 7 #[.val (.ref a1), .val (.int (1 : Int32)), .unset, .unset, .unset, .unset] [(.ref a1)])) rfl rfl (hb hby d4_7)
  obtain ⟨clo4, Aro4, -, So4, No4, -, -⟩ := id V_a2
  obtain ⟨clo5, Aro5, -, So5, No5, Ho5, -⟩ := id V_a2
  have hino5 : ¬ ((0 : Int32) < 0 ∨ clo5.slots.size ≤ ((0 : Int32)).toNatClampNeg) := inb_of So5 ⟨by decide, by decide⟩
  have hato5 : clo5.slots[((0 : Int32)).toNatClampNeg]? = some (.int x0) := Ho5.at hino5 rfl
  obtain ⟨fs, hr, hrun, hended, hW, hsame⟩ := X3.leave (v := some (.int (own_h1 x0))) (fun h => by rw [Bd.returns] at h; cases h)
  refine ⟨_, _, pre0 _ ?_, hrun, hended, _, _, rfl, ?_, ⟨_, rfl⟩, hW, hsame.mono (by decide) (by decide)⟩
  ·
    show Steps p.tables e below (s₁.setTop (mkF m 0 #[.val (.ref a1), .unset, .unset, .unset, .unset, .unset] [])) _
    refine XS.aloadN X0.here hx rfl (hb hby d4_0) rfl rfl ?_
    show Steps p.tables e below (s₁.setTop (mkF m 1 #[.val (.ref a1), .unset, .unset, .unset, .unset, .unset] [(.ref a1)])) _
    refine st1 _ ?_
    show Steps p.tables e below (T1.setTop (mkF m 4 #[.val (.ref a1), .unset, .unset, .unset, .unset, .unset] [(.ref a2)])) _
    refine X1.arraylength hx (by rw [e1]; exact Aro2.1) (State.isArrayOf_alike hZ.alike Aro2.2.1) (g := (mkF m 4 #[.val (.ref a1), .unset, .unset, .unset, .unset, .unset] [(.ref a2)])) rfl rfl (hb hby d4_4) _ ?_
    rw [len_of So2 No2]
    show Steps p.tables e below (T1.setTop (mkF m 5 #[.val (.ref a1), .unset, .unset, .unset, .unset, .unset] [(.int (1 : Int32))])) _
    refine XS.istoreN X1.here hx rfl (hb hby d4_5) rfl (l' := #[.val (.ref a1), .val (.int (1 : Int32)), .unset, .unset, .unset, .unset]) rfl ?_
    show Steps p.tables e below (T1.setTop (mkF m 6 #[.val (.ref a1), .val (.int (1 : Int32)), .unset, .unset, .unset, .unset] [])) _
    refine XS.aloadN X1.here hx rfl (hb hby d4_6) rfl rfl ?_
    show Steps p.tables e below (T1.setTop (mkF m 7 #[.val (.ref a1), .val (.int (1 : Int32)), .unset, .unset, .unset, .unset] [(.ref a1)])) _
    refine st3 _ ?_
    show Steps p.tables e below (T3.setTop (mkF m 10 #[.val (.ref a1), .val (.int (1 : Int32)), .unset, .unset, .unset, .unset] [(.ref a2)])) _
    refine XS.astoreN X3.here hx rfl (hb hby d4_10) rfl rfl (l' := #[.val (.ref a1), .val (.int (1 : Int32)), .val (.ref a2), .unset, .unset, .unset]) rfl ?_
    show Steps p.tables e below (T3.setTop (mkF m 11 #[.val (.ref a1), .val (.int (1 : Int32)), .val (.ref a2), .unset, .unset, .unset] [])) _
    refine XS.aloadN X3.here hx rfl (hb hby d4_11) rfl rfl ?_
    show Steps p.tables e below (T3.setTop (mkF m 12 #[.val (.ref a1), .val (.int (1 : Int32)), .val (.ref a2), .unset, .unset, .unset] [(.ref a2)])) _
    refine X3.arraylength hx (by rw [e3]; exact Aro4.1) (State.isArrayOf_alike hZ.alike Aro4.2.1) (g := (mkF m 12 #[.val (.ref a1), .val (.int (1 : Int32)), .val (.ref a2), .unset, .unset, .unset] [(.ref a2)])) rfl rfl (hb hby d4_12) _ ?_
    rw [len_of So4 No4]
    show Steps p.tables e below (T3.setTop (mkF m 13 #[.val (.ref a1), .val (.int (1 : Int32)), .val (.ref a2), .unset, .unset, .unset] [(.int (1 : Int32))])) _
    refine XS.istoreN X3.here hx rfl (hb hby d4_13) rfl (l' := #[.val (.ref a1), .val (.int (1 : Int32)), .val (.ref a2), .val (.int (1 : Int32)), .unset, .unset]) rfl ?_
    show Steps p.tables e below (T3.setTop (mkF m 14 #[.val (.ref a1), .val (.int (1 : Int32)), .val (.ref a2), .val (.int (1 : Int32)), .unset, .unset] [])) _
    refine XS.iconst X3.here hx rfl (hb hby d4_14) ?_
    show Steps p.tables e below (T3.setTop (mkF m 15 #[.val (.ref a1), .val (.int (1 : Int32)), .val (.ref a2), .val (.int (1 : Int32)), .unset, .unset] [(.int (0 : Int32))])) _
    refine XS.istore X3.here hx rfl (hb hby d4_15) rfl (l' := #[.val (.ref a1), .val (.int (1 : Int32)), .val (.ref a2), .val (.int (1 : Int32)), .val (.int (0 : Int32)), .unset]) rfl ?_
    show Steps p.tables e below (T3.setTop (mkF m 17 #[.val (.ref a1), .val (.int (1 : Int32)), .val (.ref a2), .val (.int (1 : Int32)), .val (.int (0 : Int32)), .unset] [])) _
    refine XS.iload X3.here hx rfl (hb hby d4_17) rfl ?_
    show Steps p.tables e below (T3.setTop (mkF m 19 #[.val (.ref a1), .val (.int (1 : Int32)), .val (.ref a2), .val (.int (1 : Int32)), .val (.int (0 : Int32)), .unset] [(.int (0 : Int32))])) _
    refine XS.iloadN X3.here hx rfl (hb hby d4_19) rfl ?_
    show Steps p.tables e below (T3.setTop (mkF m 20 #[.val (.ref a1), .val (.int (1 : Int32)), .val (.ref a2), .val (.int (1 : Int32)), .val (.int (0 : Int32)), .unset] [(.int (1 : Int32)), (.int (0 : Int32))])) _
    refine XS.icmpNo X3.here hx rfl (hb hby d4_20) rfl (tlt (by decide : (0 : Int32) < (1 : Int32))).2.1 ?_
    show Steps p.tables e below (T3.setTop (mkF m 23 #[.val (.ref a1), .val (.int (1 : Int32)), .val (.ref a2), .val (.int (1 : Int32)), .val (.int (0 : Int32)), .unset] [])) _
    refine XS.aloadN X3.here hx rfl (hb hby d4_23) rfl rfl ?_
    show Steps p.tables e below (T3.setTop (mkF m 24 #[.val (.ref a1), .val (.int (1 : Int32)), .val (.ref a2), .val (.int (1 : Int32)), .val (.int (0 : Int32)), .unset] [(.ref a2)])) _
    refine XS.iload X3.here hx rfl (hb hby d4_24) rfl ?_
    show Steps p.tables e below (T3.setTop (mkF m 26 #[.val (.ref a1), .val (.int (1 : Int32)), .val (.ref a2), .val (.int (1 : Int32)), .val (.int (0 : Int32)), .unset] [(.int (0 : Int32)), (.ref a2)])) _
    refine X3.iaload hx (j := (0 : Int32)) (v := (.int x0)) (by rw [e3]; exact Aro5.1) (State.isArrayOf_alike hZ.alike Aro5.2.1) Aro5.2.2 hino5 hato5 (g := (mkF m 26 #[.val (.ref a1), .val (.int (1 : Int32)), .val (.ref a2), .val (.int (1 : Int32)), .val (.int (0 : Int32)), .unset] [(.int (0 : Int32)), (.ref a2)])) rfl rfl (hb hby d4_26) _ ?_
    show Steps p.tables e below (T3.setTop (mkF m 27 #[.val (.ref a1), .val (.int (1 : Int32)), .val (.ref a2), .val (.int (1 : Int32)), .val (.int (0 : Int32)), .unset] [(.int x0)])) _
    refine XS.istore X3.here hx rfl (hb hby d4_27) rfl (l' := #[.val (.ref a1), .val (.int (1 : Int32)), .val (.ref a2), .val (.int (1 : Int32)), .val (.int (0 : Int32)), .val (.int x0)]) rfl ?_
    show Steps p.tables e below (T3.setTop (mkF m 29 #[.val (.ref a1), .val (.int (1 : Int32)), .val (.ref a2), .val (.int (1 : Int32)), .val (.int (0 : Int32)), .val (.int x0)] [])) _
    refine XS.iloadN X3.here hx rfl (hb hby d4_29) rfl ?_
    show Steps p.tables e below (T3.setTop (mkF m 30 #[.val (.ref a1), .val (.int (1 : Int32)), .val (.ref a2), .val (.int (1 : Int32)), .val (.int (0 : Int32)), .val (.int x0)] [(.int (1 : Int32))])) _
    refine XS.iload X3.here hx rfl (hb hby d4_30) rfl ?_
    show Steps p.tables e below (T3.setTop (mkF m 32 #[.val (.ref a1), .val (.int (1 : Int32)), .val (.ref a2), .val (.int (1 : Int32)), .val (.int (0 : Int32)), .val (.int x0)] [(.int x0), (.int (1 : Int32))])) _
    refine XS.iadd X3.here hx rfl (hb hby d4_32) rfl ?_
    show Steps p.tables e below (T3.setTop (mkF m 33 #[.val (.ref a1), .val (.int (1 : Int32)), .val (.ref a2), .val (.int (1 : Int32)), .val (.int (0 : Int32)), .val (.int x0)] [(.int ((1 : Int32) + x0))])) _
    refine X3.ldcInt hx hown (mvT hZ (hw _ (List.mem_of_getElem? (i := 23) rfl))) (g := (mkF m 33 #[.val (.ref a1), .val (.int (1 : Int32)), .val (.ref a2), .val (.int (1 : Int32)), .val (.int (0 : Int32)), .val (.int x0)] [(.int ((1 : Int32) + x0))])) rfl (hb hby d4_33) _ ?_
    show Steps p.tables e below (T3.setTop (mkF m 35 #[.val (.ref a1), .val (.int (1 : Int32)), .val (.ref a2), .val (.int (1 : Int32)), .val (.int (0 : Int32)), .val (.int x0)] [(.int (-1640531527 : Int32)), (.int ((1 : Int32) + x0))])) _
    refine XS.imul X3.here hx rfl (hb hby d4_35) rfl ?_
    show Steps p.tables e below (T3.setTop (mkF m 36 #[.val (.ref a1), .val (.int (1 : Int32)), .val (.ref a2), .val (.int (1 : Int32)), .val (.int (0 : Int32)), .val (.int x0)] [(.int (((1 : Int32) + x0) * (-1640531527 : Int32)))])) _
    refine XS.istoreN X3.here hx rfl (hb hby d4_36) rfl (l' := #[.val (.ref a1), .val (.int (((1 : Int32) + x0) * (-1640531527 : Int32))), .val (.ref a2), .val (.int (1 : Int32)), .val (.int (0 : Int32)), .val (.int x0)]) rfl ?_
    show Steps p.tables e below (T3.setTop (mkF m 37 #[.val (.ref a1), .val (.int (((1 : Int32) + x0) * (-1640531527 : Int32))), .val (.ref a2), .val (.int (1 : Int32)), .val (.int (0 : Int32)), .val (.int x0)] [])) _
    refine XS.iloadN X3.here hx rfl (hb hby d4_37) rfl ?_
    show Steps p.tables e below (T3.setTop (mkF m 38 #[.val (.ref a1), .val (.int (((1 : Int32) + x0) * (-1640531527 : Int32))), .val (.ref a2), .val (.int (1 : Int32)), .val (.int (0 : Int32)), .val (.int x0)] [(.int (((1 : Int32) + x0) * (-1640531527 : Int32)))])) _
    refine XS.iloadN X3.here hx rfl (hb hby d4_38) rfl ?_
    show Steps p.tables e below (T3.setTop (mkF m 39 #[.val (.ref a1), .val (.int (((1 : Int32) + x0) * (-1640531527 : Int32))), .val (.ref a2), .val (.int (1 : Int32)), .val (.int (0 : Int32)), .val (.int x0)] [(.int (((1 : Int32) + x0) * (-1640531527 : Int32))), (.int (((1 : Int32) + x0) * (-1640531527 : Int32)))])) _
    refine XS.bipush X3.here hx rfl (hb hby d4_39) ?_
    show Steps p.tables e below (T3.setTop (mkF m 41 #[.val (.ref a1), .val (.int (((1 : Int32) + x0) * (-1640531527 : Int32))), .val (.ref a2), .val (.int (1 : Int32)), .val (.int (0 : Int32)), .val (.int x0)] [(.int (16 : Int32)), (.int (((1 : Int32) + x0) * (-1640531527 : Int32))), (.int (((1 : Int32) + x0) * (-1640531527 : Int32)))])) _
    refine XS.iushr X3.here hx rfl (hb hby d4_41) rfl ?_
    show Steps p.tables e below (T3.setTop (mkF m 42 #[.val (.ref a1), .val (.int (((1 : Int32) + x0) * (-1640531527 : Int32))), .val (.ref a2), .val (.int (1 : Int32)), .val (.int (0 : Int32)), .val (.int x0)] [(.int (((((1 : Int32) + x0) * (-1640531527 : Int32)).toUInt32 >>> ((16 : Int32) &&& 31).toUInt32).toInt32)), (.int (((1 : Int32) + x0) * (-1640531527 : Int32)))])) _
    refine XS.ixor X3.here hx rfl (hb hby d4_42) rfl ?_
    show Steps p.tables e below (T3.setTop (mkF m 43 #[.val (.ref a1), .val (.int (((1 : Int32) + x0) * (-1640531527 : Int32))), .val (.ref a2), .val (.int (1 : Int32)), .val (.int (0 : Int32)), .val (.int x0)] [(.int ((((1 : Int32) + x0) * (-1640531527 : Int32)) ^^^ (((((1 : Int32) + x0) * (-1640531527 : Int32)).toUInt32 >>> ((16 : Int32) &&& 31).toUInt32).toInt32)))])) _
    refine XS.istoreN X3.here hx rfl (hb hby d4_43) rfl (l' := #[.val (.ref a1), .val (.int ((((1 : Int32) + x0) * (-1640531527 : Int32)) ^^^ (((((1 : Int32) + x0) * (-1640531527 : Int32)).toUInt32 >>> ((16 : Int32) &&& 31).toUInt32).toInt32))), .val (.ref a2), .val (.int (1 : Int32)), .val (.int (0 : Int32)), .val (.int x0)]) rfl ?_
    show Steps p.tables e below (T3.setTop (mkF m 44 #[.val (.ref a1), .val (.int ((((1 : Int32) + x0) * (-1640531527 : Int32)) ^^^ (((((1 : Int32) + x0) * (-1640531527 : Int32)).toUInt32 >>> ((16 : Int32) &&& 31).toUInt32).toInt32))), .val (.ref a2), .val (.int (1 : Int32)), .val (.int (0 : Int32)), .val (.int x0)] [])) _
    refine XS.iinc X3.here hx rfl (hb hby d4_44) rfl (l' := #[.val (.ref a1), .val (.int ((((1 : Int32) + x0) * (-1640531527 : Int32)) ^^^ (((((1 : Int32) + x0) * (-1640531527 : Int32)).toUInt32 >>> ((16 : Int32) &&& 31).toUInt32).toInt32))), .val (.ref a2), .val (.int (1 : Int32)), .val (.int (1 : Int32)), .val (.int x0)]) rfl ?_
    show Steps p.tables e below (T3.setTop (mkF m 47 #[.val (.ref a1), .val (.int ((((1 : Int32) + x0) * (-1640531527 : Int32)) ^^^ (((((1 : Int32) + x0) * (-1640531527 : Int32)).toUInt32 >>> ((16 : Int32) &&& 31).toUInt32).toInt32))), .val (.ref a2), .val (.int (1 : Int32)), .val (.int (1 : Int32)), .val (.int x0)] [])) _
    refine XS.goto X3.here hx rfl (pc0 := 47) (pc' := 17) rfl (hb hby d4_47) (by decide) (by decide) ?_
    show Steps p.tables e below (T3.setTop (mkF m 17 #[.val (.ref a1), .val (.int ((((1 : Int32) + x0) * (-1640531527 : Int32)) ^^^ (((((1 : Int32) + x0) * (-1640531527 : Int32)).toUInt32 >>> ((16 : Int32) &&& 31).toUInt32).toInt32))), .val (.ref a2), .val (.int (1 : Int32)), .val (.int (1 : Int32)), .val (.int x0)] [])) _
    refine XS.iload X3.here hx rfl (hb hby d4_17) rfl ?_
    show Steps p.tables e below (T3.setTop (mkF m 19 #[.val (.ref a1), .val (.int ((((1 : Int32) + x0) * (-1640531527 : Int32)) ^^^ (((((1 : Int32) + x0) * (-1640531527 : Int32)).toUInt32 >>> ((16 : Int32) &&& 31).toUInt32).toInt32))), .val (.ref a2), .val (.int (1 : Int32)), .val (.int (1 : Int32)), .val (.int x0)] [(.int (1 : Int32))])) _
    refine XS.iloadN X3.here hx rfl (hb hby d4_19) rfl ?_
    show Steps p.tables e below (T3.setTop (mkF m 20 #[.val (.ref a1), .val (.int ((((1 : Int32) + x0) * (-1640531527 : Int32)) ^^^ (((((1 : Int32) + x0) * (-1640531527 : Int32)).toUInt32 >>> ((16 : Int32) &&& 31).toUInt32).toInt32))), .val (.ref a2), .val (.int (1 : Int32)), .val (.int (1 : Int32)), .val (.int x0)] [(.int (1 : Int32)), (.int (1 : Int32))])) _
    refine XS.icmpYes X3.here hx rfl (pc0 := 20) (pc' := 50) rfl (hb hby d4_20) rfl (flt (by decide : ¬ ((1 : Int32) < (1 : Int32)))).2.1 (by decide) (by decide) ?_
    show Steps p.tables e below (T3.setTop (mkF m 50 #[.val (.ref a1), .val (.int ((((1 : Int32) + x0) * (-1640531527 : Int32)) ^^^ (((((1 : Int32) + x0) * (-1640531527 : Int32)).toUInt32 >>> ((16 : Int32) &&& 31).toUInt32).toInt32))), .val (.ref a2), .val (.int (1 : Int32)), .val (.int (1 : Int32)), .val (.int x0)] [])) _
    refine XS.iloadN X3.here hx rfl (hb hby d4_50) rfl ?_
    show Steps p.tables e below (T3.setTop (mkF m 51 #[.val (.ref a1), .val (.int ((((1 : Int32) + x0) * (-1640531527 : Int32)) ^^^ (((((1 : Int32) + x0) * (-1640531527 : Int32)).toUInt32 >>> ((16 : Int32) &&& 31).toUInt32).toInt32))), .val (.ref a2), .val (.int (1 : Int32)), .val (.int (1 : Int32)), .val (.int x0)] [(.int ((((1 : Int32) + x0) * (-1640531527 : Int32)) ^^^ (((((1 : Int32) + x0) * (-1640531527 : Int32)).toUInt32 >>> ((16 : Int32) &&& 31).toUInt32).toInt32)))])) _
    exact retI X3 hx Bd.returns (hb hby d4_51) hr
  ·
    show Qhc1 Z a1 a2 ka x0 h0 n0 _ T3.heap _
    rw [e3]
    exact ⟨rfl, N0, rfl⟩
theorem ef_hc2 (m : MethodId) (a1 : Addr) : entryFrame m #[(.ref a1)] 6 = (mkF m 0 #[.val (.ref a1), .unset, .unset, .unset, .unset, .unset] []) := by first | (simp [entryFrame, mkF, argsToLocals, Value.category]; done) | rfl
def Qhc2 (Z : State) (a1 : Addr) (a2 : Addr) (ka : ClassId) (x0 : Int32) (x1 : Int32) (h0 : Heap) (n0 : Nat) (v : Option Value) (h : Heap) (L : List Loc) : Prop := v = some (.int (own_h2 x0 x1)) ∧ Fr n0 L ∧ h = h0
set_option maxRecDepth 65536 in
set_option maxHeartbeats 40000000 in
theorem hc2 (l : Launch) (Z : State) (a0 : Array Value) (hw : ∀ d ∈ tables_1, d.before a0 Z = true) (ws : List Jvm.Cond) (a1 : Addr) (a2 : Addr) (ka : ClassId) (x0 : Int32) (x1 : Int32) (h0 : Heap) (n0 : Nat) (Z0 : n0 ≤ h0.size) (F_a1 : Fld Z h0 a1 "com/example/hedge/hedge/analysis/IntArrayKey" "values" "[I" (.ref a2)) (V_a2 : Arv Z h0 a2 ka .int 2 [(.int x0), (.int x1)] (.int (0 : Int32))) :
    MetFree l (⟨"com/example/hedge/hedge/analysis/IntArrayKey", "hashCode", "()I"⟩ : MethodName) (head1 (Jvm.Cond.code (⟨"com/example/hedge/hedge/analysis/IntArrayKey", "hashCode", "()I"⟩ : MethodName) prog_49_method_3_code 6 (some .int) :: ws) ({ frames := 0, cells := 0, slots := 0, locals := 0 } : Room)) (fun a U => a = #[(.ref a1)] ∧ Z.Warmed39 U.vm ∧ U.heap = h0) (fun _ _ _ _ _ => True) (fun _ U o U' => ∃ v L, o = .returned v ∧ Qhc2 Z a1 a2 ka x0 x1 h0 n0 v U'.heap L ∧ FrameEnd U o U' L ({ frames := 0, cells := 0, slots := 0, locals := 0 } : Room).cells ({ frames := 0, cells := 0, slots := 0, locals := 0 } : Room).slots) := by
  refine MetFree.of_bodySF (plainFor_of_name pn_4) hisR ?_
  intro p e s m args below meth c s₁ Bd hml0 hP hK
  obtain ⟨rfl, hZ, hh⟩ := hP
  have hx := Bd.exec
  have hby := Bd.bytes
  have hml : c.maxLocals = 6 := hml0
  have hown : s.vm.findClass "com/example/hedge/hedge/analysis/IntArrayKey" = some m.cls := findClass_of_methodNamed Bd.named
  have hnm := (name_of_methodNamed Bd.named Bd.method).1
  have X0 : Stand p l e ({ frames := 0, cells := 0, slots := 0, locals := 0 } : Room) s m #[(.ref a1)] below meth c s₁ [] 0 0 := Stand.of_body Bd
  have e0 : s₁.heap = h0 := by rw [← hh, Bd.state]; rfl
  have N0 := Fr.nil n0
  have K0 := Keep.refl h0 ([] : List Addr)
  have pre0 : ∀ t, Steps p.tables e below (s₁.setTop (mkF m 0 #[.val (.ref a1), .unset, .unset, .unset, .unset, .unset] [])) t → Steps p.tables e below (s₁.setTop (entryFrame m #[(.ref a1)] 6)) t := fun t k => castTop (ef_hc2 m a1) k
  obtain ⟨T1, X1, e1, st1⟩ := getF X0 hx hZ hown (host := "") (Or.inl (hw _ (List.mem_of_getElem? (i := 15) rfl))) Via.refl e0 F_a1 (g := (mkF m 1 #[.val (.ref a1), .unset, .unset, .unset, .unset, .unset] [(.ref a1)])) rfl rfl (hb hby d4_1)
  obtain ⟨clo2, Aro2, -, So2, No2, -, -⟩ := id V_a2
  obtain ⟨T3, X3, e3, st3⟩ := getF X1 hx hZ hown (host := "") (Or.inl (hw _ (List.mem_of_getElem? (i := 15) rfl))) Via.refl e1 F_a1 (g := (mkF m 7 #[.val (.ref a1), .val (.int (2 : Int32)), .unset, .unset, .unset, .unset] [(.ref a1)])) rfl rfl (hb hby d4_7)
  obtain ⟨clo4, Aro4, -, So4, No4, -, -⟩ := id V_a2
  obtain ⟨clo5, Aro5, -, So5, No5, Ho5, -⟩ := id V_a2
  have hino5 : ¬ ((0 : Int32) < 0 ∨ clo5.slots.size ≤ ((0 : Int32)).toNatClampNeg) := inb_of So5 ⟨by decide, by decide⟩
  have hato5 : clo5.slots[((0 : Int32)).toNatClampNeg]? = some (.int x0) := Ho5.at hino5 rfl
  obtain ⟨clo6, Aro6, -, So6, No6, Ho6, -⟩ := id V_a2
  have hino6 : ¬ ((1 : Int32) < 0 ∨ clo6.slots.size ≤ ((1 : Int32)).toNatClampNeg) := inb_of So6 ⟨by decide, by decide⟩
  have hato6 : clo6.slots[((1 : Int32)).toNatClampNeg]? = some (.int x1) := Ho6.at hino6 rfl
  obtain ⟨fs, hr, hrun, hended, hW, hsame⟩ := X3.leave (v := some (.int (own_h2 x0 x1))) (fun h => by rw [Bd.returns] at h; cases h)
  refine ⟨_, _, pre0 _ ?_, hrun, hended, _, _, rfl, ?_, ⟨_, rfl⟩, hW, hsame.mono (by decide) (by decide)⟩
  ·
    show Steps p.tables e below (s₁.setTop (mkF m 0 #[.val (.ref a1), .unset, .unset, .unset, .unset, .unset] [])) _
    refine XS.aloadN X0.here hx rfl (hb hby d4_0) rfl rfl ?_
    show Steps p.tables e below (s₁.setTop (mkF m 1 #[.val (.ref a1), .unset, .unset, .unset, .unset, .unset] [(.ref a1)])) _
    refine st1 _ ?_
    show Steps p.tables e below (T1.setTop (mkF m 4 #[.val (.ref a1), .unset, .unset, .unset, .unset, .unset] [(.ref a2)])) _
    refine X1.arraylength hx (by rw [e1]; exact Aro2.1) (State.isArrayOf_alike hZ.alike Aro2.2.1) (g := (mkF m 4 #[.val (.ref a1), .unset, .unset, .unset, .unset, .unset] [(.ref a2)])) rfl rfl (hb hby d4_4) _ ?_
    rw [len_of So2 No2]
    show Steps p.tables e below (T1.setTop (mkF m 5 #[.val (.ref a1), .unset, .unset, .unset, .unset, .unset] [(.int (2 : Int32))])) _
    refine XS.istoreN X1.here hx rfl (hb hby d4_5) rfl (l' := #[.val (.ref a1), .val (.int (2 : Int32)), .unset, .unset, .unset, .unset]) rfl ?_
    show Steps p.tables e below (T1.setTop (mkF m 6 #[.val (.ref a1), .val (.int (2 : Int32)), .unset, .unset, .unset, .unset] [])) _
    refine XS.aloadN X1.here hx rfl (hb hby d4_6) rfl rfl ?_
    show Steps p.tables e below (T1.setTop (mkF m 7 #[.val (.ref a1), .val (.int (2 : Int32)), .unset, .unset, .unset, .unset] [(.ref a1)])) _
    refine st3 _ ?_
    show Steps p.tables e below (T3.setTop (mkF m 10 #[.val (.ref a1), .val (.int (2 : Int32)), .unset, .unset, .unset, .unset] [(.ref a2)])) _
    refine XS.astoreN X3.here hx rfl (hb hby d4_10) rfl rfl (l' := #[.val (.ref a1), .val (.int (2 : Int32)), .val (.ref a2), .unset, .unset, .unset]) rfl ?_
    show Steps p.tables e below (T3.setTop (mkF m 11 #[.val (.ref a1), .val (.int (2 : Int32)), .val (.ref a2), .unset, .unset, .unset] [])) _
    refine XS.aloadN X3.here hx rfl (hb hby d4_11) rfl rfl ?_
    show Steps p.tables e below (T3.setTop (mkF m 12 #[.val (.ref a1), .val (.int (2 : Int32)), .val (.ref a2), .unset, .unset, .unset] [(.ref a2)])) _
    refine X3.arraylength hx (by rw [e3]; exact Aro4.1) (State.isArrayOf_alike hZ.alike Aro4.2.1) (g := (mkF m 12 #[.val (.ref a1), .val (.int (2 : Int32)), .val (.ref a2), .unset, .unset, .unset] [(.ref a2)])) rfl rfl (hb hby d4_12) _ ?_
    rw [len_of So4 No4]
    show Steps p.tables e below (T3.setTop (mkF m 13 #[.val (.ref a1), .val (.int (2 : Int32)), .val (.ref a2), .unset, .unset, .unset] [(.int (2 : Int32))])) _
    refine XS.istoreN X3.here hx rfl (hb hby d4_13) rfl (l' := #[.val (.ref a1), .val (.int (2 : Int32)), .val (.ref a2), .val (.int (2 : Int32)), .unset, .unset]) rfl ?_
    show Steps p.tables e below (T3.setTop (mkF m 14 #[.val (.ref a1), .val (.int (2 : Int32)), .val (.ref a2), .val (.int (2 : Int32)), .unset, .unset] [])) _
    refine XS.iconst X3.here hx rfl (hb hby d4_14) ?_
    show Steps p.tables e below (T3.setTop (mkF m 15 #[.val (.ref a1), .val (.int (2 : Int32)), .val (.ref a2), .val (.int (2 : Int32)), .unset, .unset] [(.int (0 : Int32))])) _
    refine XS.istore X3.here hx rfl (hb hby d4_15) rfl (l' := #[.val (.ref a1), .val (.int (2 : Int32)), .val (.ref a2), .val (.int (2 : Int32)), .val (.int (0 : Int32)), .unset]) rfl ?_
    show Steps p.tables e below (T3.setTop (mkF m 17 #[.val (.ref a1), .val (.int (2 : Int32)), .val (.ref a2), .val (.int (2 : Int32)), .val (.int (0 : Int32)), .unset] [])) _
    refine XS.iload X3.here hx rfl (hb hby d4_17) rfl ?_
    show Steps p.tables e below (T3.setTop (mkF m 19 #[.val (.ref a1), .val (.int (2 : Int32)), .val (.ref a2), .val (.int (2 : Int32)), .val (.int (0 : Int32)), .unset] [(.int (0 : Int32))])) _
    refine XS.iloadN X3.here hx rfl (hb hby d4_19) rfl ?_
    show Steps p.tables e below (T3.setTop (mkF m 20 #[.val (.ref a1), .val (.int (2 : Int32)), .val (.ref a2), .val (.int (2 : Int32)), .val (.int (0 : Int32)), .unset] [(.int (2 : Int32)), (.int (0 : Int32))])) _
    refine XS.icmpNo X3.here hx rfl (hb hby d4_20) rfl (tlt (by decide : (0 : Int32) < (2 : Int32))).2.1 ?_
    show Steps p.tables e below (T3.setTop (mkF m 23 #[.val (.ref a1), .val (.int (2 : Int32)), .val (.ref a2), .val (.int (2 : Int32)), .val (.int (0 : Int32)), .unset] [])) _
    refine XS.aloadN X3.here hx rfl (hb hby d4_23) rfl rfl ?_
    show Steps p.tables e below (T3.setTop (mkF m 24 #[.val (.ref a1), .val (.int (2 : Int32)), .val (.ref a2), .val (.int (2 : Int32)), .val (.int (0 : Int32)), .unset] [(.ref a2)])) _
    refine XS.iload X3.here hx rfl (hb hby d4_24) rfl ?_
    show Steps p.tables e below (T3.setTop (mkF m 26 #[.val (.ref a1), .val (.int (2 : Int32)), .val (.ref a2), .val (.int (2 : Int32)), .val (.int (0 : Int32)), .unset] [(.int (0 : Int32)), (.ref a2)])) _
    refine X3.iaload hx (j := (0 : Int32)) (v := (.int x0)) (by rw [e3]; exact Aro5.1) (State.isArrayOf_alike hZ.alike Aro5.2.1) Aro5.2.2 hino5 hato5 (g := (mkF m 26 #[.val (.ref a1), .val (.int (2 : Int32)), .val (.ref a2), .val (.int (2 : Int32)), .val (.int (0 : Int32)), .unset] [(.int (0 : Int32)), (.ref a2)])) rfl rfl (hb hby d4_26) _ ?_
    show Steps p.tables e below (T3.setTop (mkF m 27 #[.val (.ref a1), .val (.int (2 : Int32)), .val (.ref a2), .val (.int (2 : Int32)), .val (.int (0 : Int32)), .unset] [(.int x0)])) _
    refine XS.istore X3.here hx rfl (hb hby d4_27) rfl (l' := #[.val (.ref a1), .val (.int (2 : Int32)), .val (.ref a2), .val (.int (2 : Int32)), .val (.int (0 : Int32)), .val (.int x0)]) rfl ?_
    show Steps p.tables e below (T3.setTop (mkF m 29 #[.val (.ref a1), .val (.int (2 : Int32)), .val (.ref a2), .val (.int (2 : Int32)), .val (.int (0 : Int32)), .val (.int x0)] [])) _
    refine XS.iloadN X3.here hx rfl (hb hby d4_29) rfl ?_
    show Steps p.tables e below (T3.setTop (mkF m 30 #[.val (.ref a1), .val (.int (2 : Int32)), .val (.ref a2), .val (.int (2 : Int32)), .val (.int (0 : Int32)), .val (.int x0)] [(.int (2 : Int32))])) _
    refine XS.iload X3.here hx rfl (hb hby d4_30) rfl ?_
    show Steps p.tables e below (T3.setTop (mkF m 32 #[.val (.ref a1), .val (.int (2 : Int32)), .val (.ref a2), .val (.int (2 : Int32)), .val (.int (0 : Int32)), .val (.int x0)] [(.int x0), (.int (2 : Int32))])) _
    refine XS.iadd X3.here hx rfl (hb hby d4_32) rfl ?_
    show Steps p.tables e below (T3.setTop (mkF m 33 #[.val (.ref a1), .val (.int (2 : Int32)), .val (.ref a2), .val (.int (2 : Int32)), .val (.int (0 : Int32)), .val (.int x0)] [(.int ((2 : Int32) + x0))])) _
    refine X3.ldcInt hx hown (mvT hZ (hw _ (List.mem_of_getElem? (i := 23) rfl))) (g := (mkF m 33 #[.val (.ref a1), .val (.int (2 : Int32)), .val (.ref a2), .val (.int (2 : Int32)), .val (.int (0 : Int32)), .val (.int x0)] [(.int ((2 : Int32) + x0))])) rfl (hb hby d4_33) _ ?_
    show Steps p.tables e below (T3.setTop (mkF m 35 #[.val (.ref a1), .val (.int (2 : Int32)), .val (.ref a2), .val (.int (2 : Int32)), .val (.int (0 : Int32)), .val (.int x0)] [(.int (-1640531527 : Int32)), (.int ((2 : Int32) + x0))])) _
    refine XS.imul X3.here hx rfl (hb hby d4_35) rfl ?_
    show Steps p.tables e below (T3.setTop (mkF m 36 #[.val (.ref a1), .val (.int (2 : Int32)), .val (.ref a2), .val (.int (2 : Int32)), .val (.int (0 : Int32)), .val (.int x0)] [(.int (((2 : Int32) + x0) * (-1640531527 : Int32)))])) _
    refine XS.istoreN X3.here hx rfl (hb hby d4_36) rfl (l' := #[.val (.ref a1), .val (.int (((2 : Int32) + x0) * (-1640531527 : Int32))), .val (.ref a2), .val (.int (2 : Int32)), .val (.int (0 : Int32)), .val (.int x0)]) rfl ?_
    show Steps p.tables e below (T3.setTop (mkF m 37 #[.val (.ref a1), .val (.int (((2 : Int32) + x0) * (-1640531527 : Int32))), .val (.ref a2), .val (.int (2 : Int32)), .val (.int (0 : Int32)), .val (.int x0)] [])) _
    refine XS.iloadN X3.here hx rfl (hb hby d4_37) rfl ?_
    show Steps p.tables e below (T3.setTop (mkF m 38 #[.val (.ref a1), .val (.int (((2 : Int32) + x0) * (-1640531527 : Int32))), .val (.ref a2), .val (.int (2 : Int32)), .val (.int (0 : Int32)), .val (.int x0)] [(.int (((2 : Int32) + x0) * (-1640531527 : Int32)))])) _
    refine XS.iloadN X3.here hx rfl (hb hby d4_38) rfl ?_
    show Steps p.tables e below (T3.setTop (mkF m 39 #[.val (.ref a1), .val (.int (((2 : Int32) + x0) * (-1640531527 : Int32))), .val (.ref a2), .val (.int (2 : Int32)), .val (.int (0 : Int32)), .val (.int x0)] [(.int (((2 : Int32) + x0) * (-1640531527 : Int32))), (.int (((2 : Int32) + x0) * (-1640531527 : Int32)))])) _
    refine XS.bipush X3.here hx rfl (hb hby d4_39) ?_
    show Steps p.tables e below (T3.setTop (mkF m 41 #[.val (.ref a1), .val (.int (((2 : Int32) + x0) * (-1640531527 : Int32))), .val (.ref a2), .val (.int (2 : Int32)), .val (.int (0 : Int32)), .val (.int x0)] [(.int (16 : Int32)), (.int (((2 : Int32) + x0) * (-1640531527 : Int32))), (.int (((2 : Int32) + x0) * (-1640531527 : Int32)))])) _
    refine XS.iushr X3.here hx rfl (hb hby d4_41) rfl ?_
    show Steps p.tables e below (T3.setTop (mkF m 42 #[.val (.ref a1), .val (.int (((2 : Int32) + x0) * (-1640531527 : Int32))), .val (.ref a2), .val (.int (2 : Int32)), .val (.int (0 : Int32)), .val (.int x0)] [(.int (((((2 : Int32) + x0) * (-1640531527 : Int32)).toUInt32 >>> ((16 : Int32) &&& 31).toUInt32).toInt32)), (.int (((2 : Int32) + x0) * (-1640531527 : Int32)))])) _
    refine XS.ixor X3.here hx rfl (hb hby d4_42) rfl ?_
    show Steps p.tables e below (T3.setTop (mkF m 43 #[.val (.ref a1), .val (.int (((2 : Int32) + x0) * (-1640531527 : Int32))), .val (.ref a2), .val (.int (2 : Int32)), .val (.int (0 : Int32)), .val (.int x0)] [(.int ((((2 : Int32) + x0) * (-1640531527 : Int32)) ^^^ (((((2 : Int32) + x0) * (-1640531527 : Int32)).toUInt32 >>> ((16 : Int32) &&& 31).toUInt32).toInt32)))])) _
    refine XS.istoreN X3.here hx rfl (hb hby d4_43) rfl (l' := #[.val (.ref a1), .val (.int ((((2 : Int32) + x0) * (-1640531527 : Int32)) ^^^ (((((2 : Int32) + x0) * (-1640531527 : Int32)).toUInt32 >>> ((16 : Int32) &&& 31).toUInt32).toInt32))), .val (.ref a2), .val (.int (2 : Int32)), .val (.int (0 : Int32)), .val (.int x0)]) rfl ?_
    show Steps p.tables e below (T3.setTop (mkF m 44 #[.val (.ref a1), .val (.int ((((2 : Int32) + x0) * (-1640531527 : Int32)) ^^^ (((((2 : Int32) + x0) * (-1640531527 : Int32)).toUInt32 >>> ((16 : Int32) &&& 31).toUInt32).toInt32))), .val (.ref a2), .val (.int (2 : Int32)), .val (.int (0 : Int32)), .val (.int x0)] [])) _
    refine XS.iinc X3.here hx rfl (hb hby d4_44) rfl (l' := #[.val (.ref a1), .val (.int ((((2 : Int32) + x0) * (-1640531527 : Int32)) ^^^ (((((2 : Int32) + x0) * (-1640531527 : Int32)).toUInt32 >>> ((16 : Int32) &&& 31).toUInt32).toInt32))), .val (.ref a2), .val (.int (2 : Int32)), .val (.int (1 : Int32)), .val (.int x0)]) rfl ?_
    show Steps p.tables e below (T3.setTop (mkF m 47 #[.val (.ref a1), .val (.int ((((2 : Int32) + x0) * (-1640531527 : Int32)) ^^^ (((((2 : Int32) + x0) * (-1640531527 : Int32)).toUInt32 >>> ((16 : Int32) &&& 31).toUInt32).toInt32))), .val (.ref a2), .val (.int (2 : Int32)), .val (.int (1 : Int32)), .val (.int x0)] [])) _
    refine XS.goto X3.here hx rfl (pc0 := 47) (pc' := 17) rfl (hb hby d4_47) (by decide) (by decide) ?_
    show Steps p.tables e below (T3.setTop (mkF m 17 #[.val (.ref a1), .val (.int ((((2 : Int32) + x0) * (-1640531527 : Int32)) ^^^ (((((2 : Int32) + x0) * (-1640531527 : Int32)).toUInt32 >>> ((16 : Int32) &&& 31).toUInt32).toInt32))), .val (.ref a2), .val (.int (2 : Int32)), .val (.int (1 : Int32)), .val (.int x0)] [])) _
    refine XS.iload X3.here hx rfl (hb hby d4_17) rfl ?_
    show Steps p.tables e below (T3.setTop (mkF m 19 #[.val (.ref a1), .val (.int ((((2 : Int32) + x0) * (-1640531527 : Int32)) ^^^ (((((2 : Int32) + x0) * (-1640531527 : Int32)).toUInt32 >>> ((16 : Int32) &&& 31).toUInt32).toInt32))), .val (.ref a2), .val (.int (2 : Int32)), .val (.int (1 : Int32)), .val (.int x0)] [(.int (1 : Int32))])) _
    refine XS.iloadN X3.here hx rfl (hb hby d4_19) rfl ?_
    show Steps p.tables e below (T3.setTop (mkF m 20 #[.val (.ref a1), .val (.int ((((2 : Int32) + x0) * (-1640531527 : Int32)) ^^^ (((((2 : Int32) + x0) * (-1640531527 : Int32)).toUInt32 >>> ((16 : Int32) &&& 31).toUInt32).toInt32))), .val (.ref a2), .val (.int (2 : Int32)), .val (.int (1 : Int32)), .val (.int x0)] [(.int (2 : Int32)), (.int (1 : Int32))])) _
    refine XS.icmpNo X3.here hx rfl (hb hby d4_20) rfl (tlt (by decide : (1 : Int32) < (2 : Int32))).2.1 ?_
    show Steps p.tables e below (T3.setTop (mkF m 23 #[.val (.ref a1), .val (.int ((((2 : Int32) + x0) * (-1640531527 : Int32)) ^^^ (((((2 : Int32) + x0) * (-1640531527 : Int32)).toUInt32 >>> ((16 : Int32) &&& 31).toUInt32).toInt32))), .val (.ref a2), .val (.int (2 : Int32)), .val (.int (1 : Int32)), .val (.int x0)] [])) _
    refine XS.aloadN X3.here hx rfl (hb hby d4_23) rfl rfl ?_
    show Steps p.tables e below (T3.setTop (mkF m 24 #[.val (.ref a1), .val (.int ((((2 : Int32) + x0) * (-1640531527 : Int32)) ^^^ (((((2 : Int32) + x0) * (-1640531527 : Int32)).toUInt32 >>> ((16 : Int32) &&& 31).toUInt32).toInt32))), .val (.ref a2), .val (.int (2 : Int32)), .val (.int (1 : Int32)), .val (.int x0)] [(.ref a2)])) _
    refine XS.iload X3.here hx rfl (hb hby d4_24) rfl ?_
    show Steps p.tables e below (T3.setTop (mkF m 26 #[.val (.ref a1), .val (.int ((((2 : Int32) + x0) * (-1640531527 : Int32)) ^^^ (((((2 : Int32) + x0) * (-1640531527 : Int32)).toUInt32 >>> ((16 : Int32) &&& 31).toUInt32).toInt32))), .val (.ref a2), .val (.int (2 : Int32)), .val (.int (1 : Int32)), .val (.int x0)] [(.int (1 : Int32)), (.ref a2)])) _
    refine X3.iaload hx (j := (1 : Int32)) (v := (.int x1)) (by rw [e3]; exact Aro6.1) (State.isArrayOf_alike hZ.alike Aro6.2.1) Aro6.2.2 hino6 hato6 (g := (mkF m 26 #[.val (.ref a1), .val (.int ((((2 : Int32) + x0) * (-1640531527 : Int32)) ^^^ (((((2 : Int32) + x0) * (-1640531527 : Int32)).toUInt32 >>> ((16 : Int32) &&& 31).toUInt32).toInt32))), .val (.ref a2), .val (.int (2 : Int32)), .val (.int (1 : Int32)), .val (.int x0)] [(.int (1 : Int32)), (.ref a2)])) rfl rfl (hb hby d4_26) _ ?_
    show Steps p.tables e below (T3.setTop (mkF m 27 #[.val (.ref a1), .val (.int ((((2 : Int32) + x0) * (-1640531527 : Int32)) ^^^ (((((2 : Int32) + x0) * (-1640531527 : Int32)).toUInt32 >>> ((16 : Int32) &&& 31).toUInt32).toInt32))), .val (.ref a2), .val (.int (2 : Int32)), .val (.int (1 : Int32)), .val (.int x0)] [(.int x1)])) _
    refine XS.istore X3.here hx rfl (hb hby d4_27) rfl (l' := #[.val (.ref a1), .val (.int ((((2 : Int32) + x0) * (-1640531527 : Int32)) ^^^ (((((2 : Int32) + x0) * (-1640531527 : Int32)).toUInt32 >>> ((16 : Int32) &&& 31).toUInt32).toInt32))), .val (.ref a2), .val (.int (2 : Int32)), .val (.int (1 : Int32)), .val (.int x1)]) rfl ?_
    show Steps p.tables e below (T3.setTop (mkF m 29 #[.val (.ref a1), .val (.int ((((2 : Int32) + x0) * (-1640531527 : Int32)) ^^^ (((((2 : Int32) + x0) * (-1640531527 : Int32)).toUInt32 >>> ((16 : Int32) &&& 31).toUInt32).toInt32))), .val (.ref a2), .val (.int (2 : Int32)), .val (.int (1 : Int32)), .val (.int x1)] [])) _
    refine XS.iloadN X3.here hx rfl (hb hby d4_29) rfl ?_
    show Steps p.tables e below (T3.setTop (mkF m 30 #[.val (.ref a1), .val (.int ((((2 : Int32) + x0) * (-1640531527 : Int32)) ^^^ (((((2 : Int32) + x0) * (-1640531527 : Int32)).toUInt32 >>> ((16 : Int32) &&& 31).toUInt32).toInt32))), .val (.ref a2), .val (.int (2 : Int32)), .val (.int (1 : Int32)), .val (.int x1)] [(.int ((((2 : Int32) + x0) * (-1640531527 : Int32)) ^^^ (((((2 : Int32) + x0) * (-1640531527 : Int32)).toUInt32 >>> ((16 : Int32) &&& 31).toUInt32).toInt32)))])) _
    refine XS.iload X3.here hx rfl (hb hby d4_30) rfl ?_
    show Steps p.tables e below (T3.setTop (mkF m 32 #[.val (.ref a1), .val (.int ((((2 : Int32) + x0) * (-1640531527 : Int32)) ^^^ (((((2 : Int32) + x0) * (-1640531527 : Int32)).toUInt32 >>> ((16 : Int32) &&& 31).toUInt32).toInt32))), .val (.ref a2), .val (.int (2 : Int32)), .val (.int (1 : Int32)), .val (.int x1)] [(.int x1), (.int ((((2 : Int32) + x0) * (-1640531527 : Int32)) ^^^ (((((2 : Int32) + x0) * (-1640531527 : Int32)).toUInt32 >>> ((16 : Int32) &&& 31).toUInt32).toInt32)))])) _
    refine XS.iadd X3.here hx rfl (hb hby d4_32) rfl ?_
    show Steps p.tables e below (T3.setTop (mkF m 33 #[.val (.ref a1), .val (.int ((((2 : Int32) + x0) * (-1640531527 : Int32)) ^^^ (((((2 : Int32) + x0) * (-1640531527 : Int32)).toUInt32 >>> ((16 : Int32) &&& 31).toUInt32).toInt32))), .val (.ref a2), .val (.int (2 : Int32)), .val (.int (1 : Int32)), .val (.int x1)] [(.int (((((2 : Int32) + x0) * (-1640531527 : Int32)) ^^^ (((((2 : Int32) + x0) * (-1640531527 : Int32)).toUInt32 >>> ((16 : Int32) &&& 31).toUInt32).toInt32)) + x1))])) _
    refine X3.ldcInt hx hown (mvT hZ (hw _ (List.mem_of_getElem? (i := 23) rfl))) (g := (mkF m 33 #[.val (.ref a1), .val (.int ((((2 : Int32) + x0) * (-1640531527 : Int32)) ^^^ (((((2 : Int32) + x0) * (-1640531527 : Int32)).toUInt32 >>> ((16 : Int32) &&& 31).toUInt32).toInt32))), .val (.ref a2), .val (.int (2 : Int32)), .val (.int (1 : Int32)), .val (.int x1)] [(.int (((((2 : Int32) + x0) * (-1640531527 : Int32)) ^^^ (((((2 : Int32) + x0) * (-1640531527 : Int32)).toUInt32 >>> ((16 : Int32) &&& 31).toUInt32).toInt32)) + x1))])) rfl (hb hby d4_33) _ ?_
    show Steps p.tables e below (T3.setTop (mkF m 35 #[.val (.ref a1), .val (.int ((((2 : Int32) + x0) * (-1640531527 : Int32)) ^^^ (((((2 : Int32) + x0) * (-1640531527 : Int32)).toUInt32 >>> ((16 : Int32) &&& 31).toUInt32).toInt32))), .val (.ref a2), .val (.int (2 : Int32)), .val (.int (1 : Int32)), .val (.int x1)] [(.int (-1640531527 : Int32)), (.int (((((2 : Int32) + x0) * (-1640531527 : Int32)) ^^^ (((((2 : Int32) + x0) * (-1640531527 : Int32)).toUInt32 >>> ((16 : Int32) &&& 31).toUInt32).toInt32)) + x1))])) _
    refine XS.imul X3.here hx rfl (hb hby d4_35) rfl ?_
    show Steps p.tables e below (T3.setTop (mkF m 36 #[.val (.ref a1), .val (.int ((((2 : Int32) + x0) * (-1640531527 : Int32)) ^^^ (((((2 : Int32) + x0) * (-1640531527 : Int32)).toUInt32 >>> ((16 : Int32) &&& 31).toUInt32).toInt32))), .val (.ref a2), .val (.int (2 : Int32)), .val (.int (1 : Int32)), .val (.int x1)] [(.int ((((((2 : Int32) + x0) * (-1640531527 : Int32)) ^^^ (((((2 : Int32) + x0) * (-1640531527 : Int32)).toUInt32 >>> ((16 : Int32) &&& 31).toUInt32).toInt32)) + x1) * (-1640531527 : Int32)))])) _
    refine XS.istoreN X3.here hx rfl (hb hby d4_36) rfl (l' := #[.val (.ref a1), .val (.int ((((((2 : Int32) + x0) * (-1640531527 : Int32)) ^^^ (((((2 : Int32) + x0) * (-1640531527 : Int32)).toUInt32 >>> ((16 : Int32) &&& 31).toUInt32).toInt32)) + x1) * (-1640531527 : Int32))), .val (.ref a2), .val (.int (2 : Int32)), .val (.int (1 : Int32)), .val (.int x1)]) rfl ?_
    show Steps p.tables e below (T3.setTop (mkF m 37 #[.val (.ref a1), .val (.int ((((((2 : Int32) + x0) * (-1640531527 : Int32)) ^^^ (((((2 : Int32) + x0) * (-1640531527 : Int32)).toUInt32 >>> ((16 : Int32) &&& 31).toUInt32).toInt32)) + x1) * (-1640531527 : Int32))), .val (.ref a2), .val (.int (2 : Int32)), .val (.int (1 : Int32)), .val (.int x1)] [])) _
    refine XS.iloadN X3.here hx rfl (hb hby d4_37) rfl ?_
    show Steps p.tables e below (T3.setTop (mkF m 38 #[.val (.ref a1), .val (.int ((((((2 : Int32) + x0) * (-1640531527 : Int32)) ^^^ (((((2 : Int32) + x0) * (-1640531527 : Int32)).toUInt32 >>> ((16 : Int32) &&& 31).toUInt32).toInt32)) + x1) * (-1640531527 : Int32))), .val (.ref a2), .val (.int (2 : Int32)), .val (.int (1 : Int32)), .val (.int x1)] [(.int ((((((2 : Int32) + x0) * (-1640531527 : Int32)) ^^^ (((((2 : Int32) + x0) * (-1640531527 : Int32)).toUInt32 >>> ((16 : Int32) &&& 31).toUInt32).toInt32)) + x1) * (-1640531527 : Int32)))])) _
    refine XS.iloadN X3.here hx rfl (hb hby d4_38) rfl ?_
    show Steps p.tables e below (T3.setTop (mkF m 39 #[.val (.ref a1), .val (.int ((((((2 : Int32) + x0) * (-1640531527 : Int32)) ^^^ (((((2 : Int32) + x0) * (-1640531527 : Int32)).toUInt32 >>> ((16 : Int32) &&& 31).toUInt32).toInt32)) + x1) * (-1640531527 : Int32))), .val (.ref a2), .val (.int (2 : Int32)), .val (.int (1 : Int32)), .val (.int x1)] [(.int ((((((2 : Int32) + x0) * (-1640531527 : Int32)) ^^^ (((((2 : Int32) + x0) * (-1640531527 : Int32)).toUInt32 >>> ((16 : Int32) &&& 31).toUInt32).toInt32)) + x1) * (-1640531527 : Int32))), (.int ((((((2 : Int32) + x0) * (-1640531527 : Int32)) ^^^ (((((2 : Int32) + x0) * (-1640531527 : Int32)).toUInt32 >>> ((16 : Int32) &&& 31).toUInt32).toInt32)) + x1) * (-1640531527 : Int32)))])) _
    refine XS.bipush X3.here hx rfl (hb hby d4_39) ?_
    show Steps p.tables e below (T3.setTop (mkF m 41 #[.val (.ref a1), .val (.int ((((((2 : Int32) + x0) * (-1640531527 : Int32)) ^^^ (((((2 : Int32) + x0) * (-1640531527 : Int32)).toUInt32 >>> ((16 : Int32) &&& 31).toUInt32).toInt32)) + x1) * (-1640531527 : Int32))), .val (.ref a2), .val (.int (2 : Int32)), .val (.int (1 : Int32)), .val (.int x1)] [(.int (16 : Int32)), (.int ((((((2 : Int32) + x0) * (-1640531527 : Int32)) ^^^ (((((2 : Int32) + x0) * (-1640531527 : Int32)).toUInt32 >>> ((16 : Int32) &&& 31).toUInt32).toInt32)) + x1) * (-1640531527 : Int32))), (.int ((((((2 : Int32) + x0) * (-1640531527 : Int32)) ^^^ (((((2 : Int32) + x0) * (-1640531527 : Int32)).toUInt32 >>> ((16 : Int32) &&& 31).toUInt32).toInt32)) + x1) * (-1640531527 : Int32)))])) _
    refine XS.iushr X3.here hx rfl (hb hby d4_41) rfl ?_
    show Steps p.tables e below (T3.setTop (mkF m 42 #[.val (.ref a1), .val (.int ((((((2 : Int32) + x0) * (-1640531527 : Int32)) ^^^ (((((2 : Int32) + x0) * (-1640531527 : Int32)).toUInt32 >>> ((16 : Int32) &&& 31).toUInt32).toInt32)) + x1) * (-1640531527 : Int32))), .val (.ref a2), .val (.int (2 : Int32)), .val (.int (1 : Int32)), .val (.int x1)] [(.int ((((((((2 : Int32) + x0) * (-1640531527 : Int32)) ^^^ (((((2 : Int32) + x0) * (-1640531527 : Int32)).toUInt32 >>> ((16 : Int32) &&& 31).toUInt32).toInt32)) + x1) * (-1640531527 : Int32)).toUInt32 >>> ((16 : Int32) &&& 31).toUInt32).toInt32)), (.int ((((((2 : Int32) + x0) * (-1640531527 : Int32)) ^^^ (((((2 : Int32) + x0) * (-1640531527 : Int32)).toUInt32 >>> ((16 : Int32) &&& 31).toUInt32).toInt32)) + x1) * (-1640531527 : Int32)))])) _
    refine XS.ixor X3.here hx rfl (hb hby d4_42) rfl ?_
    show Steps p.tables e below (T3.setTop (mkF m 43 #[.val (.ref a1), .val (.int ((((((2 : Int32) + x0) * (-1640531527 : Int32)) ^^^ (((((2 : Int32) + x0) * (-1640531527 : Int32)).toUInt32 >>> ((16 : Int32) &&& 31).toUInt32).toInt32)) + x1) * (-1640531527 : Int32))), .val (.ref a2), .val (.int (2 : Int32)), .val (.int (1 : Int32)), .val (.int x1)] [(.int (((((((2 : Int32) + x0) * (-1640531527 : Int32)) ^^^ (((((2 : Int32) + x0) * (-1640531527 : Int32)).toUInt32 >>> ((16 : Int32) &&& 31).toUInt32).toInt32)) + x1) * (-1640531527 : Int32)) ^^^ ((((((((2 : Int32) + x0) * (-1640531527 : Int32)) ^^^ (((((2 : Int32) + x0) * (-1640531527 : Int32)).toUInt32 >>> ((16 : Int32) &&& 31).toUInt32).toInt32)) + x1) * (-1640531527 : Int32)).toUInt32 >>> ((16 : Int32) &&& 31).toUInt32).toInt32)))])) _
    refine XS.istoreN X3.here hx rfl (hb hby d4_43) rfl (l' := #[.val (.ref a1), .val (.int (((((((2 : Int32) + x0) * (-1640531527 : Int32)) ^^^ (((((2 : Int32) + x0) * (-1640531527 : Int32)).toUInt32 >>> ((16 : Int32) &&& 31).toUInt32).toInt32)) + x1) * (-1640531527 : Int32)) ^^^ ((((((((2 : Int32) + x0) * (-1640531527 : Int32)) ^^^ (((((2 : Int32) + x0) * (-1640531527 : Int32)).toUInt32 >>> ((16 : Int32) &&& 31).toUInt32).toInt32)) + x1) * (-1640531527 : Int32)).toUInt32 >>> ((16 : Int32) &&& 31).toUInt32).toInt32))), .val (.ref a2), .val (.int (2 : Int32)), .val (.int (1 : Int32)), .val (.int x1)]) rfl ?_
    show Steps p.tables e below (T3.setTop (mkF m 44 #[.val (.ref a1), .val (.int (((((((2 : Int32) + x0) * (-1640531527 : Int32)) ^^^ (((((2 : Int32) + x0) * (-1640531527 : Int32)).toUInt32 >>> ((16 : Int32) &&& 31).toUInt32).toInt32)) + x1) * (-1640531527 : Int32)) ^^^ ((((((((2 : Int32) + x0) * (-1640531527 : Int32)) ^^^ (((((2 : Int32) + x0) * (-1640531527 : Int32)).toUInt32 >>> ((16 : Int32) &&& 31).toUInt32).toInt32)) + x1) * (-1640531527 : Int32)).toUInt32 >>> ((16 : Int32) &&& 31).toUInt32).toInt32))), .val (.ref a2), .val (.int (2 : Int32)), .val (.int (1 : Int32)), .val (.int x1)] [])) _
    refine XS.iinc X3.here hx rfl (hb hby d4_44) rfl (l' := #[.val (.ref a1), .val (.int (((((((2 : Int32) + x0) * (-1640531527 : Int32)) ^^^ (((((2 : Int32) + x0) * (-1640531527 : Int32)).toUInt32 >>> ((16 : Int32) &&& 31).toUInt32).toInt32)) + x1) * (-1640531527 : Int32)) ^^^ ((((((((2 : Int32) + x0) * (-1640531527 : Int32)) ^^^ (((((2 : Int32) + x0) * (-1640531527 : Int32)).toUInt32 >>> ((16 : Int32) &&& 31).toUInt32).toInt32)) + x1) * (-1640531527 : Int32)).toUInt32 >>> ((16 : Int32) &&& 31).toUInt32).toInt32))), .val (.ref a2), .val (.int (2 : Int32)), .val (.int (2 : Int32)), .val (.int x1)]) rfl ?_
    show Steps p.tables e below (T3.setTop (mkF m 47 #[.val (.ref a1), .val (.int (((((((2 : Int32) + x0) * (-1640531527 : Int32)) ^^^ (((((2 : Int32) + x0) * (-1640531527 : Int32)).toUInt32 >>> ((16 : Int32) &&& 31).toUInt32).toInt32)) + x1) * (-1640531527 : Int32)) ^^^ ((((((((2 : Int32) + x0) * (-1640531527 : Int32)) ^^^ (((((2 : Int32) + x0) * (-1640531527 : Int32)).toUInt32 >>> ((16 : Int32) &&& 31).toUInt32).toInt32)) + x1) * (-1640531527 : Int32)).toUInt32 >>> ((16 : Int32) &&& 31).toUInt32).toInt32))), .val (.ref a2), .val (.int (2 : Int32)), .val (.int (2 : Int32)), .val (.int x1)] [])) _
    refine XS.goto X3.here hx rfl (pc0 := 47) (pc' := 17) rfl (hb hby d4_47) (by decide) (by decide) ?_
    show Steps p.tables e below (T3.setTop (mkF m 17 #[.val (.ref a1), .val (.int (((((((2 : Int32) + x0) * (-1640531527 : Int32)) ^^^ (((((2 : Int32) + x0) * (-1640531527 : Int32)).toUInt32 >>> ((16 : Int32) &&& 31).toUInt32).toInt32)) + x1) * (-1640531527 : Int32)) ^^^ ((((((((2 : Int32) + x0) * (-1640531527 : Int32)) ^^^ (((((2 : Int32) + x0) * (-1640531527 : Int32)).toUInt32 >>> ((16 : Int32) &&& 31).toUInt32).toInt32)) + x1) * (-1640531527 : Int32)).toUInt32 >>> ((16 : Int32) &&& 31).toUInt32).toInt32))), .val (.ref a2), .val (.int (2 : Int32)), .val (.int (2 : Int32)), .val (.int x1)] [])) _
    refine XS.iload X3.here hx rfl (hb hby d4_17) rfl ?_
    show Steps p.tables e below (T3.setTop (mkF m 19 #[.val (.ref a1), .val (.int (((((((2 : Int32) + x0) * (-1640531527 : Int32)) ^^^ (((((2 : Int32) + x0) * (-1640531527 : Int32)).toUInt32 >>> ((16 : Int32) &&& 31).toUInt32).toInt32)) + x1) * (-1640531527 : Int32)) ^^^ ((((((((2 : Int32) + x0) * (-1640531527 : Int32)) ^^^ (((((2 : Int32) + x0) * (-1640531527 : Int32)).toUInt32 >>> ((16 : Int32) &&& 31).toUInt32).toInt32)) + x1) * (-1640531527 : Int32)).toUInt32 >>> ((16 : Int32) &&& 31).toUInt32).toInt32))), .val (.ref a2), .val (.int (2 : Int32)), .val (.int (2 : Int32)), .val (.int x1)] [(.int (2 : Int32))])) _
    refine XS.iloadN X3.here hx rfl (hb hby d4_19) rfl ?_
    show Steps p.tables e below (T3.setTop (mkF m 20 #[.val (.ref a1), .val (.int (((((((2 : Int32) + x0) * (-1640531527 : Int32)) ^^^ (((((2 : Int32) + x0) * (-1640531527 : Int32)).toUInt32 >>> ((16 : Int32) &&& 31).toUInt32).toInt32)) + x1) * (-1640531527 : Int32)) ^^^ ((((((((2 : Int32) + x0) * (-1640531527 : Int32)) ^^^ (((((2 : Int32) + x0) * (-1640531527 : Int32)).toUInt32 >>> ((16 : Int32) &&& 31).toUInt32).toInt32)) + x1) * (-1640531527 : Int32)).toUInt32 >>> ((16 : Int32) &&& 31).toUInt32).toInt32))), .val (.ref a2), .val (.int (2 : Int32)), .val (.int (2 : Int32)), .val (.int x1)] [(.int (2 : Int32)), (.int (2 : Int32))])) _
    refine XS.icmpYes X3.here hx rfl (pc0 := 20) (pc' := 50) rfl (hb hby d4_20) rfl (flt (by decide : ¬ ((2 : Int32) < (2 : Int32)))).2.1 (by decide) (by decide) ?_
    show Steps p.tables e below (T3.setTop (mkF m 50 #[.val (.ref a1), .val (.int (((((((2 : Int32) + x0) * (-1640531527 : Int32)) ^^^ (((((2 : Int32) + x0) * (-1640531527 : Int32)).toUInt32 >>> ((16 : Int32) &&& 31).toUInt32).toInt32)) + x1) * (-1640531527 : Int32)) ^^^ ((((((((2 : Int32) + x0) * (-1640531527 : Int32)) ^^^ (((((2 : Int32) + x0) * (-1640531527 : Int32)).toUInt32 >>> ((16 : Int32) &&& 31).toUInt32).toInt32)) + x1) * (-1640531527 : Int32)).toUInt32 >>> ((16 : Int32) &&& 31).toUInt32).toInt32))), .val (.ref a2), .val (.int (2 : Int32)), .val (.int (2 : Int32)), .val (.int x1)] [])) _
    refine XS.iloadN X3.here hx rfl (hb hby d4_50) rfl ?_
    show Steps p.tables e below (T3.setTop (mkF m 51 #[.val (.ref a1), .val (.int (((((((2 : Int32) + x0) * (-1640531527 : Int32)) ^^^ (((((2 : Int32) + x0) * (-1640531527 : Int32)).toUInt32 >>> ((16 : Int32) &&& 31).toUInt32).toInt32)) + x1) * (-1640531527 : Int32)) ^^^ ((((((((2 : Int32) + x0) * (-1640531527 : Int32)) ^^^ (((((2 : Int32) + x0) * (-1640531527 : Int32)).toUInt32 >>> ((16 : Int32) &&& 31).toUInt32).toInt32)) + x1) * (-1640531527 : Int32)).toUInt32 >>> ((16 : Int32) &&& 31).toUInt32).toInt32))), .val (.ref a2), .val (.int (2 : Int32)), .val (.int (2 : Int32)), .val (.int x1)] [(.int (((((((2 : Int32) + x0) * (-1640531527 : Int32)) ^^^ (((((2 : Int32) + x0) * (-1640531527 : Int32)).toUInt32 >>> ((16 : Int32) &&& 31).toUInt32).toInt32)) + x1) * (-1640531527 : Int32)) ^^^ ((((((((2 : Int32) + x0) * (-1640531527 : Int32)) ^^^ (((((2 : Int32) + x0) * (-1640531527 : Int32)).toUInt32 >>> ((16 : Int32) &&& 31).toUInt32).toInt32)) + x1) * (-1640531527 : Int32)).toUInt32 >>> ((16 : Int32) &&& 31).toUInt32).toInt32)))])) _
    exact retI X3 hx Bd.returns (hb hby d4_51) hr
  ·
    show Qhc2 Z a1 a2 ka x0 x1 h0 n0 _ T3.heap _
    rw [e3]
    exact ⟨rfl, N0, rfl⟩
theorem ef_hc3 (m : MethodId) (a1 : Addr) : entryFrame m #[(.ref a1)] 6 = (mkF m 0 #[.val (.ref a1), .unset, .unset, .unset, .unset, .unset] []) := by first | (simp [entryFrame, mkF, argsToLocals, Value.category]; done) | rfl
def Qhc3 (Z : State) (a1 : Addr) (a2 : Addr) (ka : ClassId) (x0 : Int32) (x1 : Int32) (x2 : Int32) (h0 : Heap) (n0 : Nat) (v : Option Value) (h : Heap) (L : List Loc) : Prop := v = some (.int (own_h3 x0 x1 x2)) ∧ Fr n0 L ∧ h = h0
set_option maxRecDepth 65536 in
set_option maxHeartbeats 40000000 in
theorem hc3 (l : Launch) (Z : State) (a0 : Array Value) (hw : ∀ d ∈ tables_1, d.before a0 Z = true) (ws : List Jvm.Cond) (a1 : Addr) (a2 : Addr) (ka : ClassId) (x0 : Int32) (x1 : Int32) (x2 : Int32) (h0 : Heap) (n0 : Nat) (Z0 : n0 ≤ h0.size) (F_a1 : Fld Z h0 a1 "com/example/hedge/hedge/analysis/IntArrayKey" "values" "[I" (.ref a2)) (V_a2 : Arv Z h0 a2 ka .int 3 [(.int x0), (.int x1), (.int x2)] (.int (0 : Int32))) :
    MetFree l (⟨"com/example/hedge/hedge/analysis/IntArrayKey", "hashCode", "()I"⟩ : MethodName) (head1 (Jvm.Cond.code (⟨"com/example/hedge/hedge/analysis/IntArrayKey", "hashCode", "()I"⟩ : MethodName) prog_49_method_3_code 6 (some .int) :: ws) ({ frames := 0, cells := 0, slots := 0, locals := 0 } : Room)) (fun a U => a = #[(.ref a1)] ∧ Z.Warmed39 U.vm ∧ U.heap = h0) (fun _ _ _ _ _ => True) (fun _ U o U' => ∃ v L, o = .returned v ∧ Qhc3 Z a1 a2 ka x0 x1 x2 h0 n0 v U'.heap L ∧ FrameEnd U o U' L ({ frames := 0, cells := 0, slots := 0, locals := 0 } : Room).cells ({ frames := 0, cells := 0, slots := 0, locals := 0 } : Room).slots) := by
  refine MetFree.of_bodySF (plainFor_of_name pn_4) hisR ?_
  intro p e s m args below meth c s₁ Bd hml0 hP hK
  obtain ⟨rfl, hZ, hh⟩ := hP
  have hx := Bd.exec
  have hby := Bd.bytes
  have hml : c.maxLocals = 6 := hml0
  have hown : s.vm.findClass "com/example/hedge/hedge/analysis/IntArrayKey" = some m.cls := findClass_of_methodNamed Bd.named
  have hnm := (name_of_methodNamed Bd.named Bd.method).1
  have X0 : Stand p l e ({ frames := 0, cells := 0, slots := 0, locals := 0 } : Room) s m #[(.ref a1)] below meth c s₁ [] 0 0 := Stand.of_body Bd
  have e0 : s₁.heap = h0 := by rw [← hh, Bd.state]; rfl
  have N0 := Fr.nil n0
  have K0 := Keep.refl h0 ([] : List Addr)
  have pre0 : ∀ t, Steps p.tables e below (s₁.setTop (mkF m 0 #[.val (.ref a1), .unset, .unset, .unset, .unset, .unset] [])) t → Steps p.tables e below (s₁.setTop (entryFrame m #[(.ref a1)] 6)) t := fun t k => castTop (ef_hc3 m a1) k
  obtain ⟨T1, X1, e1, st1⟩ := getF X0 hx hZ hown (host := "") (Or.inl (hw _ (List.mem_of_getElem? (i := 15) rfl))) Via.refl e0 F_a1 (g := (mkF m 1 #[.val (.ref a1), .unset, .unset, .unset, .unset, .unset] [(.ref a1)])) rfl rfl (hb hby d4_1)
  obtain ⟨clo2, Aro2, -, So2, No2, -, -⟩ := id V_a2
  obtain ⟨T3, X3, e3, st3⟩ := getF X1 hx hZ hown (host := "") (Or.inl (hw _ (List.mem_of_getElem? (i := 15) rfl))) Via.refl e1 F_a1 (g := (mkF m 7 #[.val (.ref a1), .val (.int (3 : Int32)), .unset, .unset, .unset, .unset] [(.ref a1)])) rfl rfl (hb hby d4_7)
  obtain ⟨clo4, Aro4, -, So4, No4, -, -⟩ := id V_a2
  obtain ⟨clo5, Aro5, -, So5, No5, Ho5, -⟩ := id V_a2
  have hino5 : ¬ ((0 : Int32) < 0 ∨ clo5.slots.size ≤ ((0 : Int32)).toNatClampNeg) := inb_of So5 ⟨by decide, by decide⟩
  have hato5 : clo5.slots[((0 : Int32)).toNatClampNeg]? = some (.int x0) := Ho5.at hino5 rfl
  obtain ⟨clo6, Aro6, -, So6, No6, Ho6, -⟩ := id V_a2
  have hino6 : ¬ ((1 : Int32) < 0 ∨ clo6.slots.size ≤ ((1 : Int32)).toNatClampNeg) := inb_of So6 ⟨by decide, by decide⟩
  have hato6 : clo6.slots[((1 : Int32)).toNatClampNeg]? = some (.int x1) := Ho6.at hino6 rfl
  obtain ⟨clo7, Aro7, -, So7, No7, Ho7, -⟩ := id V_a2
  have hino7 : ¬ ((2 : Int32) < 0 ∨ clo7.slots.size ≤ ((2 : Int32)).toNatClampNeg) := inb_of So7 ⟨by decide, by decide⟩
  have hato7 : clo7.slots[((2 : Int32)).toNatClampNeg]? = some (.int x2) := Ho7.at hino7 rfl
  obtain ⟨fs, hr, hrun, hended, hW, hsame⟩ := X3.leave (v := some (.int (own_h3 x0 x1 x2))) (fun h => by rw [Bd.returns] at h; cases h)
  refine ⟨_, _, pre0 _ ?_, hrun, hended, _, _, rfl, ?_, ⟨_, rfl⟩, hW, hsame.mono (by decide) (by decide)⟩
  ·
    show Steps p.tables e below (s₁.setTop (mkF m 0 #[.val (.ref a1), .unset, .unset, .unset, .unset, .unset] [])) _
    refine XS.aloadN X0.here hx rfl (hb hby d4_0) rfl rfl ?_
    show Steps p.tables e below (s₁.setTop (mkF m 1 #[.val (.ref a1), .unset, .unset, .unset, .unset, .unset] [(.ref a1)])) _
    refine st1 _ ?_
    show Steps p.tables e below (T1.setTop (mkF m 4 #[.val (.ref a1), .unset, .unset, .unset, .unset, .unset] [(.ref a2)])) _
    refine X1.arraylength hx (by rw [e1]; exact Aro2.1) (State.isArrayOf_alike hZ.alike Aro2.2.1) (g := (mkF m 4 #[.val (.ref a1), .unset, .unset, .unset, .unset, .unset] [(.ref a2)])) rfl rfl (hb hby d4_4) _ ?_
    rw [len_of So2 No2]
    show Steps p.tables e below (T1.setTop (mkF m 5 #[.val (.ref a1), .unset, .unset, .unset, .unset, .unset] [(.int (3 : Int32))])) _
    refine XS.istoreN X1.here hx rfl (hb hby d4_5) rfl (l' := #[.val (.ref a1), .val (.int (3 : Int32)), .unset, .unset, .unset, .unset]) rfl ?_
    show Steps p.tables e below (T1.setTop (mkF m 6 #[.val (.ref a1), .val (.int (3 : Int32)), .unset, .unset, .unset, .unset] [])) _
    refine XS.aloadN X1.here hx rfl (hb hby d4_6) rfl rfl ?_
    show Steps p.tables e below (T1.setTop (mkF m 7 #[.val (.ref a1), .val (.int (3 : Int32)), .unset, .unset, .unset, .unset] [(.ref a1)])) _
    refine st3 _ ?_
    show Steps p.tables e below (T3.setTop (mkF m 10 #[.val (.ref a1), .val (.int (3 : Int32)), .unset, .unset, .unset, .unset] [(.ref a2)])) _
    refine XS.astoreN X3.here hx rfl (hb hby d4_10) rfl rfl (l' := #[.val (.ref a1), .val (.int (3 : Int32)), .val (.ref a2), .unset, .unset, .unset]) rfl ?_
    show Steps p.tables e below (T3.setTop (mkF m 11 #[.val (.ref a1), .val (.int (3 : Int32)), .val (.ref a2), .unset, .unset, .unset] [])) _
    refine XS.aloadN X3.here hx rfl (hb hby d4_11) rfl rfl ?_
    show Steps p.tables e below (T3.setTop (mkF m 12 #[.val (.ref a1), .val (.int (3 : Int32)), .val (.ref a2), .unset, .unset, .unset] [(.ref a2)])) _
    refine X3.arraylength hx (by rw [e3]; exact Aro4.1) (State.isArrayOf_alike hZ.alike Aro4.2.1) (g := (mkF m 12 #[.val (.ref a1), .val (.int (3 : Int32)), .val (.ref a2), .unset, .unset, .unset] [(.ref a2)])) rfl rfl (hb hby d4_12) _ ?_
    rw [len_of So4 No4]
    show Steps p.tables e below (T3.setTop (mkF m 13 #[.val (.ref a1), .val (.int (3 : Int32)), .val (.ref a2), .unset, .unset, .unset] [(.int (3 : Int32))])) _
    refine XS.istoreN X3.here hx rfl (hb hby d4_13) rfl (l' := #[.val (.ref a1), .val (.int (3 : Int32)), .val (.ref a2), .val (.int (3 : Int32)), .unset, .unset]) rfl ?_
    show Steps p.tables e below (T3.setTop (mkF m 14 #[.val (.ref a1), .val (.int (3 : Int32)), .val (.ref a2), .val (.int (3 : Int32)), .unset, .unset] [])) _
    refine XS.iconst X3.here hx rfl (hb hby d4_14) ?_
    show Steps p.tables e below (T3.setTop (mkF m 15 #[.val (.ref a1), .val (.int (3 : Int32)), .val (.ref a2), .val (.int (3 : Int32)), .unset, .unset] [(.int (0 : Int32))])) _
    refine XS.istore X3.here hx rfl (hb hby d4_15) rfl (l' := #[.val (.ref a1), .val (.int (3 : Int32)), .val (.ref a2), .val (.int (3 : Int32)), .val (.int (0 : Int32)), .unset]) rfl ?_
    show Steps p.tables e below (T3.setTop (mkF m 17 #[.val (.ref a1), .val (.int (3 : Int32)), .val (.ref a2), .val (.int (3 : Int32)), .val (.int (0 : Int32)), .unset] [])) _
    refine XS.iload X3.here hx rfl (hb hby d4_17) rfl ?_
    show Steps p.tables e below (T3.setTop (mkF m 19 #[.val (.ref a1), .val (.int (3 : Int32)), .val (.ref a2), .val (.int (3 : Int32)), .val (.int (0 : Int32)), .unset] [(.int (0 : Int32))])) _
    refine XS.iloadN X3.here hx rfl (hb hby d4_19) rfl ?_
    show Steps p.tables e below (T3.setTop (mkF m 20 #[.val (.ref a1), .val (.int (3 : Int32)), .val (.ref a2), .val (.int (3 : Int32)), .val (.int (0 : Int32)), .unset] [(.int (3 : Int32)), (.int (0 : Int32))])) _
    refine XS.icmpNo X3.here hx rfl (hb hby d4_20) rfl (tlt (by decide : (0 : Int32) < (3 : Int32))).2.1 ?_
    show Steps p.tables e below (T3.setTop (mkF m 23 #[.val (.ref a1), .val (.int (3 : Int32)), .val (.ref a2), .val (.int (3 : Int32)), .val (.int (0 : Int32)), .unset] [])) _
    refine XS.aloadN X3.here hx rfl (hb hby d4_23) rfl rfl ?_
    show Steps p.tables e below (T3.setTop (mkF m 24 #[.val (.ref a1), .val (.int (3 : Int32)), .val (.ref a2), .val (.int (3 : Int32)), .val (.int (0 : Int32)), .unset] [(.ref a2)])) _
    refine XS.iload X3.here hx rfl (hb hby d4_24) rfl ?_
    show Steps p.tables e below (T3.setTop (mkF m 26 #[.val (.ref a1), .val (.int (3 : Int32)), .val (.ref a2), .val (.int (3 : Int32)), .val (.int (0 : Int32)), .unset] [(.int (0 : Int32)), (.ref a2)])) _
    refine X3.iaload hx (j := (0 : Int32)) (v := (.int x0)) (by rw [e3]; exact Aro5.1) (State.isArrayOf_alike hZ.alike Aro5.2.1) Aro5.2.2 hino5 hato5 (g := (mkF m 26 #[.val (.ref a1), .val (.int (3 : Int32)), .val (.ref a2), .val (.int (3 : Int32)), .val (.int (0 : Int32)), .unset] [(.int (0 : Int32)), (.ref a2)])) rfl rfl (hb hby d4_26) _ ?_
    show Steps p.tables e below (T3.setTop (mkF m 27 #[.val (.ref a1), .val (.int (3 : Int32)), .val (.ref a2), .val (.int (3 : Int32)), .val (.int (0 : Int32)), .unset] [(.int x0)])) _
    refine XS.istore X3.here hx rfl (hb hby d4_27) rfl (l' := #[.val (.ref a1), .val (.int (3 : Int32)), .val (.ref a2), .val (.int (3 : Int32)), .val (.int (0 : Int32)), .val (.int x0)]) rfl ?_
    show Steps p.tables e below (T3.setTop (mkF m 29 #[.val (.ref a1), .val (.int (3 : Int32)), .val (.ref a2), .val (.int (3 : Int32)), .val (.int (0 : Int32)), .val (.int x0)] [])) _
    refine XS.iloadN X3.here hx rfl (hb hby d4_29) rfl ?_
    show Steps p.tables e below (T3.setTop (mkF m 30 #[.val (.ref a1), .val (.int (3 : Int32)), .val (.ref a2), .val (.int (3 : Int32)), .val (.int (0 : Int32)), .val (.int x0)] [(.int (3 : Int32))])) _
    refine XS.iload X3.here hx rfl (hb hby d4_30) rfl ?_
    show Steps p.tables e below (T3.setTop (mkF m 32 #[.val (.ref a1), .val (.int (3 : Int32)), .val (.ref a2), .val (.int (3 : Int32)), .val (.int (0 : Int32)), .val (.int x0)] [(.int x0), (.int (3 : Int32))])) _
    refine XS.iadd X3.here hx rfl (hb hby d4_32) rfl ?_
    show Steps p.tables e below (T3.setTop (mkF m 33 #[.val (.ref a1), .val (.int (3 : Int32)), .val (.ref a2), .val (.int (3 : Int32)), .val (.int (0 : Int32)), .val (.int x0)] [(.int ((3 : Int32) + x0))])) _
    refine X3.ldcInt hx hown (mvT hZ (hw _ (List.mem_of_getElem? (i := 23) rfl))) (g := (mkF m 33 #[.val (.ref a1), .val (.int (3 : Int32)), .val (.ref a2), .val (.int (3 : Int32)), .val (.int (0 : Int32)), .val (.int x0)] [(.int ((3 : Int32) + x0))])) rfl (hb hby d4_33) _ ?_
    show Steps p.tables e below (T3.setTop (mkF m 35 #[.val (.ref a1), .val (.int (3 : Int32)), .val (.ref a2), .val (.int (3 : Int32)), .val (.int (0 : Int32)), .val (.int x0)] [(.int (-1640531527 : Int32)), (.int ((3 : Int32) + x0))])) _
    refine XS.imul X3.here hx rfl (hb hby d4_35) rfl ?_
    show Steps p.tables e below (T3.setTop (mkF m 36 #[.val (.ref a1), .val (.int (3 : Int32)), .val (.ref a2), .val (.int (3 : Int32)), .val (.int (0 : Int32)), .val (.int x0)] [(.int (((3 : Int32) + x0) * (-1640531527 : Int32)))])) _
    refine XS.istoreN X3.here hx rfl (hb hby d4_36) rfl (l' := #[.val (.ref a1), .val (.int (((3 : Int32) + x0) * (-1640531527 : Int32))), .val (.ref a2), .val (.int (3 : Int32)), .val (.int (0 : Int32)), .val (.int x0)]) rfl ?_
    show Steps p.tables e below (T3.setTop (mkF m 37 #[.val (.ref a1), .val (.int (((3 : Int32) + x0) * (-1640531527 : Int32))), .val (.ref a2), .val (.int (3 : Int32)), .val (.int (0 : Int32)), .val (.int x0)] [])) _
    refine XS.iloadN X3.here hx rfl (hb hby d4_37) rfl ?_
    show Steps p.tables e below (T3.setTop (mkF m 38 #[.val (.ref a1), .val (.int (((3 : Int32) + x0) * (-1640531527 : Int32))), .val (.ref a2), .val (.int (3 : Int32)), .val (.int (0 : Int32)), .val (.int x0)] [(.int (((3 : Int32) + x0) * (-1640531527 : Int32)))])) _
    refine XS.iloadN X3.here hx rfl (hb hby d4_38) rfl ?_
    show Steps p.tables e below (T3.setTop (mkF m 39 #[.val (.ref a1), .val (.int (((3 : Int32) + x0) * (-1640531527 : Int32))), .val (.ref a2), .val (.int (3 : Int32)), .val (.int (0 : Int32)), .val (.int x0)] [(.int (((3 : Int32) + x0) * (-1640531527 : Int32))), (.int (((3 : Int32) + x0) * (-1640531527 : Int32)))])) _
    refine XS.bipush X3.here hx rfl (hb hby d4_39) ?_
    show Steps p.tables e below (T3.setTop (mkF m 41 #[.val (.ref a1), .val (.int (((3 : Int32) + x0) * (-1640531527 : Int32))), .val (.ref a2), .val (.int (3 : Int32)), .val (.int (0 : Int32)), .val (.int x0)] [(.int (16 : Int32)), (.int (((3 : Int32) + x0) * (-1640531527 : Int32))), (.int (((3 : Int32) + x0) * (-1640531527 : Int32)))])) _
    refine XS.iushr X3.here hx rfl (hb hby d4_41) rfl ?_
    show Steps p.tables e below (T3.setTop (mkF m 42 #[.val (.ref a1), .val (.int (((3 : Int32) + x0) * (-1640531527 : Int32))), .val (.ref a2), .val (.int (3 : Int32)), .val (.int (0 : Int32)), .val (.int x0)] [(.int (((((3 : Int32) + x0) * (-1640531527 : Int32)).toUInt32 >>> ((16 : Int32) &&& 31).toUInt32).toInt32)), (.int (((3 : Int32) + x0) * (-1640531527 : Int32)))])) _
    refine XS.ixor X3.here hx rfl (hb hby d4_42) rfl ?_
    show Steps p.tables e below (T3.setTop (mkF m 43 #[.val (.ref a1), .val (.int (((3 : Int32) + x0) * (-1640531527 : Int32))), .val (.ref a2), .val (.int (3 : Int32)), .val (.int (0 : Int32)), .val (.int x0)] [(.int ((((3 : Int32) + x0) * (-1640531527 : Int32)) ^^^ (((((3 : Int32) + x0) * (-1640531527 : Int32)).toUInt32 >>> ((16 : Int32) &&& 31).toUInt32).toInt32)))])) _
    refine XS.istoreN X3.here hx rfl (hb hby d4_43) rfl (l' := #[.val (.ref a1), .val (.int ((((3 : Int32) + x0) * (-1640531527 : Int32)) ^^^ (((((3 : Int32) + x0) * (-1640531527 : Int32)).toUInt32 >>> ((16 : Int32) &&& 31).toUInt32).toInt32))), .val (.ref a2), .val (.int (3 : Int32)), .val (.int (0 : Int32)), .val (.int x0)]) rfl ?_
    show Steps p.tables e below (T3.setTop (mkF m 44 #[.val (.ref a1), .val (.int ((((3 : Int32) + x0) * (-1640531527 : Int32)) ^^^ (((((3 : Int32) + x0) * (-1640531527 : Int32)).toUInt32 >>> ((16 : Int32) &&& 31).toUInt32).toInt32))), .val (.ref a2), .val (.int (3 : Int32)), .val (.int (0 : Int32)), .val (.int x0)] [])) _
    refine XS.iinc X3.here hx rfl (hb hby d4_44) rfl (l' := #[.val (.ref a1), .val (.int ((((3 : Int32) + x0) * (-1640531527 : Int32)) ^^^ (((((3 : Int32) + x0) * (-1640531527 : Int32)).toUInt32 >>> ((16 : Int32) &&& 31).toUInt32).toInt32))), .val (.ref a2), .val (.int (3 : Int32)), .val (.int (1 : Int32)), .val (.int x0)]) rfl ?_
    show Steps p.tables e below (T3.setTop (mkF m 47 #[.val (.ref a1), .val (.int ((((3 : Int32) + x0) * (-1640531527 : Int32)) ^^^ (((((3 : Int32) + x0) * (-1640531527 : Int32)).toUInt32 >>> ((16 : Int32) &&& 31).toUInt32).toInt32))), .val (.ref a2), .val (.int (3 : Int32)), .val (.int (1 : Int32)), .val (.int x0)] [])) _
    refine XS.goto X3.here hx rfl (pc0 := 47) (pc' := 17) rfl (hb hby d4_47) (by decide) (by decide) ?_
    show Steps p.tables e below (T3.setTop (mkF m 17 #[.val (.ref a1), .val (.int ((((3 : Int32) + x0) * (-1640531527 : Int32)) ^^^ (((((3 : Int32) + x0) * (-1640531527 : Int32)).toUInt32 >>> ((16 : Int32) &&& 31).toUInt32).toInt32))), .val (.ref a2), .val (.int (3 : Int32)), .val (.int (1 : Int32)), .val (.int x0)] [])) _
    refine XS.iload X3.here hx rfl (hb hby d4_17) rfl ?_
    show Steps p.tables e below (T3.setTop (mkF m 19 #[.val (.ref a1), .val (.int ((((3 : Int32) + x0) * (-1640531527 : Int32)) ^^^ (((((3 : Int32) + x0) * (-1640531527 : Int32)).toUInt32 >>> ((16 : Int32) &&& 31).toUInt32).toInt32))), .val (.ref a2), .val (.int (3 : Int32)), .val (.int (1 : Int32)), .val (.int x0)] [(.int (1 : Int32))])) _
    refine XS.iloadN X3.here hx rfl (hb hby d4_19) rfl ?_
    show Steps p.tables e below (T3.setTop (mkF m 20 #[.val (.ref a1), .val (.int ((((3 : Int32) + x0) * (-1640531527 : Int32)) ^^^ (((((3 : Int32) + x0) * (-1640531527 : Int32)).toUInt32 >>> ((16 : Int32) &&& 31).toUInt32).toInt32))), .val (.ref a2), .val (.int (3 : Int32)), .val (.int (1 : Int32)), .val (.int x0)] [(.int (3 : Int32)), (.int (1 : Int32))])) _
    refine XS.icmpNo X3.here hx rfl (hb hby d4_20) rfl (tlt (by decide : (1 : Int32) < (3 : Int32))).2.1 ?_
    show Steps p.tables e below (T3.setTop (mkF m 23 #[.val (.ref a1), .val (.int ((((3 : Int32) + x0) * (-1640531527 : Int32)) ^^^ (((((3 : Int32) + x0) * (-1640531527 : Int32)).toUInt32 >>> ((16 : Int32) &&& 31).toUInt32).toInt32))), .val (.ref a2), .val (.int (3 : Int32)), .val (.int (1 : Int32)), .val (.int x0)] [])) _
    refine XS.aloadN X3.here hx rfl (hb hby d4_23) rfl rfl ?_
    show Steps p.tables e below (T3.setTop (mkF m 24 #[.val (.ref a1), .val (.int ((((3 : Int32) + x0) * (-1640531527 : Int32)) ^^^ (((((3 : Int32) + x0) * (-1640531527 : Int32)).toUInt32 >>> ((16 : Int32) &&& 31).toUInt32).toInt32))), .val (.ref a2), .val (.int (3 : Int32)), .val (.int (1 : Int32)), .val (.int x0)] [(.ref a2)])) _
    refine XS.iload X3.here hx rfl (hb hby d4_24) rfl ?_
    show Steps p.tables e below (T3.setTop (mkF m 26 #[.val (.ref a1), .val (.int ((((3 : Int32) + x0) * (-1640531527 : Int32)) ^^^ (((((3 : Int32) + x0) * (-1640531527 : Int32)).toUInt32 >>> ((16 : Int32) &&& 31).toUInt32).toInt32))), .val (.ref a2), .val (.int (3 : Int32)), .val (.int (1 : Int32)), .val (.int x0)] [(.int (1 : Int32)), (.ref a2)])) _
    refine X3.iaload hx (j := (1 : Int32)) (v := (.int x1)) (by rw [e3]; exact Aro6.1) (State.isArrayOf_alike hZ.alike Aro6.2.1) Aro6.2.2 hino6 hato6 (g := (mkF m 26 #[.val (.ref a1), .val (.int ((((3 : Int32) + x0) * (-1640531527 : Int32)) ^^^ (((((3 : Int32) + x0) * (-1640531527 : Int32)).toUInt32 >>> ((16 : Int32) &&& 31).toUInt32).toInt32))), .val (.ref a2), .val (.int (3 : Int32)), .val (.int (1 : Int32)), .val (.int x0)] [(.int (1 : Int32)), (.ref a2)])) rfl rfl (hb hby d4_26) _ ?_
    show Steps p.tables e below (T3.setTop (mkF m 27 #[.val (.ref a1), .val (.int ((((3 : Int32) + x0) * (-1640531527 : Int32)) ^^^ (((((3 : Int32) + x0) * (-1640531527 : Int32)).toUInt32 >>> ((16 : Int32) &&& 31).toUInt32).toInt32))), .val (.ref a2), .val (.int (3 : Int32)), .val (.int (1 : Int32)), .val (.int x0)] [(.int x1)])) _
    refine XS.istore X3.here hx rfl (hb hby d4_27) rfl (l' := #[.val (.ref a1), .val (.int ((((3 : Int32) + x0) * (-1640531527 : Int32)) ^^^ (((((3 : Int32) + x0) * (-1640531527 : Int32)).toUInt32 >>> ((16 : Int32) &&& 31).toUInt32).toInt32))), .val (.ref a2), .val (.int (3 : Int32)), .val (.int (1 : Int32)), .val (.int x1)]) rfl ?_
    show Steps p.tables e below (T3.setTop (mkF m 29 #[.val (.ref a1), .val (.int ((((3 : Int32) + x0) * (-1640531527 : Int32)) ^^^ (((((3 : Int32) + x0) * (-1640531527 : Int32)).toUInt32 >>> ((16 : Int32) &&& 31).toUInt32).toInt32))), .val (.ref a2), .val (.int (3 : Int32)), .val (.int (1 : Int32)), .val (.int x1)] [])) _
    refine XS.iloadN X3.here hx rfl (hb hby d4_29) rfl ?_
    show Steps p.tables e below (T3.setTop (mkF m 30 #[.val (.ref a1), .val (.int ((((3 : Int32) + x0) * (-1640531527 : Int32)) ^^^ (((((3 : Int32) + x0) * (-1640531527 : Int32)).toUInt32 >>> ((16 : Int32) &&& 31).toUInt32).toInt32))), .val (.ref a2), .val (.int (3 : Int32)), .val (.int (1 : Int32)), .val (.int x1)] [(.int ((((3 : Int32) + x0) * (-1640531527 : Int32)) ^^^ (((((3 : Int32) + x0) * (-1640531527 : Int32)).toUInt32 >>> ((16 : Int32) &&& 31).toUInt32).toInt32)))])) _
    refine XS.iload X3.here hx rfl (hb hby d4_30) rfl ?_
    show Steps p.tables e below (T3.setTop (mkF m 32 #[.val (.ref a1), .val (.int ((((3 : Int32) + x0) * (-1640531527 : Int32)) ^^^ (((((3 : Int32) + x0) * (-1640531527 : Int32)).toUInt32 >>> ((16 : Int32) &&& 31).toUInt32).toInt32))), .val (.ref a2), .val (.int (3 : Int32)), .val (.int (1 : Int32)), .val (.int x1)] [(.int x1), (.int ((((3 : Int32) + x0) * (-1640531527 : Int32)) ^^^ (((((3 : Int32) + x0) * (-1640531527 : Int32)).toUInt32 >>> ((16 : Int32) &&& 31).toUInt32).toInt32)))])) _
    refine XS.iadd X3.here hx rfl (hb hby d4_32) rfl ?_
    show Steps p.tables e below (T3.setTop (mkF m 33 #[.val (.ref a1), .val (.int ((((3 : Int32) + x0) * (-1640531527 : Int32)) ^^^ (((((3 : Int32) + x0) * (-1640531527 : Int32)).toUInt32 >>> ((16 : Int32) &&& 31).toUInt32).toInt32))), .val (.ref a2), .val (.int (3 : Int32)), .val (.int (1 : Int32)), .val (.int x1)] [(.int (((((3 : Int32) + x0) * (-1640531527 : Int32)) ^^^ (((((3 : Int32) + x0) * (-1640531527 : Int32)).toUInt32 >>> ((16 : Int32) &&& 31).toUInt32).toInt32)) + x1))])) _
    refine X3.ldcInt hx hown (mvT hZ (hw _ (List.mem_of_getElem? (i := 23) rfl))) (g := (mkF m 33 #[.val (.ref a1), .val (.int ((((3 : Int32) + x0) * (-1640531527 : Int32)) ^^^ (((((3 : Int32) + x0) * (-1640531527 : Int32)).toUInt32 >>> ((16 : Int32) &&& 31).toUInt32).toInt32))), .val (.ref a2), .val (.int (3 : Int32)), .val (.int (1 : Int32)), .val (.int x1)] [(.int (((((3 : Int32) + x0) * (-1640531527 : Int32)) ^^^ (((((3 : Int32) + x0) * (-1640531527 : Int32)).toUInt32 >>> ((16 : Int32) &&& 31).toUInt32).toInt32)) + x1))])) rfl (hb hby d4_33) _ ?_
    show Steps p.tables e below (T3.setTop (mkF m 35 #[.val (.ref a1), .val (.int ((((3 : Int32) + x0) * (-1640531527 : Int32)) ^^^ (((((3 : Int32) + x0) * (-1640531527 : Int32)).toUInt32 >>> ((16 : Int32) &&& 31).toUInt32).toInt32))), .val (.ref a2), .val (.int (3 : Int32)), .val (.int (1 : Int32)), .val (.int x1)] [(.int (-1640531527 : Int32)), (.int (((((3 : Int32) + x0) * (-1640531527 : Int32)) ^^^ (((((3 : Int32) + x0) * (-1640531527 : Int32)).toUInt32 >>> ((16 : Int32) &&& 31).toUInt32).toInt32)) + x1))])) _
    refine XS.imul X3.here hx rfl (hb hby d4_35) rfl ?_
    show Steps p.tables e below (T3.setTop (mkF m 36 #[.val (.ref a1), .val (.int ((((3 : Int32) + x0) * (-1640531527 : Int32)) ^^^ (((((3 : Int32) + x0) * (-1640531527 : Int32)).toUInt32 >>> ((16 : Int32) &&& 31).toUInt32).toInt32))), .val (.ref a2), .val (.int (3 : Int32)), .val (.int (1 : Int32)), .val (.int x1)] [(.int ((((((3 : Int32) + x0) * (-1640531527 : Int32)) ^^^ (((((3 : Int32) + x0) * (-1640531527 : Int32)).toUInt32 >>> ((16 : Int32) &&& 31).toUInt32).toInt32)) + x1) * (-1640531527 : Int32)))])) _
    refine XS.istoreN X3.here hx rfl (hb hby d4_36) rfl (l' := #[.val (.ref a1), .val (.int ((((((3 : Int32) + x0) * (-1640531527 : Int32)) ^^^ (((((3 : Int32) + x0) * (-1640531527 : Int32)).toUInt32 >>> ((16 : Int32) &&& 31).toUInt32).toInt32)) + x1) * (-1640531527 : Int32))), .val (.ref a2), .val (.int (3 : Int32)), .val (.int (1 : Int32)), .val (.int x1)]) rfl ?_
    show Steps p.tables e below (T3.setTop (mkF m 37 #[.val (.ref a1), .val (.int ((((((3 : Int32) + x0) * (-1640531527 : Int32)) ^^^ (((((3 : Int32) + x0) * (-1640531527 : Int32)).toUInt32 >>> ((16 : Int32) &&& 31).toUInt32).toInt32)) + x1) * (-1640531527 : Int32))), .val (.ref a2), .val (.int (3 : Int32)), .val (.int (1 : Int32)), .val (.int x1)] [])) _
    refine XS.iloadN X3.here hx rfl (hb hby d4_37) rfl ?_
    show Steps p.tables e below (T3.setTop (mkF m 38 #[.val (.ref a1), .val (.int ((((((3 : Int32) + x0) * (-1640531527 : Int32)) ^^^ (((((3 : Int32) + x0) * (-1640531527 : Int32)).toUInt32 >>> ((16 : Int32) &&& 31).toUInt32).toInt32)) + x1) * (-1640531527 : Int32))), .val (.ref a2), .val (.int (3 : Int32)), .val (.int (1 : Int32)), .val (.int x1)] [(.int ((((((3 : Int32) + x0) * (-1640531527 : Int32)) ^^^ (((((3 : Int32) + x0) * (-1640531527 : Int32)).toUInt32 >>> ((16 : Int32) &&& 31).toUInt32).toInt32)) + x1) * (-1640531527 : Int32)))])) _
    refine XS.iloadN X3.here hx rfl (hb hby d4_38) rfl ?_
    show Steps p.tables e below (T3.setTop (mkF m 39 #[.val (.ref a1), .val (.int ((((((3 : Int32) + x0) * (-1640531527 : Int32)) ^^^ (((((3 : Int32) + x0) * (-1640531527 : Int32)).toUInt32 >>> ((16 : Int32) &&& 31).toUInt32).toInt32)) + x1) * (-1640531527 : Int32))), .val (.ref a2), .val (.int (3 : Int32)), .val (.int (1 : Int32)), .val (.int x1)] [(.int ((((((3 : Int32) + x0) * (-1640531527 : Int32)) ^^^ (((((3 : Int32) + x0) * (-1640531527 : Int32)).toUInt32 >>> ((16 : Int32) &&& 31).toUInt32).toInt32)) + x1) * (-1640531527 : Int32))), (.int ((((((3 : Int32) + x0) * (-1640531527 : Int32)) ^^^ (((((3 : Int32) + x0) * (-1640531527 : Int32)).toUInt32 >>> ((16 : Int32) &&& 31).toUInt32).toInt32)) + x1) * (-1640531527 : Int32)))])) _
    refine XS.bipush X3.here hx rfl (hb hby d4_39) ?_
    show Steps p.tables e below (T3.setTop (mkF m 41 #[.val (.ref a1), .val (.int ((((((3 : Int32) + x0) * (-1640531527 : Int32)) ^^^ (((((3 : Int32) + x0) * (-1640531527 : Int32)).toUInt32 >>> ((16 : Int32) &&& 31).toUInt32).toInt32)) + x1) * (-1640531527 : Int32))), .val (.ref a2), .val (.int (3 : Int32)), .val (.int (1 : Int32)), .val (.int x1)] [(.int (16 : Int32)), (.int ((((((3 : Int32) + x0) * (-1640531527 : Int32)) ^^^ (((((3 : Int32) + x0) * (-1640531527 : Int32)).toUInt32 >>> ((16 : Int32) &&& 31).toUInt32).toInt32)) + x1) * (-1640531527 : Int32))), (.int ((((((3 : Int32) + x0) * (-1640531527 : Int32)) ^^^ (((((3 : Int32) + x0) * (-1640531527 : Int32)).toUInt32 >>> ((16 : Int32) &&& 31).toUInt32).toInt32)) + x1) * (-1640531527 : Int32)))])) _
    refine XS.iushr X3.here hx rfl (hb hby d4_41) rfl ?_
    show Steps p.tables e below (T3.setTop (mkF m 42 #[.val (.ref a1), .val (.int ((((((3 : Int32) + x0) * (-1640531527 : Int32)) ^^^ (((((3 : Int32) + x0) * (-1640531527 : Int32)).toUInt32 >>> ((16 : Int32) &&& 31).toUInt32).toInt32)) + x1) * (-1640531527 : Int32))), .val (.ref a2), .val (.int (3 : Int32)), .val (.int (1 : Int32)), .val (.int x1)] [(.int ((((((((3 : Int32) + x0) * (-1640531527 : Int32)) ^^^ (((((3 : Int32) + x0) * (-1640531527 : Int32)).toUInt32 >>> ((16 : Int32) &&& 31).toUInt32).toInt32)) + x1) * (-1640531527 : Int32)).toUInt32 >>> ((16 : Int32) &&& 31).toUInt32).toInt32)), (.int ((((((3 : Int32) + x0) * (-1640531527 : Int32)) ^^^ (((((3 : Int32) + x0) * (-1640531527 : Int32)).toUInt32 >>> ((16 : Int32) &&& 31).toUInt32).toInt32)) + x1) * (-1640531527 : Int32)))])) _
    refine XS.ixor X3.here hx rfl (hb hby d4_42) rfl ?_
    show Steps p.tables e below (T3.setTop (mkF m 43 #[.val (.ref a1), .val (.int ((((((3 : Int32) + x0) * (-1640531527 : Int32)) ^^^ (((((3 : Int32) + x0) * (-1640531527 : Int32)).toUInt32 >>> ((16 : Int32) &&& 31).toUInt32).toInt32)) + x1) * (-1640531527 : Int32))), .val (.ref a2), .val (.int (3 : Int32)), .val (.int (1 : Int32)), .val (.int x1)] [(.int (((((((3 : Int32) + x0) * (-1640531527 : Int32)) ^^^ (((((3 : Int32) + x0) * (-1640531527 : Int32)).toUInt32 >>> ((16 : Int32) &&& 31).toUInt32).toInt32)) + x1) * (-1640531527 : Int32)) ^^^ ((((((((3 : Int32) + x0) * (-1640531527 : Int32)) ^^^ (((((3 : Int32) + x0) * (-1640531527 : Int32)).toUInt32 >>> ((16 : Int32) &&& 31).toUInt32).toInt32)) + x1) * (-1640531527 : Int32)).toUInt32 >>> ((16 : Int32) &&& 31).toUInt32).toInt32)))])) _
    refine XS.istoreN X3.here hx rfl (hb hby d4_43) rfl (l' := #[.val (.ref a1), .val (.int (((((((3 : Int32) + x0) * (-1640531527 : Int32)) ^^^ (((((3 : Int32) + x0) * (-1640531527 : Int32)).toUInt32 >>> ((16 : Int32) &&& 31).toUInt32).toInt32)) + x1) * (-1640531527 : Int32)) ^^^ ((((((((3 : Int32) + x0) * (-1640531527 : Int32)) ^^^ (((((3 : Int32) + x0) * (-1640531527 : Int32)).toUInt32 >>> ((16 : Int32) &&& 31).toUInt32).toInt32)) + x1) * (-1640531527 : Int32)).toUInt32 >>> ((16 : Int32) &&& 31).toUInt32).toInt32))), .val (.ref a2), .val (.int (3 : Int32)), .val (.int (1 : Int32)), .val (.int x1)]) rfl ?_
    show Steps p.tables e below (T3.setTop (mkF m 44 #[.val (.ref a1), .val (.int (((((((3 : Int32) + x0) * (-1640531527 : Int32)) ^^^ (((((3 : Int32) + x0) * (-1640531527 : Int32)).toUInt32 >>> ((16 : Int32) &&& 31).toUInt32).toInt32)) + x1) * (-1640531527 : Int32)) ^^^ ((((((((3 : Int32) + x0) * (-1640531527 : Int32)) ^^^ (((((3 : Int32) + x0) * (-1640531527 : Int32)).toUInt32 >>> ((16 : Int32) &&& 31).toUInt32).toInt32)) + x1) * (-1640531527 : Int32)).toUInt32 >>> ((16 : Int32) &&& 31).toUInt32).toInt32))), .val (.ref a2), .val (.int (3 : Int32)), .val (.int (1 : Int32)), .val (.int x1)] [])) _
    refine XS.iinc X3.here hx rfl (hb hby d4_44) rfl (l' := #[.val (.ref a1), .val (.int (((((((3 : Int32) + x0) * (-1640531527 : Int32)) ^^^ (((((3 : Int32) + x0) * (-1640531527 : Int32)).toUInt32 >>> ((16 : Int32) &&& 31).toUInt32).toInt32)) + x1) * (-1640531527 : Int32)) ^^^ ((((((((3 : Int32) + x0) * (-1640531527 : Int32)) ^^^ (((((3 : Int32) + x0) * (-1640531527 : Int32)).toUInt32 >>> ((16 : Int32) &&& 31).toUInt32).toInt32)) + x1) * (-1640531527 : Int32)).toUInt32 >>> ((16 : Int32) &&& 31).toUInt32).toInt32))), .val (.ref a2), .val (.int (3 : Int32)), .val (.int (2 : Int32)), .val (.int x1)]) rfl ?_
    show Steps p.tables e below (T3.setTop (mkF m 47 #[.val (.ref a1), .val (.int (((((((3 : Int32) + x0) * (-1640531527 : Int32)) ^^^ (((((3 : Int32) + x0) * (-1640531527 : Int32)).toUInt32 >>> ((16 : Int32) &&& 31).toUInt32).toInt32)) + x1) * (-1640531527 : Int32)) ^^^ ((((((((3 : Int32) + x0) * (-1640531527 : Int32)) ^^^ (((((3 : Int32) + x0) * (-1640531527 : Int32)).toUInt32 >>> ((16 : Int32) &&& 31).toUInt32).toInt32)) + x1) * (-1640531527 : Int32)).toUInt32 >>> ((16 : Int32) &&& 31).toUInt32).toInt32))), .val (.ref a2), .val (.int (3 : Int32)), .val (.int (2 : Int32)), .val (.int x1)] [])) _
    refine XS.goto X3.here hx rfl (pc0 := 47) (pc' := 17) rfl (hb hby d4_47) (by decide) (by decide) ?_
    show Steps p.tables e below (T3.setTop (mkF m 17 #[.val (.ref a1), .val (.int (((((((3 : Int32) + x0) * (-1640531527 : Int32)) ^^^ (((((3 : Int32) + x0) * (-1640531527 : Int32)).toUInt32 >>> ((16 : Int32) &&& 31).toUInt32).toInt32)) + x1) * (-1640531527 : Int32)) ^^^ ((((((((3 : Int32) + x0) * (-1640531527 : Int32)) ^^^ (((((3 : Int32) + x0) * (-1640531527 : Int32)).toUInt32 >>> ((16 : Int32) &&& 31).toUInt32).toInt32)) + x1) * (-1640531527 : Int32)).toUInt32 >>> ((16 : Int32) &&& 31).toUInt32).toInt32))), .val (.ref a2), .val (.int (3 : Int32)), .val (.int (2 : Int32)), .val (.int x1)] [])) _
    refine XS.iload X3.here hx rfl (hb hby d4_17) rfl ?_
    show Steps p.tables e below (T3.setTop (mkF m 19 #[.val (.ref a1), .val (.int (((((((3 : Int32) + x0) * (-1640531527 : Int32)) ^^^ (((((3 : Int32) + x0) * (-1640531527 : Int32)).toUInt32 >>> ((16 : Int32) &&& 31).toUInt32).toInt32)) + x1) * (-1640531527 : Int32)) ^^^ ((((((((3 : Int32) + x0) * (-1640531527 : Int32)) ^^^ (((((3 : Int32) + x0) * (-1640531527 : Int32)).toUInt32 >>> ((16 : Int32) &&& 31).toUInt32).toInt32)) + x1) * (-1640531527 : Int32)).toUInt32 >>> ((16 : Int32) &&& 31).toUInt32).toInt32))), .val (.ref a2), .val (.int (3 : Int32)), .val (.int (2 : Int32)), .val (.int x1)] [(.int (2 : Int32))])) _
    refine XS.iloadN X3.here hx rfl (hb hby d4_19) rfl ?_
    show Steps p.tables e below (T3.setTop (mkF m 20 #[.val (.ref a1), .val (.int (((((((3 : Int32) + x0) * (-1640531527 : Int32)) ^^^ (((((3 : Int32) + x0) * (-1640531527 : Int32)).toUInt32 >>> ((16 : Int32) &&& 31).toUInt32).toInt32)) + x1) * (-1640531527 : Int32)) ^^^ ((((((((3 : Int32) + x0) * (-1640531527 : Int32)) ^^^ (((((3 : Int32) + x0) * (-1640531527 : Int32)).toUInt32 >>> ((16 : Int32) &&& 31).toUInt32).toInt32)) + x1) * (-1640531527 : Int32)).toUInt32 >>> ((16 : Int32) &&& 31).toUInt32).toInt32))), .val (.ref a2), .val (.int (3 : Int32)), .val (.int (2 : Int32)), .val (.int x1)] [(.int (3 : Int32)), (.int (2 : Int32))])) _
    refine XS.icmpNo X3.here hx rfl (hb hby d4_20) rfl (tlt (by decide : (2 : Int32) < (3 : Int32))).2.1 ?_
    show Steps p.tables e below (T3.setTop (mkF m 23 #[.val (.ref a1), .val (.int (((((((3 : Int32) + x0) * (-1640531527 : Int32)) ^^^ (((((3 : Int32) + x0) * (-1640531527 : Int32)).toUInt32 >>> ((16 : Int32) &&& 31).toUInt32).toInt32)) + x1) * (-1640531527 : Int32)) ^^^ ((((((((3 : Int32) + x0) * (-1640531527 : Int32)) ^^^ (((((3 : Int32) + x0) * (-1640531527 : Int32)).toUInt32 >>> ((16 : Int32) &&& 31).toUInt32).toInt32)) + x1) * (-1640531527 : Int32)).toUInt32 >>> ((16 : Int32) &&& 31).toUInt32).toInt32))), .val (.ref a2), .val (.int (3 : Int32)), .val (.int (2 : Int32)), .val (.int x1)] [])) _
    refine XS.aloadN X3.here hx rfl (hb hby d4_23) rfl rfl ?_
    show Steps p.tables e below (T3.setTop (mkF m 24 #[.val (.ref a1), .val (.int (((((((3 : Int32) + x0) * (-1640531527 : Int32)) ^^^ (((((3 : Int32) + x0) * (-1640531527 : Int32)).toUInt32 >>> ((16 : Int32) &&& 31).toUInt32).toInt32)) + x1) * (-1640531527 : Int32)) ^^^ ((((((((3 : Int32) + x0) * (-1640531527 : Int32)) ^^^ (((((3 : Int32) + x0) * (-1640531527 : Int32)).toUInt32 >>> ((16 : Int32) &&& 31).toUInt32).toInt32)) + x1) * (-1640531527 : Int32)).toUInt32 >>> ((16 : Int32) &&& 31).toUInt32).toInt32))), .val (.ref a2), .val (.int (3 : Int32)), .val (.int (2 : Int32)), .val (.int x1)] [(.ref a2)])) _
    refine XS.iload X3.here hx rfl (hb hby d4_24) rfl ?_
    show Steps p.tables e below (T3.setTop (mkF m 26 #[.val (.ref a1), .val (.int (((((((3 : Int32) + x0) * (-1640531527 : Int32)) ^^^ (((((3 : Int32) + x0) * (-1640531527 : Int32)).toUInt32 >>> ((16 : Int32) &&& 31).toUInt32).toInt32)) + x1) * (-1640531527 : Int32)) ^^^ ((((((((3 : Int32) + x0) * (-1640531527 : Int32)) ^^^ (((((3 : Int32) + x0) * (-1640531527 : Int32)).toUInt32 >>> ((16 : Int32) &&& 31).toUInt32).toInt32)) + x1) * (-1640531527 : Int32)).toUInt32 >>> ((16 : Int32) &&& 31).toUInt32).toInt32))), .val (.ref a2), .val (.int (3 : Int32)), .val (.int (2 : Int32)), .val (.int x1)] [(.int (2 : Int32)), (.ref a2)])) _
    refine X3.iaload hx (j := (2 : Int32)) (v := (.int x2)) (by rw [e3]; exact Aro7.1) (State.isArrayOf_alike hZ.alike Aro7.2.1) Aro7.2.2 hino7 hato7 (g := (mkF m 26 #[.val (.ref a1), .val (.int (((((((3 : Int32) + x0) * (-1640531527 : Int32)) ^^^ (((((3 : Int32) + x0) * (-1640531527 : Int32)).toUInt32 >>> ((16 : Int32) &&& 31).toUInt32).toInt32)) + x1) * (-1640531527 : Int32)) ^^^ ((((((((3 : Int32) + x0) * (-1640531527 : Int32)) ^^^ (((((3 : Int32) + x0) * (-1640531527 : Int32)).toUInt32 >>> ((16 : Int32) &&& 31).toUInt32).toInt32)) + x1) * (-1640531527 : Int32)).toUInt32 >>> ((16 : Int32) &&& 31).toUInt32).toInt32))), .val (.ref a2), .val (.int (3 : Int32)), .val (.int (2 : Int32)), .val (.int x1)] [(.int (2 : Int32)), (.ref a2)])) rfl rfl (hb hby d4_26) _ ?_
    show Steps p.tables e below (T3.setTop (mkF m 27 #[.val (.ref a1), .val (.int (((((((3 : Int32) + x0) * (-1640531527 : Int32)) ^^^ (((((3 : Int32) + x0) * (-1640531527 : Int32)).toUInt32 >>> ((16 : Int32) &&& 31).toUInt32).toInt32)) + x1) * (-1640531527 : Int32)) ^^^ ((((((((3 : Int32) + x0) * (-1640531527 : Int32)) ^^^ (((((3 : Int32) + x0) * (-1640531527 : Int32)).toUInt32 >>> ((16 : Int32) &&& 31).toUInt32).toInt32)) + x1) * (-1640531527 : Int32)).toUInt32 >>> ((16 : Int32) &&& 31).toUInt32).toInt32))), .val (.ref a2), .val (.int (3 : Int32)), .val (.int (2 : Int32)), .val (.int x1)] [(.int x2)])) _
    refine XS.istore X3.here hx rfl (hb hby d4_27) rfl (l' := #[.val (.ref a1), .val (.int (((((((3 : Int32) + x0) * (-1640531527 : Int32)) ^^^ (((((3 : Int32) + x0) * (-1640531527 : Int32)).toUInt32 >>> ((16 : Int32) &&& 31).toUInt32).toInt32)) + x1) * (-1640531527 : Int32)) ^^^ ((((((((3 : Int32) + x0) * (-1640531527 : Int32)) ^^^ (((((3 : Int32) + x0) * (-1640531527 : Int32)).toUInt32 >>> ((16 : Int32) &&& 31).toUInt32).toInt32)) + x1) * (-1640531527 : Int32)).toUInt32 >>> ((16 : Int32) &&& 31).toUInt32).toInt32))), .val (.ref a2), .val (.int (3 : Int32)), .val (.int (2 : Int32)), .val (.int x2)]) rfl ?_
    show Steps p.tables e below (T3.setTop (mkF m 29 #[.val (.ref a1), .val (.int (((((((3 : Int32) + x0) * (-1640531527 : Int32)) ^^^ (((((3 : Int32) + x0) * (-1640531527 : Int32)).toUInt32 >>> ((16 : Int32) &&& 31).toUInt32).toInt32)) + x1) * (-1640531527 : Int32)) ^^^ ((((((((3 : Int32) + x0) * (-1640531527 : Int32)) ^^^ (((((3 : Int32) + x0) * (-1640531527 : Int32)).toUInt32 >>> ((16 : Int32) &&& 31).toUInt32).toInt32)) + x1) * (-1640531527 : Int32)).toUInt32 >>> ((16 : Int32) &&& 31).toUInt32).toInt32))), .val (.ref a2), .val (.int (3 : Int32)), .val (.int (2 : Int32)), .val (.int x2)] [])) _
    refine XS.iloadN X3.here hx rfl (hb hby d4_29) rfl ?_
    show Steps p.tables e below (T3.setTop (mkF m 30 #[.val (.ref a1), .val (.int (((((((3 : Int32) + x0) * (-1640531527 : Int32)) ^^^ (((((3 : Int32) + x0) * (-1640531527 : Int32)).toUInt32 >>> ((16 : Int32) &&& 31).toUInt32).toInt32)) + x1) * (-1640531527 : Int32)) ^^^ ((((((((3 : Int32) + x0) * (-1640531527 : Int32)) ^^^ (((((3 : Int32) + x0) * (-1640531527 : Int32)).toUInt32 >>> ((16 : Int32) &&& 31).toUInt32).toInt32)) + x1) * (-1640531527 : Int32)).toUInt32 >>> ((16 : Int32) &&& 31).toUInt32).toInt32))), .val (.ref a2), .val (.int (3 : Int32)), .val (.int (2 : Int32)), .val (.int x2)] [(.int (((((((3 : Int32) + x0) * (-1640531527 : Int32)) ^^^ (((((3 : Int32) + x0) * (-1640531527 : Int32)).toUInt32 >>> ((16 : Int32) &&& 31).toUInt32).toInt32)) + x1) * (-1640531527 : Int32)) ^^^ ((((((((3 : Int32) + x0) * (-1640531527 : Int32)) ^^^ (((((3 : Int32) + x0) * (-1640531527 : Int32)).toUInt32 >>> ((16 : Int32) &&& 31).toUInt32).toInt32)) + x1) * (-1640531527 : Int32)).toUInt32 >>> ((16 : Int32) &&& 31).toUInt32).toInt32)))])) _
    refine XS.iload X3.here hx rfl (hb hby d4_30) rfl ?_
    show Steps p.tables e below (T3.setTop (mkF m 32 #[.val (.ref a1), .val (.int (((((((3 : Int32) + x0) * (-1640531527 : Int32)) ^^^ (((((3 : Int32) + x0) * (-1640531527 : Int32)).toUInt32 >>> ((16 : Int32) &&& 31).toUInt32).toInt32)) + x1) * (-1640531527 : Int32)) ^^^ ((((((((3 : Int32) + x0) * (-1640531527 : Int32)) ^^^ (((((3 : Int32) + x0) * (-1640531527 : Int32)).toUInt32 >>> ((16 : Int32) &&& 31).toUInt32).toInt32)) + x1) * (-1640531527 : Int32)).toUInt32 >>> ((16 : Int32) &&& 31).toUInt32).toInt32))), .val (.ref a2), .val (.int (3 : Int32)), .val (.int (2 : Int32)), .val (.int x2)] [(.int x2), (.int (((((((3 : Int32) + x0) * (-1640531527 : Int32)) ^^^ (((((3 : Int32) + x0) * (-1640531527 : Int32)).toUInt32 >>> ((16 : Int32) &&& 31).toUInt32).toInt32)) + x1) * (-1640531527 : Int32)) ^^^ ((((((((3 : Int32) + x0) * (-1640531527 : Int32)) ^^^ (((((3 : Int32) + x0) * (-1640531527 : Int32)).toUInt32 >>> ((16 : Int32) &&& 31).toUInt32).toInt32)) + x1) * (-1640531527 : Int32)).toUInt32 >>> ((16 : Int32) &&& 31).toUInt32).toInt32)))])) _
    refine XS.iadd X3.here hx rfl (hb hby d4_32) rfl ?_
    show Steps p.tables e below (T3.setTop (mkF m 33 #[.val (.ref a1), .val (.int (((((((3 : Int32) + x0) * (-1640531527 : Int32)) ^^^ (((((3 : Int32) + x0) * (-1640531527 : Int32)).toUInt32 >>> ((16 : Int32) &&& 31).toUInt32).toInt32)) + x1) * (-1640531527 : Int32)) ^^^ ((((((((3 : Int32) + x0) * (-1640531527 : Int32)) ^^^ (((((3 : Int32) + x0) * (-1640531527 : Int32)).toUInt32 >>> ((16 : Int32) &&& 31).toUInt32).toInt32)) + x1) * (-1640531527 : Int32)).toUInt32 >>> ((16 : Int32) &&& 31).toUInt32).toInt32))), .val (.ref a2), .val (.int (3 : Int32)), .val (.int (2 : Int32)), .val (.int x2)] [(.int ((((((((3 : Int32) + x0) * (-1640531527 : Int32)) ^^^ (((((3 : Int32) + x0) * (-1640531527 : Int32)).toUInt32 >>> ((16 : Int32) &&& 31).toUInt32).toInt32)) + x1) * (-1640531527 : Int32)) ^^^ ((((((((3 : Int32) + x0) * (-1640531527 : Int32)) ^^^ (((((3 : Int32) + x0) * (-1640531527 : Int32)).toUInt32 >>> ((16 : Int32) &&& 31).toUInt32).toInt32)) + x1) * (-1640531527 : Int32)).toUInt32 >>> ((16 : Int32) &&& 31).toUInt32).toInt32)) + x2))])) _
    refine X3.ldcInt hx hown (mvT hZ (hw _ (List.mem_of_getElem? (i := 23) rfl))) (g := (mkF m 33 #[.val (.ref a1), .val (.int (((((((3 : Int32) + x0) * (-1640531527 : Int32)) ^^^ (((((3 : Int32) + x0) * (-1640531527 : Int32)).toUInt32 >>> ((16 : Int32) &&& 31).toUInt32).toInt32)) + x1) * (-1640531527 : Int32)) ^^^ ((((((((3 : Int32) + x0) * (-1640531527 : Int32)) ^^^ (((((3 : Int32) + x0) * (-1640531527 : Int32)).toUInt32 >>> ((16 : Int32) &&& 31).toUInt32).toInt32)) + x1) * (-1640531527 : Int32)).toUInt32 >>> ((16 : Int32) &&& 31).toUInt32).toInt32))), .val (.ref a2), .val (.int (3 : Int32)), .val (.int (2 : Int32)), .val (.int x2)] [(.int ((((((((3 : Int32) + x0) * (-1640531527 : Int32)) ^^^ (((((3 : Int32) + x0) * (-1640531527 : Int32)).toUInt32 >>> ((16 : Int32) &&& 31).toUInt32).toInt32)) + x1) * (-1640531527 : Int32)) ^^^ ((((((((3 : Int32) + x0) * (-1640531527 : Int32)) ^^^ (((((3 : Int32) + x0) * (-1640531527 : Int32)).toUInt32 >>> ((16 : Int32) &&& 31).toUInt32).toInt32)) + x1) * (-1640531527 : Int32)).toUInt32 >>> ((16 : Int32) &&& 31).toUInt32).toInt32)) + x2))])) rfl (hb hby d4_33) _ ?_
    show Steps p.tables e below (T3.setTop (mkF m 35 #[.val (.ref a1), .val (.int (((((((3 : Int32) + x0) * (-1640531527 : Int32)) ^^^ (((((3 : Int32) + x0) * (-1640531527 : Int32)).toUInt32 >>> ((16 : Int32) &&& 31).toUInt32).toInt32)) + x1) * (-1640531527 : Int32)) ^^^ ((((((((3 : Int32) + x0) * (-1640531527 : Int32)) ^^^ (((((3 : Int32) + x0) * (-1640531527 : Int32)).toUInt32 >>> ((16 : Int32) &&& 31).toUInt32).toInt32)) + x1) * (-1640531527 : Int32)).toUInt32 >>> ((16 : Int32) &&& 31).toUInt32).toInt32))), .val (.ref a2), .val (.int (3 : Int32)), .val (.int (2 : Int32)), .val (.int x2)] [(.int (-1640531527 : Int32)), (.int ((((((((3 : Int32) + x0) * (-1640531527 : Int32)) ^^^ (((((3 : Int32) + x0) * (-1640531527 : Int32)).toUInt32 >>> ((16 : Int32) &&& 31).toUInt32).toInt32)) + x1) * (-1640531527 : Int32)) ^^^ ((((((((3 : Int32) + x0) * (-1640531527 : Int32)) ^^^ (((((3 : Int32) + x0) * (-1640531527 : Int32)).toUInt32 >>> ((16 : Int32) &&& 31).toUInt32).toInt32)) + x1) * (-1640531527 : Int32)).toUInt32 >>> ((16 : Int32) &&& 31).toUInt32).toInt32)) + x2))])) _
    refine XS.imul X3.here hx rfl (hb hby d4_35) rfl ?_
    show Steps p.tables e below (T3.setTop (mkF m 36 #[.val (.ref a1), .val (.int (((((((3 : Int32) + x0) * (-1640531527 : Int32)) ^^^ (((((3 : Int32) + x0) * (-1640531527 : Int32)).toUInt32 >>> ((16 : Int32) &&& 31).toUInt32).toInt32)) + x1) * (-1640531527 : Int32)) ^^^ ((((((((3 : Int32) + x0) * (-1640531527 : Int32)) ^^^ (((((3 : Int32) + x0) * (-1640531527 : Int32)).toUInt32 >>> ((16 : Int32) &&& 31).toUInt32).toInt32)) + x1) * (-1640531527 : Int32)).toUInt32 >>> ((16 : Int32) &&& 31).toUInt32).toInt32))), .val (.ref a2), .val (.int (3 : Int32)), .val (.int (2 : Int32)), .val (.int x2)] [(.int (((((((((3 : Int32) + x0) * (-1640531527 : Int32)) ^^^ (((((3 : Int32) + x0) * (-1640531527 : Int32)).toUInt32 >>> ((16 : Int32) &&& 31).toUInt32).toInt32)) + x1) * (-1640531527 : Int32)) ^^^ ((((((((3 : Int32) + x0) * (-1640531527 : Int32)) ^^^ (((((3 : Int32) + x0) * (-1640531527 : Int32)).toUInt32 >>> ((16 : Int32) &&& 31).toUInt32).toInt32)) + x1) * (-1640531527 : Int32)).toUInt32 >>> ((16 : Int32) &&& 31).toUInt32).toInt32)) + x2) * (-1640531527 : Int32)))])) _
    refine XS.istoreN X3.here hx rfl (hb hby d4_36) rfl (l' := #[.val (.ref a1), .val (.int (((((((((3 : Int32) + x0) * (-1640531527 : Int32)) ^^^ (((((3 : Int32) + x0) * (-1640531527 : Int32)).toUInt32 >>> ((16 : Int32) &&& 31).toUInt32).toInt32)) + x1) * (-1640531527 : Int32)) ^^^ ((((((((3 : Int32) + x0) * (-1640531527 : Int32)) ^^^ (((((3 : Int32) + x0) * (-1640531527 : Int32)).toUInt32 >>> ((16 : Int32) &&& 31).toUInt32).toInt32)) + x1) * (-1640531527 : Int32)).toUInt32 >>> ((16 : Int32) &&& 31).toUInt32).toInt32)) + x2) * (-1640531527 : Int32))), .val (.ref a2), .val (.int (3 : Int32)), .val (.int (2 : Int32)), .val (.int x2)]) rfl ?_
    show Steps p.tables e below (T3.setTop (mkF m 37 #[.val (.ref a1), .val (.int (((((((((3 : Int32) + x0) * (-1640531527 : Int32)) ^^^ (((((3 : Int32) + x0) * (-1640531527 : Int32)).toUInt32 >>> ((16 : Int32) &&& 31).toUInt32).toInt32)) + x1) * (-1640531527 : Int32)) ^^^ ((((((((3 : Int32) + x0) * (-1640531527 : Int32)) ^^^ (((((3 : Int32) + x0) * (-1640531527 : Int32)).toUInt32 >>> ((16 : Int32) &&& 31).toUInt32).toInt32)) + x1) * (-1640531527 : Int32)).toUInt32 >>> ((16 : Int32) &&& 31).toUInt32).toInt32)) + x2) * (-1640531527 : Int32))), .val (.ref a2), .val (.int (3 : Int32)), .val (.int (2 : Int32)), .val (.int x2)] [])) _
    refine XS.iloadN X3.here hx rfl (hb hby d4_37) rfl ?_
    show Steps p.tables e below (T3.setTop (mkF m 38 #[.val (.ref a1), .val (.int (((((((((3 : Int32) + x0) * (-1640531527 : Int32)) ^^^ (((((3 : Int32) + x0) * (-1640531527 : Int32)).toUInt32 >>> ((16 : Int32) &&& 31).toUInt32).toInt32)) + x1) * (-1640531527 : Int32)) ^^^ ((((((((3 : Int32) + x0) * (-1640531527 : Int32)) ^^^ (((((3 : Int32) + x0) * (-1640531527 : Int32)).toUInt32 >>> ((16 : Int32) &&& 31).toUInt32).toInt32)) + x1) * (-1640531527 : Int32)).toUInt32 >>> ((16 : Int32) &&& 31).toUInt32).toInt32)) + x2) * (-1640531527 : Int32))), .val (.ref a2), .val (.int (3 : Int32)), .val (.int (2 : Int32)), .val (.int x2)] [(.int (((((((((3 : Int32) + x0) * (-1640531527 : Int32)) ^^^ (((((3 : Int32) + x0) * (-1640531527 : Int32)).toUInt32 >>> ((16 : Int32) &&& 31).toUInt32).toInt32)) + x1) * (-1640531527 : Int32)) ^^^ ((((((((3 : Int32) + x0) * (-1640531527 : Int32)) ^^^ (((((3 : Int32) + x0) * (-1640531527 : Int32)).toUInt32 >>> ((16 : Int32) &&& 31).toUInt32).toInt32)) + x1) * (-1640531527 : Int32)).toUInt32 >>> ((16 : Int32) &&& 31).toUInt32).toInt32)) + x2) * (-1640531527 : Int32)))])) _
    refine XS.iloadN X3.here hx rfl (hb hby d4_38) rfl ?_
    show Steps p.tables e below (T3.setTop (mkF m 39 #[.val (.ref a1), .val (.int (((((((((3 : Int32) + x0) * (-1640531527 : Int32)) ^^^ (((((3 : Int32) + x0) * (-1640531527 : Int32)).toUInt32 >>> ((16 : Int32) &&& 31).toUInt32).toInt32)) + x1) * (-1640531527 : Int32)) ^^^ ((((((((3 : Int32) + x0) * (-1640531527 : Int32)) ^^^ (((((3 : Int32) + x0) * (-1640531527 : Int32)).toUInt32 >>> ((16 : Int32) &&& 31).toUInt32).toInt32)) + x1) * (-1640531527 : Int32)).toUInt32 >>> ((16 : Int32) &&& 31).toUInt32).toInt32)) + x2) * (-1640531527 : Int32))), .val (.ref a2), .val (.int (3 : Int32)), .val (.int (2 : Int32)), .val (.int x2)] [(.int (((((((((3 : Int32) + x0) * (-1640531527 : Int32)) ^^^ (((((3 : Int32) + x0) * (-1640531527 : Int32)).toUInt32 >>> ((16 : Int32) &&& 31).toUInt32).toInt32)) + x1) * (-1640531527 : Int32)) ^^^ ((((((((3 : Int32) + x0) * (-1640531527 : Int32)) ^^^ (((((3 : Int32) + x0) * (-1640531527 : Int32)).toUInt32 >>> ((16 : Int32) &&& 31).toUInt32).toInt32)) + x1) * (-1640531527 : Int32)).toUInt32 >>> ((16 : Int32) &&& 31).toUInt32).toInt32)) + x2) * (-1640531527 : Int32))), (.int (((((((((3 : Int32) + x0) * (-1640531527 : Int32)) ^^^ (((((3 : Int32) + x0) * (-1640531527 : Int32)).toUInt32 >>> ((16 : Int32) &&& 31).toUInt32).toInt32)) + x1) * (-1640531527 : Int32)) ^^^ ((((((((3 : Int32) + x0) * (-1640531527 : Int32)) ^^^ (((((3 : Int32) + x0) * (-1640531527 : Int32)).toUInt32 >>> ((16 : Int32) &&& 31).toUInt32).toInt32)) + x1) * (-1640531527 : Int32)).toUInt32 >>> ((16 : Int32) &&& 31).toUInt32).toInt32)) + x2) * (-1640531527 : Int32)))])) _
    refine XS.bipush X3.here hx rfl (hb hby d4_39) ?_
    show Steps p.tables e below (T3.setTop (mkF m 41 #[.val (.ref a1), .val (.int (((((((((3 : Int32) + x0) * (-1640531527 : Int32)) ^^^ (((((3 : Int32) + x0) * (-1640531527 : Int32)).toUInt32 >>> ((16 : Int32) &&& 31).toUInt32).toInt32)) + x1) * (-1640531527 : Int32)) ^^^ ((((((((3 : Int32) + x0) * (-1640531527 : Int32)) ^^^ (((((3 : Int32) + x0) * (-1640531527 : Int32)).toUInt32 >>> ((16 : Int32) &&& 31).toUInt32).toInt32)) + x1) * (-1640531527 : Int32)).toUInt32 >>> ((16 : Int32) &&& 31).toUInt32).toInt32)) + x2) * (-1640531527 : Int32))), .val (.ref a2), .val (.int (3 : Int32)), .val (.int (2 : Int32)), .val (.int x2)] [(.int (16 : Int32)), (.int (((((((((3 : Int32) + x0) * (-1640531527 : Int32)) ^^^ (((((3 : Int32) + x0) * (-1640531527 : Int32)).toUInt32 >>> ((16 : Int32) &&& 31).toUInt32).toInt32)) + x1) * (-1640531527 : Int32)) ^^^ ((((((((3 : Int32) + x0) * (-1640531527 : Int32)) ^^^ (((((3 : Int32) + x0) * (-1640531527 : Int32)).toUInt32 >>> ((16 : Int32) &&& 31).toUInt32).toInt32)) + x1) * (-1640531527 : Int32)).toUInt32 >>> ((16 : Int32) &&& 31).toUInt32).toInt32)) + x2) * (-1640531527 : Int32))), (.int (((((((((3 : Int32) + x0) * (-1640531527 : Int32)) ^^^ (((((3 : Int32) + x0) * (-1640531527 : Int32)).toUInt32 >>> ((16 : Int32) &&& 31).toUInt32).toInt32)) + x1) * (-1640531527 : Int32)) ^^^ ((((((((3 : Int32) + x0) * (-1640531527 : Int32)) ^^^ (((((3 : Int32) + x0) * (-1640531527 : Int32)).toUInt32 >>> ((16 : Int32) &&& 31).toUInt32).toInt32)) + x1) * (-1640531527 : Int32)).toUInt32 >>> ((16 : Int32) &&& 31).toUInt32).toInt32)) + x2) * (-1640531527 : Int32)))])) _
    refine XS.iushr X3.here hx rfl (hb hby d4_41) rfl ?_
    show Steps p.tables e below (T3.setTop (mkF m 42 #[.val (.ref a1), .val (.int (((((((((3 : Int32) + x0) * (-1640531527 : Int32)) ^^^ (((((3 : Int32) + x0) * (-1640531527 : Int32)).toUInt32 >>> ((16 : Int32) &&& 31).toUInt32).toInt32)) + x1) * (-1640531527 : Int32)) ^^^ ((((((((3 : Int32) + x0) * (-1640531527 : Int32)) ^^^ (((((3 : Int32) + x0) * (-1640531527 : Int32)).toUInt32 >>> ((16 : Int32) &&& 31).toUInt32).toInt32)) + x1) * (-1640531527 : Int32)).toUInt32 >>> ((16 : Int32) &&& 31).toUInt32).toInt32)) + x2) * (-1640531527 : Int32))), .val (.ref a2), .val (.int (3 : Int32)), .val (.int (2 : Int32)), .val (.int x2)] [(.int (((((((((((3 : Int32) + x0) * (-1640531527 : Int32)) ^^^ (((((3 : Int32) + x0) * (-1640531527 : Int32)).toUInt32 >>> ((16 : Int32) &&& 31).toUInt32).toInt32)) + x1) * (-1640531527 : Int32)) ^^^ ((((((((3 : Int32) + x0) * (-1640531527 : Int32)) ^^^ (((((3 : Int32) + x0) * (-1640531527 : Int32)).toUInt32 >>> ((16 : Int32) &&& 31).toUInt32).toInt32)) + x1) * (-1640531527 : Int32)).toUInt32 >>> ((16 : Int32) &&& 31).toUInt32).toInt32)) + x2) * (-1640531527 : Int32)).toUInt32 >>> ((16 : Int32) &&& 31).toUInt32).toInt32)), (.int (((((((((3 : Int32) + x0) * (-1640531527 : Int32)) ^^^ (((((3 : Int32) + x0) * (-1640531527 : Int32)).toUInt32 >>> ((16 : Int32) &&& 31).toUInt32).toInt32)) + x1) * (-1640531527 : Int32)) ^^^ ((((((((3 : Int32) + x0) * (-1640531527 : Int32)) ^^^ (((((3 : Int32) + x0) * (-1640531527 : Int32)).toUInt32 >>> ((16 : Int32) &&& 31).toUInt32).toInt32)) + x1) * (-1640531527 : Int32)).toUInt32 >>> ((16 : Int32) &&& 31).toUInt32).toInt32)) + x2) * (-1640531527 : Int32)))])) _
    refine XS.ixor X3.here hx rfl (hb hby d4_42) rfl ?_
    show Steps p.tables e below (T3.setTop (mkF m 43 #[.val (.ref a1), .val (.int (((((((((3 : Int32) + x0) * (-1640531527 : Int32)) ^^^ (((((3 : Int32) + x0) * (-1640531527 : Int32)).toUInt32 >>> ((16 : Int32) &&& 31).toUInt32).toInt32)) + x1) * (-1640531527 : Int32)) ^^^ ((((((((3 : Int32) + x0) * (-1640531527 : Int32)) ^^^ (((((3 : Int32) + x0) * (-1640531527 : Int32)).toUInt32 >>> ((16 : Int32) &&& 31).toUInt32).toInt32)) + x1) * (-1640531527 : Int32)).toUInt32 >>> ((16 : Int32) &&& 31).toUInt32).toInt32)) + x2) * (-1640531527 : Int32))), .val (.ref a2), .val (.int (3 : Int32)), .val (.int (2 : Int32)), .val (.int x2)] [(.int ((((((((((3 : Int32) + x0) * (-1640531527 : Int32)) ^^^ (((((3 : Int32) + x0) * (-1640531527 : Int32)).toUInt32 >>> ((16 : Int32) &&& 31).toUInt32).toInt32)) + x1) * (-1640531527 : Int32)) ^^^ ((((((((3 : Int32) + x0) * (-1640531527 : Int32)) ^^^ (((((3 : Int32) + x0) * (-1640531527 : Int32)).toUInt32 >>> ((16 : Int32) &&& 31).toUInt32).toInt32)) + x1) * (-1640531527 : Int32)).toUInt32 >>> ((16 : Int32) &&& 31).toUInt32).toInt32)) + x2) * (-1640531527 : Int32)) ^^^ (((((((((((3 : Int32) + x0) * (-1640531527 : Int32)) ^^^ (((((3 : Int32) + x0) * (-1640531527 : Int32)).toUInt32 >>> ((16 : Int32) &&& 31).toUInt32).toInt32)) + x1) * (-1640531527 : Int32)) ^^^ ((((((((3 : Int32) + x0) * (-1640531527 : Int32)) ^^^ (((((3 : Int32) + x0) * (-1640531527 : Int32)).toUInt32 >>> ((16 : Int32) &&& 31).toUInt32).toInt32)) + x1) * (-1640531527 : Int32)).toUInt32 >>> ((16 : Int32) &&& 31).toUInt32).toInt32)) + x2) * (-1640531527 : Int32)).toUInt32 >>> ((16 : Int32) &&& 31).toUInt32).toInt32)))])) _
    refine XS.istoreN X3.here hx rfl (hb hby d4_43) rfl (l' := #[.val (.ref a1), .val (.int ((((((((((3 : Int32) + x0) * (-1640531527 : Int32)) ^^^ (((((3 : Int32) + x0) * (-1640531527 : Int32)).toUInt32 >>> ((16 : Int32) &&& 31).toUInt32).toInt32)) + x1) * (-1640531527 : Int32)) ^^^ ((((((((3 : Int32) + x0) * (-1640531527 : Int32)) ^^^ (((((3 : Int32) + x0) * (-1640531527 : Int32)).toUInt32 >>> ((16 : Int32) &&& 31).toUInt32).toInt32)) + x1) * (-1640531527 : Int32)).toUInt32 >>> ((16 : Int32) &&& 31).toUInt32).toInt32)) + x2) * (-1640531527 : Int32)) ^^^ (((((((((((3 : Int32) + x0) * (-1640531527 : Int32)) ^^^ (((((3 : Int32) + x0) * (-1640531527 : Int32)).toUInt32 >>> ((16 : Int32) &&& 31).toUInt32).toInt32)) + x1) * (-1640531527 : Int32)) ^^^ ((((((((3 : Int32) + x0) * (-1640531527 : Int32)) ^^^ (((((3 : Int32) + x0) * (-1640531527 : Int32)).toUInt32 >>> ((16 : Int32) &&& 31).toUInt32).toInt32)) + x1) * (-1640531527 : Int32)).toUInt32 >>> ((16 : Int32) &&& 31).toUInt32).toInt32)) + x2) * (-1640531527 : Int32)).toUInt32 >>> ((16 : Int32) &&& 31).toUInt32).toInt32))), .val (.ref a2), .val (.int (3 : Int32)), .val (.int (2 : Int32)), .val (.int x2)]) rfl ?_
    show Steps p.tables e below (T3.setTop (mkF m 44 #[.val (.ref a1), .val (.int ((((((((((3 : Int32) + x0) * (-1640531527 : Int32)) ^^^ (((((3 : Int32) + x0) * (-1640531527 : Int32)).toUInt32 >>> ((16 : Int32) &&& 31).toUInt32).toInt32)) + x1) * (-1640531527 : Int32)) ^^^ ((((((((3 : Int32) + x0) * (-1640531527 : Int32)) ^^^ (((((3 : Int32) + x0) * (-1640531527 : Int32)).toUInt32 >>> ((16 : Int32) &&& 31).toUInt32).toInt32)) + x1) * (-1640531527 : Int32)).toUInt32 >>> ((16 : Int32) &&& 31).toUInt32).toInt32)) + x2) * (-1640531527 : Int32)) ^^^ (((((((((((3 : Int32) + x0) * (-1640531527 : Int32)) ^^^ (((((3 : Int32) + x0) * (-1640531527 : Int32)).toUInt32 >>> ((16 : Int32) &&& 31).toUInt32).toInt32)) + x1) * (-1640531527 : Int32)) ^^^ ((((((((3 : Int32) + x0) * (-1640531527 : Int32)) ^^^ (((((3 : Int32) + x0) * (-1640531527 : Int32)).toUInt32 >>> ((16 : Int32) &&& 31).toUInt32).toInt32)) + x1) * (-1640531527 : Int32)).toUInt32 >>> ((16 : Int32) &&& 31).toUInt32).toInt32)) + x2) * (-1640531527 : Int32)).toUInt32 >>> ((16 : Int32) &&& 31).toUInt32).toInt32))), .val (.ref a2), .val (.int (3 : Int32)), .val (.int (2 : Int32)), .val (.int x2)] [])) _
    refine XS.iinc X3.here hx rfl (hb hby d4_44) rfl (l' := #[.val (.ref a1), .val (.int ((((((((((3 : Int32) + x0) * (-1640531527 : Int32)) ^^^ (((((3 : Int32) + x0) * (-1640531527 : Int32)).toUInt32 >>> ((16 : Int32) &&& 31).toUInt32).toInt32)) + x1) * (-1640531527 : Int32)) ^^^ ((((((((3 : Int32) + x0) * (-1640531527 : Int32)) ^^^ (((((3 : Int32) + x0) * (-1640531527 : Int32)).toUInt32 >>> ((16 : Int32) &&& 31).toUInt32).toInt32)) + x1) * (-1640531527 : Int32)).toUInt32 >>> ((16 : Int32) &&& 31).toUInt32).toInt32)) + x2) * (-1640531527 : Int32)) ^^^ (((((((((((3 : Int32) + x0) * (-1640531527 : Int32)) ^^^ (((((3 : Int32) + x0) * (-1640531527 : Int32)).toUInt32 >>> ((16 : Int32) &&& 31).toUInt32).toInt32)) + x1) * (-1640531527 : Int32)) ^^^ ((((((((3 : Int32) + x0) * (-1640531527 : Int32)) ^^^ (((((3 : Int32) + x0) * (-1640531527 : Int32)).toUInt32 >>> ((16 : Int32) &&& 31).toUInt32).toInt32)) + x1) * (-1640531527 : Int32)).toUInt32 >>> ((16 : Int32) &&& 31).toUInt32).toInt32)) + x2) * (-1640531527 : Int32)).toUInt32 >>> ((16 : Int32) &&& 31).toUInt32).toInt32))), .val (.ref a2), .val (.int (3 : Int32)), .val (.int (3 : Int32)), .val (.int x2)]) rfl ?_
    show Steps p.tables e below (T3.setTop (mkF m 47 #[.val (.ref a1), .val (.int ((((((((((3 : Int32) + x0) * (-1640531527 : Int32)) ^^^ (((((3 : Int32) + x0) * (-1640531527 : Int32)).toUInt32 >>> ((16 : Int32) &&& 31).toUInt32).toInt32)) + x1) * (-1640531527 : Int32)) ^^^ ((((((((3 : Int32) + x0) * (-1640531527 : Int32)) ^^^ (((((3 : Int32) + x0) * (-1640531527 : Int32)).toUInt32 >>> ((16 : Int32) &&& 31).toUInt32).toInt32)) + x1) * (-1640531527 : Int32)).toUInt32 >>> ((16 : Int32) &&& 31).toUInt32).toInt32)) + x2) * (-1640531527 : Int32)) ^^^ (((((((((((3 : Int32) + x0) * (-1640531527 : Int32)) ^^^ (((((3 : Int32) + x0) * (-1640531527 : Int32)).toUInt32 >>> ((16 : Int32) &&& 31).toUInt32).toInt32)) + x1) * (-1640531527 : Int32)) ^^^ ((((((((3 : Int32) + x0) * (-1640531527 : Int32)) ^^^ (((((3 : Int32) + x0) * (-1640531527 : Int32)).toUInt32 >>> ((16 : Int32) &&& 31).toUInt32).toInt32)) + x1) * (-1640531527 : Int32)).toUInt32 >>> ((16 : Int32) &&& 31).toUInt32).toInt32)) + x2) * (-1640531527 : Int32)).toUInt32 >>> ((16 : Int32) &&& 31).toUInt32).toInt32))), .val (.ref a2), .val (.int (3 : Int32)), .val (.int (3 : Int32)), .val (.int x2)] [])) _
    refine XS.goto X3.here hx rfl (pc0 := 47) (pc' := 17) rfl (hb hby d4_47) (by decide) (by decide) ?_
    show Steps p.tables e below (T3.setTop (mkF m 17 #[.val (.ref a1), .val (.int ((((((((((3 : Int32) + x0) * (-1640531527 : Int32)) ^^^ (((((3 : Int32) + x0) * (-1640531527 : Int32)).toUInt32 >>> ((16 : Int32) &&& 31).toUInt32).toInt32)) + x1) * (-1640531527 : Int32)) ^^^ ((((((((3 : Int32) + x0) * (-1640531527 : Int32)) ^^^ (((((3 : Int32) + x0) * (-1640531527 : Int32)).toUInt32 >>> ((16 : Int32) &&& 31).toUInt32).toInt32)) + x1) * (-1640531527 : Int32)).toUInt32 >>> ((16 : Int32) &&& 31).toUInt32).toInt32)) + x2) * (-1640531527 : Int32)) ^^^ (((((((((((3 : Int32) + x0) * (-1640531527 : Int32)) ^^^ (((((3 : Int32) + x0) * (-1640531527 : Int32)).toUInt32 >>> ((16 : Int32) &&& 31).toUInt32).toInt32)) + x1) * (-1640531527 : Int32)) ^^^ ((((((((3 : Int32) + x0) * (-1640531527 : Int32)) ^^^ (((((3 : Int32) + x0) * (-1640531527 : Int32)).toUInt32 >>> ((16 : Int32) &&& 31).toUInt32).toInt32)) + x1) * (-1640531527 : Int32)).toUInt32 >>> ((16 : Int32) &&& 31).toUInt32).toInt32)) + x2) * (-1640531527 : Int32)).toUInt32 >>> ((16 : Int32) &&& 31).toUInt32).toInt32))), .val (.ref a2), .val (.int (3 : Int32)), .val (.int (3 : Int32)), .val (.int x2)] [])) _
    refine XS.iload X3.here hx rfl (hb hby d4_17) rfl ?_
    show Steps p.tables e below (T3.setTop (mkF m 19 #[.val (.ref a1), .val (.int ((((((((((3 : Int32) + x0) * (-1640531527 : Int32)) ^^^ (((((3 : Int32) + x0) * (-1640531527 : Int32)).toUInt32 >>> ((16 : Int32) &&& 31).toUInt32).toInt32)) + x1) * (-1640531527 : Int32)) ^^^ ((((((((3 : Int32) + x0) * (-1640531527 : Int32)) ^^^ (((((3 : Int32) + x0) * (-1640531527 : Int32)).toUInt32 >>> ((16 : Int32) &&& 31).toUInt32).toInt32)) + x1) * (-1640531527 : Int32)).toUInt32 >>> ((16 : Int32) &&& 31).toUInt32).toInt32)) + x2) * (-1640531527 : Int32)) ^^^ (((((((((((3 : Int32) + x0) * (-1640531527 : Int32)) ^^^ (((((3 : Int32) + x0) * (-1640531527 : Int32)).toUInt32 >>> ((16 : Int32) &&& 31).toUInt32).toInt32)) + x1) * (-1640531527 : Int32)) ^^^ ((((((((3 : Int32) + x0) * (-1640531527 : Int32)) ^^^ (((((3 : Int32) + x0) * (-1640531527 : Int32)).toUInt32 >>> ((16 : Int32) &&& 31).toUInt32).toInt32)) + x1) * (-1640531527 : Int32)).toUInt32 >>> ((16 : Int32) &&& 31).toUInt32).toInt32)) + x2) * (-1640531527 : Int32)).toUInt32 >>> ((16 : Int32) &&& 31).toUInt32).toInt32))), .val (.ref a2), .val (.int (3 : Int32)), .val (.int (3 : Int32)), .val (.int x2)] [(.int (3 : Int32))])) _
    refine XS.iloadN X3.here hx rfl (hb hby d4_19) rfl ?_
    show Steps p.tables e below (T3.setTop (mkF m 20 #[.val (.ref a1), .val (.int ((((((((((3 : Int32) + x0) * (-1640531527 : Int32)) ^^^ (((((3 : Int32) + x0) * (-1640531527 : Int32)).toUInt32 >>> ((16 : Int32) &&& 31).toUInt32).toInt32)) + x1) * (-1640531527 : Int32)) ^^^ ((((((((3 : Int32) + x0) * (-1640531527 : Int32)) ^^^ (((((3 : Int32) + x0) * (-1640531527 : Int32)).toUInt32 >>> ((16 : Int32) &&& 31).toUInt32).toInt32)) + x1) * (-1640531527 : Int32)).toUInt32 >>> ((16 : Int32) &&& 31).toUInt32).toInt32)) + x2) * (-1640531527 : Int32)) ^^^ (((((((((((3 : Int32) + x0) * (-1640531527 : Int32)) ^^^ (((((3 : Int32) + x0) * (-1640531527 : Int32)).toUInt32 >>> ((16 : Int32) &&& 31).toUInt32).toInt32)) + x1) * (-1640531527 : Int32)) ^^^ ((((((((3 : Int32) + x0) * (-1640531527 : Int32)) ^^^ (((((3 : Int32) + x0) * (-1640531527 : Int32)).toUInt32 >>> ((16 : Int32) &&& 31).toUInt32).toInt32)) + x1) * (-1640531527 : Int32)).toUInt32 >>> ((16 : Int32) &&& 31).toUInt32).toInt32)) + x2) * (-1640531527 : Int32)).toUInt32 >>> ((16 : Int32) &&& 31).toUInt32).toInt32))), .val (.ref a2), .val (.int (3 : Int32)), .val (.int (3 : Int32)), .val (.int x2)] [(.int (3 : Int32)), (.int (3 : Int32))])) _
    refine XS.icmpYes X3.here hx rfl (pc0 := 20) (pc' := 50) rfl (hb hby d4_20) rfl (flt (by decide : ¬ ((3 : Int32) < (3 : Int32)))).2.1 (by decide) (by decide) ?_
    show Steps p.tables e below (T3.setTop (mkF m 50 #[.val (.ref a1), .val (.int ((((((((((3 : Int32) + x0) * (-1640531527 : Int32)) ^^^ (((((3 : Int32) + x0) * (-1640531527 : Int32)).toUInt32 >>> ((16 : Int32) &&& 31).toUInt32).toInt32)) + x1) * (-1640531527 : Int32)) ^^^ ((((((((3 : Int32) + x0) * (-1640531527 : Int32)) ^^^ (((((3 : Int32) + x0) * (-1640531527 : Int32)).toUInt32 >>> ((16 : Int32) &&& 31).toUInt32).toInt32)) + x1) * (-1640531527 : Int32)).toUInt32 >>> ((16 : Int32) &&& 31).toUInt32).toInt32)) + x2) * (-1640531527 : Int32)) ^^^ (((((((((((3 : Int32) + x0) * (-1640531527 : Int32)) ^^^ (((((3 : Int32) + x0) * (-1640531527 : Int32)).toUInt32 >>> ((16 : Int32) &&& 31).toUInt32).toInt32)) + x1) * (-1640531527 : Int32)) ^^^ ((((((((3 : Int32) + x0) * (-1640531527 : Int32)) ^^^ (((((3 : Int32) + x0) * (-1640531527 : Int32)).toUInt32 >>> ((16 : Int32) &&& 31).toUInt32).toInt32)) + x1) * (-1640531527 : Int32)).toUInt32 >>> ((16 : Int32) &&& 31).toUInt32).toInt32)) + x2) * (-1640531527 : Int32)).toUInt32 >>> ((16 : Int32) &&& 31).toUInt32).toInt32))), .val (.ref a2), .val (.int (3 : Int32)), .val (.int (3 : Int32)), .val (.int x2)] [])) _
    refine XS.iloadN X3.here hx rfl (hb hby d4_50) rfl ?_
    show Steps p.tables e below (T3.setTop (mkF m 51 #[.val (.ref a1), .val (.int ((((((((((3 : Int32) + x0) * (-1640531527 : Int32)) ^^^ (((((3 : Int32) + x0) * (-1640531527 : Int32)).toUInt32 >>> ((16 : Int32) &&& 31).toUInt32).toInt32)) + x1) * (-1640531527 : Int32)) ^^^ ((((((((3 : Int32) + x0) * (-1640531527 : Int32)) ^^^ (((((3 : Int32) + x0) * (-1640531527 : Int32)).toUInt32 >>> ((16 : Int32) &&& 31).toUInt32).toInt32)) + x1) * (-1640531527 : Int32)).toUInt32 >>> ((16 : Int32) &&& 31).toUInt32).toInt32)) + x2) * (-1640531527 : Int32)) ^^^ (((((((((((3 : Int32) + x0) * (-1640531527 : Int32)) ^^^ (((((3 : Int32) + x0) * (-1640531527 : Int32)).toUInt32 >>> ((16 : Int32) &&& 31).toUInt32).toInt32)) + x1) * (-1640531527 : Int32)) ^^^ ((((((((3 : Int32) + x0) * (-1640531527 : Int32)) ^^^ (((((3 : Int32) + x0) * (-1640531527 : Int32)).toUInt32 >>> ((16 : Int32) &&& 31).toUInt32).toInt32)) + x1) * (-1640531527 : Int32)).toUInt32 >>> ((16 : Int32) &&& 31).toUInt32).toInt32)) + x2) * (-1640531527 : Int32)).toUInt32 >>> ((16 : Int32) &&& 31).toUInt32).toInt32))), .val (.ref a2), .val (.int (3 : Int32)), .val (.int (3 : Int32)), .val (.int x2)] [(.int ((((((((((3 : Int32) + x0) * (-1640531527 : Int32)) ^^^ (((((3 : Int32) + x0) * (-1640531527 : Int32)).toUInt32 >>> ((16 : Int32) &&& 31).toUInt32).toInt32)) + x1) * (-1640531527 : Int32)) ^^^ ((((((((3 : Int32) + x0) * (-1640531527 : Int32)) ^^^ (((((3 : Int32) + x0) * (-1640531527 : Int32)).toUInt32 >>> ((16 : Int32) &&& 31).toUInt32).toInt32)) + x1) * (-1640531527 : Int32)).toUInt32 >>> ((16 : Int32) &&& 31).toUInt32).toInt32)) + x2) * (-1640531527 : Int32)) ^^^ (((((((((((3 : Int32) + x0) * (-1640531527 : Int32)) ^^^ (((((3 : Int32) + x0) * (-1640531527 : Int32)).toUInt32 >>> ((16 : Int32) &&& 31).toUInt32).toInt32)) + x1) * (-1640531527 : Int32)) ^^^ ((((((((3 : Int32) + x0) * (-1640531527 : Int32)) ^^^ (((((3 : Int32) + x0) * (-1640531527 : Int32)).toUInt32 >>> ((16 : Int32) &&& 31).toUInt32).toInt32)) + x1) * (-1640531527 : Int32)).toUInt32 >>> ((16 : Int32) &&& 31).toUInt32).toInt32)) + x2) * (-1640531527 : Int32)).toUInt32 >>> ((16 : Int32) &&& 31).toUInt32).toInt32)))])) _
    exact retI X3 hx Bd.returns (hb hby d4_51) hr
  ·
    show Qhc3 Z a1 a2 ka x0 x1 x2 h0 n0 _ T3.heap _
    rw [e3]
    exact ⟨rfl, N0, rfl⟩
theorem pn_0 : plainName "com/example/hedge/hedge/analysis/IntArrayKeyHashCodePinLaw" = true := by first | (simp [plainName, overriddenIn]; done) | decide +kernel
theorem pd___I : parseMethodDescriptor "()I" = some ⟨[], some .int⟩ := by decide +kernel
theorem pd___I_V : parseMethodDescriptor "([I)V" = some ⟨[(.array .int)], none⟩ := by decide +kernel
theorem ef_0 (m : MethodId) (p0 : Int32) (p1 : Int32) (p2 : Int32) (p3 : Int32) (p4 : Int32) (p5 : Int32) : entryFrame m #[(.int p0), (.int p1), (.int p2), (.int p3), (.int p4), (.int p5)] maxLocals = (mkF m 0 #[.val (.int p0), .val (.int p1), .val (.int p2), .val (.int p3), .val (.int p4), .val (.int p5), .unset, .unset, .unset, .unset, .unset, .unset] []) := by first | (simp [entryFrame, mkF, argsToLocals, Value.category, maxLocals]; done) | rfl
def Q0 (Z : State) (p0 : Int32) (p1 : Int32) (p2 : Int32) (p3 : Int32) (p4 : Int32) (p5 : Int32) (h0 : Heap) (n0 : Nat) (v : Option Value) (h : Heap) (L : List Loc) : Prop := v = some (.int 1) ∧ Fr n0 L
set_option maxRecDepth 65536 in
set_option maxHeartbeats 40000000 in
theorem rm0 (l : Launch) (Z : State) (a0 : Array Value) (hw : ∀ d ∈ tables_1, d.before a0 Z = true) (ws : List Jvm.Cond) (p0 : Int32) (p1 : Int32) (p2 : Int32) (p3 : Int32) (p4 : Int32) (p5 : Int32) (h0 : Heap) (n0 : Nat) (Z0 : n0 ≤ h0.size) :
    MetFree l x (head1 (Jvm.Cond.code x code maxLocals ret :: ws) room_1) (fun a U => a = #[(.int p0), (.int p1), (.int p2), (.int p3), (.int p4), (.int p5)] ∧ Z.Warmed39 U.vm ∧ U.heap = h0) (fun _ _ _ _ _ => True) (fun _ U o U' => ∃ v L, o = .returned v ∧ Q0 Z p0 p1 p2 p3 p4 p5 h0 n0 v U'.heap L ∧ FrameEnd U o U' L 4 8) := by
  refine MetFree.of_bodySF (plainFor_of_name pn_0) hisR ?_
  intro p e s m args below meth c s₁ Bd hml0 hP hK
  obtain ⟨rfl, hZ, hh⟩ := hP
  have hx := Bd.exec
  have hby := Bd.bytes
  have hml : c.maxLocals = 12 := hml0
  have hown : s.vm.findClass "com/example/hedge/hedge/analysis/IntArrayKeyHashCodePinLaw" = some m.cls := findClass_of_methodNamed Bd.named
  have hnm := (name_of_methodNamed Bd.named Bd.method).1
  have X0 : Stand p l e room_1 s m #[(.int p0), (.int p1), (.int p2), (.int p3), (.int p4), (.int p5)] below meth c s₁ [] 0 0 := Stand.of_body Bd
  have e0 : s₁.heap = h0 := by rw [← hh, Bd.state]; rfl
  have N0 := Fr.nil n0
  have K0 := Keep.refl h0 ([] : List Addr)
  have pre0 : ∀ t, Steps p.tables e below (s₁.setTop (mkF m 0 #[.val (.int p0), .val (.int p1), .val (.int p2), .val (.int p3), .val (.int p4), .val (.int p5), .unset, .unset, .unset, .unset, .unset, .unset] [])) t → Steps p.tables e below (s₁.setTop (entryFrame m #[(.int p0), (.int p1), (.int p2), (.int p3), (.int p4), (.int p5)] maxLocals)) t := fun t k => castTop (ef_0 m p0 p1 p2 p3 p4 p5) k
  obtain ⟨nv1, hnv1⟩ : ∃ z, z = (p0 &&& (3 : Int32)) := ⟨_, rfl⟩
  have pre2 : ∀ t, Steps p.tables e below (s₁.setTop (mkF m 3 #[.val (.int p0), .val (.int p1), .val (.int p2), .val (.int p3), .val (.int p4), .val (.int p5), .unset, .unset, .unset, .unset, .unset, .unset] [(.int nv1)])) t → Steps p.tables e below (s₁.setTop (entryFrame m #[(.int p0), (.int p1), (.int p2), (.int p3), (.int p4), (.int p5)] maxLocals)) t := by
    intro t kt
    rw [hnv1] at kt
    refine pre0 _ ?_
    show Steps p.tables e below (s₁.setTop (mkF m 0 #[.val (.int p0), .val (.int p1), .val (.int p2), .val (.int p3), .val (.int p4), .val (.int p5), .unset, .unset, .unset, .unset, .unset, .unset] [])) _
    refine XS.iloadN X0.here hx rfl (hb hby at_0) rfl ?_
    show Steps p.tables e below (s₁.setTop (mkF m 1 #[.val (.int p0), .val (.int p1), .val (.int p2), .val (.int p3), .val (.int p4), .val (.int p5), .unset, .unset, .unset, .unset, .unset, .unset] [(.int p0)])) _
    refine XS.iconst X0.here hx rfl (hb hby at_1) ?_
    show Steps p.tables e below (s₁.setTop (mkF m 2 #[.val (.int p0), .val (.int p1), .val (.int p2), .val (.int p3), .val (.int p4), .val (.int p5), .unset, .unset, .unset, .unset, .unset, .unset] [(.int (3 : Int32)), (.int p0)])) _
    refine XS.iand X0.here hx rfl (hb hby at_2) rfl ?_
    show Steps p.tables e below (s₁.setTop (mkF m 3 #[.val (.int p0), .val (.int p1), .val (.int p2), .val (.int p3), .val (.int p4), .val (.int p5), .unset, .unset, .unset, .unset, .unset, .unset] [(.int (p0 &&& (3 : Int32)))])) _
    exact kt
  have pre3 : ∀ t, Steps p.tables e below (s₁.setTop (mkF m 5 #[.val (.int p0), .val (.int p1), .val (.int p2), .val (.int p3), .val (.int p4), .val (.int p5), .val (.int nv1), .unset, .unset, .unset, .unset, .unset] [])) t → Steps p.tables e below (s₁.setTop (entryFrame m #[(.int p0), (.int p1), (.int p2), (.int p3), (.int p4), (.int p5)] maxLocals)) t := by
    intro t kt
    refine pre2 _ ?_
    show Steps p.tables e below (s₁.setTop (mkF m 3 #[.val (.int p0), .val (.int p1), .val (.int p2), .val (.int p3), .val (.int p4), .val (.int p5), .unset, .unset, .unset, .unset, .unset, .unset] [(.int nv1)])) _
    refine XS.istore X0.here hx rfl (hb hby at_3) rfl (l' := #[.val (.int p0), .val (.int p1), .val (.int p2), .val (.int p3), .val (.int p4), .val (.int p5), .val (.int nv1), .unset, .unset, .unset, .unset, .unset]) rfl ?_
    show Steps p.tables e below (s₁.setTop (mkF m 5 #[.val (.int p0), .val (.int p1), .val (.int p2), .val (.int p3), .val (.int p4), .val (.int p5), .val (.int nv1), .unset, .unset, .unset, .unset, .unset] [])) _
    exact kt
  rcases own_n4 hnv1 with q | q | q | q
  ·
    subst q
    obtain ⟨T4, h4, k4, X4, e4, E4, A4, st4⟩ := newP X0 hx hZ (hw _ (List.mem_of_getElem? (i := 0) rfl)) e0 (g := (mkF m 7 #[.val (.int p0), .val (.int p1), .val (.int p2), .val (.int p3), .val (.int p4), .val (.int p5), .val (.int (0 : Int32)), .unset, .unset, .unset, .unset, .unset] [(.int (0 : Int32))])) rfl (hb hby at_7) rfl (by decide) (cap := 0) (by decide) (by decide) (by decide) (by decide)
    obtain ⟨b4, g4⟩ : ∃ z, z = h0.size := ⟨_, rfl⟩
    rw [← g4] at A4 st4
    have g_b4 : n0 ≤ b4 := Nat.le_trans (Nat.le_trans Z0 K0.1) (Nat.le_of_eq g4.symm)
    have sz_b4 : h0.size ≤ b4 := Nat.le_trans K0.1 (Nat.le_of_eq g4.symm)
    have K4 := K0.ext E4
    have V_b4 : Arv Z h4 b4 k4 .int (0 : Int32) [] (.int (0 : Int32)) := (Arv.new A4 (by decide)).pad (pad_rep [] (.int (0 : Int32)) 0)
    obtain ⟨T5, h5, k5, X5, e5, E5, A5, st5⟩ := newP X4 hx hZ (hw _ (List.mem_of_getElem? (i := 0) rfl)) e4 (g := (mkF m 13 #[.val (.int p0), .val (.int p1), .val (.int p2), .val (.int p3), .val (.int p4), .val (.int p5), .val (.int (0 : Int32)), .val (.ref b4), .unset, .unset, .unset, .unset] [(.int (0 : Int32))])) rfl (hb hby at_13) rfl (by decide) (cap := 0) (by decide) (by decide) (by decide) (by decide)
    obtain ⟨b5, g5⟩ : ∃ z, z = h4.size := ⟨_, rfl⟩
    rw [← g5] at A5 st5
    have g_b5 : n0 ≤ b5 := Nat.le_trans (Nat.le_trans Z0 K4.1) (Nat.le_of_eq g5.symm)
    have sz_b5 : h0.size ≤ b5 := Nat.le_trans K4.1 (Nat.le_of_eq g5.symm)
    have ne_b4_b5 : b4 ≠ b5 := Nat.ne_of_lt (Nat.lt_of_lt_of_le V_b4.lt (Nat.le_of_eq g5.symm))
    have K5 := K4.ext E5
    have V_b5 : Arv Z h5 b5 k5 .int (0 : Int32) [] (.int (0 : Int32)) := (Arv.new A5 (by decide)).pad (pad_rep [] (.int (0 : Int32)) 0)
    have c6 := (V_b4.ext E5)
    obtain ⟨T7, h7, X7, e7, E7, A7, D7, -, st7⟩ := newO X5 hx hZ hown (hw _ (List.mem_of_getElem? (i := 1) rfl)) (hw _ (List.mem_of_getElem? (i := 2) rfl)) (hw _ (List.mem_of_getElem? (i := 3) rfl)) e5 (g := (mkF m 107 #[.val (.int p0), .val (.int p1), .val (.int p2), .val (.int p3), .val (.int p4), .val (.int p5), .val (.int (0 : Int32)), .val (.ref b4), .val (.ref b5), .val (.int (1 : Int32)), .unset, .unset] [])) rfl (hb hby at_107) (by decide) (by decide)
    obtain ⟨b7, g7⟩ : ∃ z, z = h5.size := ⟨_, rfl⟩
    rw [← g7] at A7 D7 st7
    have g_b7 : n0 ≤ b7 := Nat.le_trans (Nat.le_trans Z0 K5.1) (Nat.le_of_eq g7.symm)
    have sz_b7 : h0.size ≤ b7 := Nat.le_trans K5.1 (Nat.le_of_eq g7.symm)
    have ne_b4_b7 : b4 ≠ b7 := Nat.ne_of_lt (Nat.lt_of_lt_of_le c6.lt (Nat.le_of_eq g7.symm))
    have ne_b5_b7 : b5 ≠ b7 := Nat.ne_of_lt (Nat.lt_of_lt_of_le V_b5.lt (Nat.le_of_eq g7.symm))
    have K7 := K5.ext E7
    have F_values_b7 : Fld Z h7 b7 "com/example/hedge/hedge/analysis/IntArrayKey" "values" "[I" .null := D7 (Or.inr (hw _ (List.mem_of_getElem? (i := 16) rfl))) (ty := (.array .int)) (by decide)
    obtain ⟨_, _, ⟨T8, L8, k8, n8⟩, -, X8, ⟨Lc8, hQ8, l8, y8, z8⟩, st8⟩ := X7.specialBack hx (y := (⟨"com/example/hedge/hedge/analysis/IntArrayKey", "<init>", "([I)V"⟩ : MethodName)) rfl hown (mvT hZ (hw _ (List.mem_of_getElem? (i := 4) rfl))) (mvT hZ (hw _ (List.mem_of_getElem? (i := 5) rfl))) (mvT hZ (hw _ (List.mem_of_getElem? (i := 6) rfl))) (by decide) (backOf (W := 1) (rm1 l Z a0 hw [] b7 b4 h7 n0 (Nat.le_trans Z0 K7.1) A7 F_values_b7 g_b7) hZ (hw _ (List.mem_of_getElem? (i := 6) rfl)) (hw _ (List.mem_of_getElem? (i := 3) rfl)) (by decide) (by decide)) (g := (mkF m 113 #[.val (.int p0), .val (.int p1), .val (.int p2), .val (.int p3), .val (.int p4), .val (.int p5), .val (.int (0 : Int32)), .val (.ref b4), .val (.ref b5), .val (.int (1 : Int32)), .unset, .unset] [(.ref b4), (.ref b7), (.ref b7)])) rfl (by rw [hml]; rfl) (Steps.refl _) (a := b7) (argsL := [(.ref b4)]) (rest := [(.ref b7)]) (lenOf pd___I_V rfl) rfl (by show 2 * 0 + _ ≤ _; exact Nat.le_of_eq rfl) (hb hby at_113) (fun _ _ => ⟨rfl, e7, (by decide : 3 + 0 ≤ _), (by decide : 1 + 0 ≤ _)⟩)
    dsimp only [Pt.U, Pt.locs, Pt.cells, Pt.slots] at X8 l8 y8 z8 st8 hQ8
    subst l8 y8 z8
    obtain ⟨rfl, N8q, kq8, fq8⟩ := hQ8
    have N8 := Fr.app N0 N8q
    have K8 := K7.trans kq8 (allS (Or.inr sz_b7) all0)
    have c10 := (A7.keep kq8)
    have c11 := ((c6.ext E7).keep kq8 (ninS ne_b4_b7 nin0))
    obtain ⟨cq9, kq9, q9a, q9b, q9c⟩ := isOf hZ rfl c10
    obtain ⟨_, _, ⟨T9, L9, k9, n9⟩, -, X9, ⟨Lc9, hQ9, l9, y9, z9⟩, st9⟩ := X8.virtualBack hx (y := (⟨"com/example/hedge/hedge/analysis/IntArrayKey", "hashCode", "()I"⟩ : MethodName)) (z := (⟨"com/example/hedge/hedge/analysis/IntArrayKey", "hashCode", "()I"⟩ : MethodName)) hown (mvT hZ (hw _ (List.mem_of_getElem? (i := 17) rfl))) (mvT hZ (hw _ (List.mem_of_getElem? (i := 18) rfl))) (notFace_of_selects (args := #[]) (mvT hZ (hw _ (List.mem_of_getElem? (i := 20) rfl)))) (mvT hZ (hw _ (List.mem_of_getElem? (i := 20) rfl))) (mvT hZ (hw _ (List.mem_of_getElem? (i := 19) rfl))) (by decide) (backOf (W := 0) (hc0 l Z a0 hw [] b7 b4 k4  T8.heap n0 (Nat.le_trans Z0 K8.1) fq8 c11) hZ (hw _ (List.mem_of_getElem? (i := 21) rfl)) (hw _ (List.mem_of_getElem? (i := 3) rfl)) (by decide) (by decide)) q9a q9c (g := (mkF m 116 #[.val (.int p0), .val (.int p1), .val (.int p2), .val (.int p3), .val (.int p4), .val (.int p5), .val (.int (0 : Int32)), .val (.ref b4), .val (.ref b5), .val (.int (1 : Int32)), .unset, .unset] [(.ref b7)])) rfl (by rw [hml]; rfl) (Steps.refl _) (argsL := []) (rest := []) (lenOf pd___I rfl) rfl (by show 2 * 0 + _ ≤ _; exact Nat.le_of_eq rfl) (hb hby at_116) (fun _ _ => ⟨rfl, rfl, (by decide : 3 + 0 ≤ _), (by decide : 1 + 0 ≤ _)⟩)
    dsimp only [Pt.U, Pt.locs, Pt.cells, Pt.slots] at X9 l9 y9 z9 st9 hQ9
    subst l9 y9 z9
    obtain ⟨rfl, N9q, hq9⟩ := hQ9
    have N9 := Fr.app N8 N9q
    have E9 : Ext T8.heap T9.heap := by rw [hq9]; exact ⟨Nat.le_refl _, fun _ _ q => q⟩
    have K9 := K8.ext E9
    have c12 := (c11.ext E9)
    have c13 := (((V_b5.ext E7).keep kq8 (ninS ne_b5_b7 nin0)).ext E9)
    have c14 := (c10.ext E9)
    obtain ⟨T15, h15, X15, e15, E15, A15, D15, -, st15⟩ := newO X9 hx hZ hown (hw _ (List.mem_of_getElem? (i := 1) rfl)) (hw _ (List.mem_of_getElem? (i := 2) rfl)) (hw _ (List.mem_of_getElem? (i := 3) rfl)) rfl (g := (mkF m 121 #[.val (.int p0), .val (.int p1), .val (.int p2), .val (.int p3), .val (.int p4), .val (.int p5), .val (.int (0 : Int32)), .val (.ref b4), .val (.ref b5), .val (.int (1 : Int32)), .val (.int (own_h0 )), .unset] [])) rfl (hb hby at_121) (by decide) (by decide)
    obtain ⟨b15, g15⟩ : ∃ z, z = T9.heap.size := ⟨_, rfl⟩
    rw [← g15] at A15 D15 st15
    have g_b15 : n0 ≤ b15 := Nat.le_trans (Nat.le_trans Z0 K9.1) (Nat.le_of_eq g15.symm)
    have sz_b15 : h0.size ≤ b15 := Nat.le_trans K9.1 (Nat.le_of_eq g15.symm)
    have ne_b4_b15 : b4 ≠ b15 := Nat.ne_of_lt (Nat.lt_of_lt_of_le c12.lt (Nat.le_of_eq g15.symm))
    have ne_b5_b15 : b5 ≠ b15 := Nat.ne_of_lt (Nat.lt_of_lt_of_le c13.lt (Nat.le_of_eq g15.symm))
    have ne_b7_b15 : b7 ≠ b15 := Nat.ne_of_lt (Nat.lt_of_lt_of_le c14.lt (Nat.le_of_eq g15.symm))
    have K15 := K9.ext E15
    have F_values_b15 : Fld Z h15 b15 "com/example/hedge/hedge/analysis/IntArrayKey" "values" "[I" .null := D15 (Or.inr (hw _ (List.mem_of_getElem? (i := 16) rfl))) (ty := (.array .int)) (by decide)
    obtain ⟨_, _, ⟨T16, L16, k16, n16⟩, -, X16, ⟨Lc16, hQ16, l16, y16, z16⟩, st16⟩ := X15.specialBack hx (y := (⟨"com/example/hedge/hedge/analysis/IntArrayKey", "<init>", "([I)V"⟩ : MethodName)) rfl hown (mvT hZ (hw _ (List.mem_of_getElem? (i := 4) rfl))) (mvT hZ (hw _ (List.mem_of_getElem? (i := 5) rfl))) (mvT hZ (hw _ (List.mem_of_getElem? (i := 6) rfl))) (by decide) (backOf (W := 1) (rm1 l Z a0 hw [] b15 b5 h15 n0 (Nat.le_trans Z0 K15.1) A15 F_values_b15 g_b15) hZ (hw _ (List.mem_of_getElem? (i := 6) rfl)) (hw _ (List.mem_of_getElem? (i := 3) rfl)) (by decide) (by decide)) (g := (mkF m 127 #[.val (.int p0), .val (.int p1), .val (.int p2), .val (.int p3), .val (.int p4), .val (.int p5), .val (.int (0 : Int32)), .val (.ref b4), .val (.ref b5), .val (.int (1 : Int32)), .val (.int (own_h0 )), .unset] [(.ref b5), (.ref b15), (.ref b15)])) rfl (by rw [hml]; rfl) (Steps.refl _) (a := b15) (argsL := [(.ref b5)]) (rest := [(.ref b15)]) (lenOf pd___I_V rfl) rfl (by show 2 * 0 + _ ≤ _; exact Nat.le_of_eq rfl) (hb hby at_127) (fun _ _ => ⟨rfl, e15, (by decide : 4 + 0 ≤ _), (by decide : 2 + 0 ≤ _)⟩)
    dsimp only [Pt.U, Pt.locs, Pt.cells, Pt.slots] at X16 l16 y16 z16 st16 hQ16
    subst l16 y16 z16
    obtain ⟨rfl, N16q, kq16, fq16⟩ := hQ16
    have N16 := Fr.app N9 N16q
    have K16 := K15.trans kq16 (allS (Or.inr sz_b15) all0)
    have c18 := (A15.keep kq16)
    have c19 := ((c13.ext E15).keep kq16 (ninS ne_b5_b15 nin0))
    obtain ⟨cq17, kq17, q17a, q17b, q17c⟩ := isOf hZ rfl c18
    obtain ⟨_, _, ⟨T17, L17, k17, n17⟩, -, X17, ⟨Lc17, hQ17, l17, y17, z17⟩, st17⟩ := X16.virtualBack hx (y := (⟨"com/example/hedge/hedge/analysis/IntArrayKey", "hashCode", "()I"⟩ : MethodName)) (z := (⟨"com/example/hedge/hedge/analysis/IntArrayKey", "hashCode", "()I"⟩ : MethodName)) hown (mvT hZ (hw _ (List.mem_of_getElem? (i := 17) rfl))) (mvT hZ (hw _ (List.mem_of_getElem? (i := 18) rfl))) (notFace_of_selects (args := #[]) (mvT hZ (hw _ (List.mem_of_getElem? (i := 20) rfl)))) (mvT hZ (hw _ (List.mem_of_getElem? (i := 20) rfl))) (mvT hZ (hw _ (List.mem_of_getElem? (i := 19) rfl))) (by decide) (backOf (W := 0) (hc0 l Z a0 hw [] b15 b5 k5  T16.heap n0 (Nat.le_trans Z0 K16.1) fq16 c19) hZ (hw _ (List.mem_of_getElem? (i := 21) rfl)) (hw _ (List.mem_of_getElem? (i := 3) rfl)) (by decide) (by decide)) q17a q17c (g := (mkF m 130 #[.val (.int p0), .val (.int p1), .val (.int p2), .val (.int p3), .val (.int p4), .val (.int p5), .val (.int (0 : Int32)), .val (.ref b4), .val (.ref b5), .val (.int (1 : Int32)), .val (.int (own_h0 )), .unset] [(.ref b15)])) rfl (by rw [hml]; rfl) (Steps.refl _) (argsL := []) (rest := []) (lenOf pd___I rfl) rfl (by show 2 * 0 + _ ≤ _; exact Nat.le_of_eq rfl) (hb hby at_130) (fun _ _ => ⟨rfl, rfl, (by decide : 4 + 0 ≤ _), (by decide : 2 + 0 ≤ _)⟩)
    dsimp only [Pt.U, Pt.locs, Pt.cells, Pt.slots] at X17 l17 y17 z17 st17 hQ17
    subst l17 y17 z17
    obtain ⟨rfl, N17q, hq17⟩ := hQ17
    have N17 := Fr.app N16 N17q
    have E17 : Ext T16.heap T17.heap := by rw [hq17]; exact ⟨Nat.le_refl _, fun _ _ q => q⟩
    have K17 := K16.ext E17
    obtain ⟨v21, hv21⟩ : ∃ z : Int32, z = if (own_h0 ) = (own_h0 ) then (1 : Int32) else (0 : Int32) := ⟨_, rfl⟩
    have mg22 : ∀ t, Steps p.tables e below (T17.setTop (mkF m 147 #[.val (.int p0), .val (.int p1), .val (.int p2), .val (.int p3), .val (.int p4), .val (.int p5), .val (.int (0 : Int32)), .val (.ref b4), .val (.ref b5), .val (.int (1 : Int32)), .val (.int (own_h0 )), .val (.int (own_h0 ))] [(.int v21)])) t → Steps p.tables e below (T17.setTop (mkF m 139 #[.val (.int p0), .val (.int p1), .val (.int p2), .val (.int p3), .val (.int p4), .val (.int p5), .val (.int (0 : Int32)), .val (.ref b4), .val (.ref b5), .val (.int (1 : Int32)), .val (.int (own_h0 )), .val (.int (own_h0 ))] [(.int (own_h0 )), (.int (own_h0 ))])) t := by
      intro t kt
      by_cases hm20 : (own_h0 ) = (own_h0 )
      ·
        have ev21 : v21 = (1 : Int32) := by rw [hv21, if_pos hm20]
        rw [ev21] at kt
        refine (fun t (k : Steps p.tables e below (T17.setTop (mkF m 139 #[.val (.int p0), .val (.int p1), .val (.int p2), .val (.int p3), .val (.int p4), .val (.int p5), .val (.int (0 : Int32)), .val (.ref b4), .val (.ref b5), .val (.int (1 : Int32)), .val (.int (own_h0 )), .val (.int (own_h0 ))] [(.int (own_h0 )), (.int (own_h0 ))])) t) => k) _ ?_
        refine XS.icmpNo X17.here hx rfl (hb hby at_139) rfl (teq hm20).2 ?_
        show Steps p.tables e below (T17.setTop (mkF m 142 #[.val (.int p0), .val (.int p1), .val (.int p2), .val (.int p3), .val (.int p4), .val (.int p5), .val (.int (0 : Int32)), .val (.ref b4), .val (.ref b5), .val (.int (1 : Int32)), .val (.int (own_h0 )), .val (.int (own_h0 ))] [])) _
        refine XS.iconst X17.here hx rfl (hb hby at_142) ?_
        show Steps p.tables e below (T17.setTop (mkF m 143 #[.val (.int p0), .val (.int p1), .val (.int p2), .val (.int p3), .val (.int p4), .val (.int p5), .val (.int (0 : Int32)), .val (.ref b4), .val (.ref b5), .val (.int (1 : Int32)), .val (.int (own_h0 )), .val (.int (own_h0 ))] [(.int (1 : Int32))])) _
        refine XS.goto X17.here hx rfl (pc0 := 143) (pc' := 147) rfl (hb hby at_143) (by decide) (by decide) ?_
        show Steps p.tables e below (T17.setTop (mkF m 147 #[.val (.int p0), .val (.int p1), .val (.int p2), .val (.int p3), .val (.int p4), .val (.int p5), .val (.int (0 : Int32)), .val (.ref b4), .val (.ref b5), .val (.int (1 : Int32)), .val (.int (own_h0 )), .val (.int (own_h0 ))] [(.int (1 : Int32))])) _
        exact kt
      ·
        have ev21 : v21 = (0 : Int32) := by rw [hv21, if_neg hm20]
        rw [ev21] at kt
        refine (fun t (k : Steps p.tables e below (T17.setTop (mkF m 139 #[.val (.int p0), .val (.int p1), .val (.int p2), .val (.int p3), .val (.int p4), .val (.int p5), .val (.int (0 : Int32)), .val (.ref b4), .val (.ref b5), .val (.int (1 : Int32)), .val (.int (own_h0 )), .val (.int (own_h0 ))] [(.int (own_h0 )), (.int (own_h0 ))])) t) => k) _ ?_
        refine XS.icmpYes X17.here hx rfl (pc0 := 139) (pc' := 146) rfl (hb hby at_139) rfl (feq hm20).2 (by decide) (by decide) ?_
        show Steps p.tables e below (T17.setTop (mkF m 146 #[.val (.int p0), .val (.int p1), .val (.int p2), .val (.int p3), .val (.int p4), .val (.int p5), .val (.int (0 : Int32)), .val (.ref b4), .val (.ref b5), .val (.int (1 : Int32)), .val (.int (own_h0 )), .val (.int (own_h0 ))] [])) _
        refine XS.iconst X17.here hx rfl (hb hby at_146) ?_
        show Steps p.tables e below (T17.setTop (mkF m 147 #[.val (.int p0), .val (.int p1), .val (.int p2), .val (.int p3), .val (.int p4), .val (.int p5), .val (.int (0 : Int32)), .val (.ref b4), .val (.ref b5), .val (.int (1 : Int32)), .val (.int (own_h0 )), .val (.int (own_h0 ))] [(.int (0 : Int32))])) _
        exact kt
    have hk23 : v21 = (1 : Int32) := by rw [hv21]; exact own_law_0
    obtain ⟨fs, hr, hrun, hended, hW, hsame⟩ := X17.leave (v := some (.int (1 : Int32))) (fun h => by rw [Bd.returns] at h; cases h)
    refine ⟨_, _, pre3 _ ?_, hrun, hended, _, _, rfl, ?_, ⟨_, rfl⟩, hW, hsame.mono (by decide) (by decide)⟩
    ·
      show Steps p.tables e below (s₁.setTop (mkF m 5 #[.val (.int p0), .val (.int p1), .val (.int p2), .val (.int p3), .val (.int p4), .val (.int p5), .val (.int (0 : Int32)), .unset, .unset, .unset, .unset, .unset] [])) _
      refine XS.iload X0.here hx rfl (hb hby at_5) rfl ?_
      show Steps p.tables e below (s₁.setTop (mkF m 7 #[.val (.int p0), .val (.int p1), .val (.int p2), .val (.int p3), .val (.int p4), .val (.int p5), .val (.int (0 : Int32)), .unset, .unset, .unset, .unset, .unset] [(.int (0 : Int32))])) _
      refine st4 _ ?_
      show Steps p.tables e below (T4.setTop (mkF m 9 #[.val (.int p0), .val (.int p1), .val (.int p2), .val (.int p3), .val (.int p4), .val (.int p5), .val (.int (0 : Int32)), .unset, .unset, .unset, .unset, .unset] [(.ref b4)])) _
      refine XS.astore X4.here hx rfl (hb hby at_9) rfl rfl (l' := #[.val (.int p0), .val (.int p1), .val (.int p2), .val (.int p3), .val (.int p4), .val (.int p5), .val (.int (0 : Int32)), .val (.ref b4), .unset, .unset, .unset, .unset]) rfl ?_
      show Steps p.tables e below (T4.setTop (mkF m 11 #[.val (.int p0), .val (.int p1), .val (.int p2), .val (.int p3), .val (.int p4), .val (.int p5), .val (.int (0 : Int32)), .val (.ref b4), .unset, .unset, .unset, .unset] [])) _
      refine XS.iload X4.here hx rfl (hb hby at_11) rfl ?_
      show Steps p.tables e below (T4.setTop (mkF m 13 #[.val (.int p0), .val (.int p1), .val (.int p2), .val (.int p3), .val (.int p4), .val (.int p5), .val (.int (0 : Int32)), .val (.ref b4), .unset, .unset, .unset, .unset] [(.int (0 : Int32))])) _
      refine st5 _ ?_
      show Steps p.tables e below (T5.setTop (mkF m 15 #[.val (.int p0), .val (.int p1), .val (.int p2), .val (.int p3), .val (.int p4), .val (.int p5), .val (.int (0 : Int32)), .val (.ref b4), .unset, .unset, .unset, .unset] [(.ref b5)])) _
      refine XS.astore X5.here hx rfl (hb hby at_15) rfl rfl (l' := #[.val (.int p0), .val (.int p1), .val (.int p2), .val (.int p3), .val (.int p4), .val (.int p5), .val (.int (0 : Int32)), .val (.ref b4), .val (.ref b5), .unset, .unset, .unset]) rfl ?_
      show Steps p.tables e below (T5.setTop (mkF m 17 #[.val (.int p0), .val (.int p1), .val (.int p2), .val (.int p3), .val (.int p4), .val (.int p5), .val (.int (0 : Int32)), .val (.ref b4), .val (.ref b5), .unset, .unset, .unset] [])) _
      refine XS.iload X5.here hx rfl (hb hby at_17) rfl ?_
      show Steps p.tables e below (T5.setTop (mkF m 19 #[.val (.int p0), .val (.int p1), .val (.int p2), .val (.int p3), .val (.int p4), .val (.int p5), .val (.int (0 : Int32)), .val (.ref b4), .val (.ref b5), .unset, .unset, .unset] [(.int (0 : Int32))])) _
      refine XS.ifYes X5.here hx rfl (pc0 := 19) (pc' := 32) rfl (hb hby at_19) rfl ((if0 _ _).trans (flt (by decide : ¬ ((0 : Int32) < (0 : Int32)))).2.2.2) (by decide) (by decide) ?_
      show Steps p.tables e below (T5.setTop (mkF m 32 #[.val (.int p0), .val (.int p1), .val (.int p2), .val (.int p3), .val (.int p4), .val (.int p5), .val (.int (0 : Int32)), .val (.ref b4), .val (.ref b5), .unset, .unset, .unset] [])) _
      refine XS.iload X5.here hx rfl (hb hby at_32) rfl ?_
      show Steps p.tables e below (T5.setTop (mkF m 34 #[.val (.int p0), .val (.int p1), .val (.int p2), .val (.int p3), .val (.int p4), .val (.int p5), .val (.int (0 : Int32)), .val (.ref b4), .val (.ref b5), .unset, .unset, .unset] [(.int (0 : Int32))])) _
      refine XS.iconst X5.here hx rfl (hb hby at_34) ?_
      show Steps p.tables e below (T5.setTop (mkF m 35 #[.val (.int p0), .val (.int p1), .val (.int p2), .val (.int p3), .val (.int p4), .val (.int p5), .val (.int (0 : Int32)), .val (.ref b4), .val (.ref b5), .unset, .unset, .unset] [(.int (1 : Int32)), (.int (0 : Int32))])) _
      refine XS.icmpYes X5.here hx rfl (pc0 := 35) (pc' := 48) rfl (hb hby at_35) rfl (flt (by decide : ¬ ((1 : Int32) < (0 : Int32)))).2.2.2 (by decide) (by decide) ?_
      show Steps p.tables e below (T5.setTop (mkF m 48 #[.val (.int p0), .val (.int p1), .val (.int p2), .val (.int p3), .val (.int p4), .val (.int p5), .val (.int (0 : Int32)), .val (.ref b4), .val (.ref b5), .unset, .unset, .unset] [])) _
      refine XS.iload X5.here hx rfl (hb hby at_48) rfl ?_
      show Steps p.tables e below (T5.setTop (mkF m 50 #[.val (.int p0), .val (.int p1), .val (.int p2), .val (.int p3), .val (.int p4), .val (.int p5), .val (.int (0 : Int32)), .val (.ref b4), .val (.ref b5), .unset, .unset, .unset] [(.int (0 : Int32))])) _
      refine XS.iconst X5.here hx rfl (hb hby at_50) ?_
      show Steps p.tables e below (T5.setTop (mkF m 51 #[.val (.int p0), .val (.int p1), .val (.int p2), .val (.int p3), .val (.int p4), .val (.int p5), .val (.int (0 : Int32)), .val (.ref b4), .val (.ref b5), .unset, .unset, .unset] [(.int (2 : Int32)), (.int (0 : Int32))])) _
      refine XS.icmpYes X5.here hx rfl (pc0 := 51) (pc' := 66) rfl (hb hby at_51) rfl (flt (by decide : ¬ ((2 : Int32) < (0 : Int32)))).2.2.2 (by decide) (by decide) ?_
      show Steps p.tables e below (T5.setTop (mkF m 66 #[.val (.int p0), .val (.int p1), .val (.int p2), .val (.int p3), .val (.int p4), .val (.int p5), .val (.int (0 : Int32)), .val (.ref b4), .val (.ref b5), .unset, .unset, .unset] [])) _
      refine XS.iconst X5.here hx rfl (hb hby at_66) ?_
      show Steps p.tables e below (T5.setTop (mkF m 67 #[.val (.int p0), .val (.int p1), .val (.int p2), .val (.int p3), .val (.int p4), .val (.int p5), .val (.int (0 : Int32)), .val (.ref b4), .val (.ref b5), .unset, .unset, .unset] [(.int (1 : Int32))])) _
      refine XS.istore X5.here hx rfl (hb hby at_67) rfl (l' := #[.val (.int p0), .val (.int p1), .val (.int p2), .val (.int p3), .val (.int p4), .val (.int p5), .val (.int (0 : Int32)), .val (.ref b4), .val (.ref b5), .val (.int (1 : Int32)), .unset, .unset]) rfl ?_
      show Steps p.tables e below (T5.setTop (mkF m 69 #[.val (.int p0), .val (.int p1), .val (.int p2), .val (.int p3), .val (.int p4), .val (.int p5), .val (.int (0 : Int32)), .val (.ref b4), .val (.ref b5), .val (.int (1 : Int32)), .unset, .unset] [])) _
      refine XS.iload X5.here hx rfl (hb hby at_69) rfl ?_
      show Steps p.tables e below (T5.setTop (mkF m 71 #[.val (.int p0), .val (.int p1), .val (.int p2), .val (.int p3), .val (.int p4), .val (.int p5), .val (.int (0 : Int32)), .val (.ref b4), .val (.ref b5), .val (.int (1 : Int32)), .unset, .unset] [(.int (0 : Int32))])) _
      refine XS.ifYes X5.here hx rfl (pc0 := 71) (pc' := 107) rfl (hb hby at_71) rfl ((if0 _ _).trans (flt (by decide : ¬ ((0 : Int32) < (0 : Int32)))).2.2.2) (by decide) (by decide) ?_
      show Steps p.tables e below (T5.setTop (mkF m 107 #[.val (.int p0), .val (.int p1), .val (.int p2), .val (.int p3), .val (.int p4), .val (.int p5), .val (.int (0 : Int32)), .val (.ref b4), .val (.ref b5), .val (.int (1 : Int32)), .unset, .unset] [])) _
      refine st7 _ ?_
      show Steps p.tables e below (T7.setTop (mkF m 110 #[.val (.int p0), .val (.int p1), .val (.int p2), .val (.int p3), .val (.int p4), .val (.int p5), .val (.int (0 : Int32)), .val (.ref b4), .val (.ref b5), .val (.int (1 : Int32)), .unset, .unset] [(.ref b7)])) _
      refine XS.dup X7.here hx rfl (hb hby at_110) rfl rfl ?_
      show Steps p.tables e below (T7.setTop (mkF m 111 #[.val (.int p0), .val (.int p1), .val (.int p2), .val (.int p3), .val (.int p4), .val (.int p5), .val (.int (0 : Int32)), .val (.ref b4), .val (.ref b5), .val (.int (1 : Int32)), .unset, .unset] [(.ref b7), (.ref b7)])) _
      refine XS.aload X7.here hx rfl (hb hby at_111) rfl rfl ?_
      show Steps p.tables e below (T7.setTop (mkF m 113 #[.val (.int p0), .val (.int p1), .val (.int p2), .val (.int p3), .val (.int p4), .val (.int p5), .val (.int (0 : Int32)), .val (.ref b4), .val (.ref b5), .val (.int (1 : Int32)), .unset, .unset] [(.ref b4), (.ref b7), (.ref b7)])) _
      refine st8.trans ?_
      show Steps p.tables e below (T8.setTop (mkF m 116 #[.val (.int p0), .val (.int p1), .val (.int p2), .val (.int p3), .val (.int p4), .val (.int p5), .val (.int (0 : Int32)), .val (.ref b4), .val (.ref b5), .val (.int (1 : Int32)), .unset, .unset] [(.ref b7)])) _
      refine st9.trans ?_
      show Steps p.tables e below (T9.setTop (mkF m 119 #[.val (.int p0), .val (.int p1), .val (.int p2), .val (.int p3), .val (.int p4), .val (.int p5), .val (.int (0 : Int32)), .val (.ref b4), .val (.ref b5), .val (.int (1 : Int32)), .unset, .unset] [(.int (own_h0 ))])) _
      refine XS.istore X9.here hx rfl (hb hby at_119) rfl (l' := #[.val (.int p0), .val (.int p1), .val (.int p2), .val (.int p3), .val (.int p4), .val (.int p5), .val (.int (0 : Int32)), .val (.ref b4), .val (.ref b5), .val (.int (1 : Int32)), .val (.int (own_h0 )), .unset]) rfl ?_
      show Steps p.tables e below (T9.setTop (mkF m 121 #[.val (.int p0), .val (.int p1), .val (.int p2), .val (.int p3), .val (.int p4), .val (.int p5), .val (.int (0 : Int32)), .val (.ref b4), .val (.ref b5), .val (.int (1 : Int32)), .val (.int (own_h0 )), .unset] [])) _
      refine st15 _ ?_
      show Steps p.tables e below (T15.setTop (mkF m 124 #[.val (.int p0), .val (.int p1), .val (.int p2), .val (.int p3), .val (.int p4), .val (.int p5), .val (.int (0 : Int32)), .val (.ref b4), .val (.ref b5), .val (.int (1 : Int32)), .val (.int (own_h0 )), .unset] [(.ref b15)])) _
      refine XS.dup X15.here hx rfl (hb hby at_124) rfl rfl ?_
      show Steps p.tables e below (T15.setTop (mkF m 125 #[.val (.int p0), .val (.int p1), .val (.int p2), .val (.int p3), .val (.int p4), .val (.int p5), .val (.int (0 : Int32)), .val (.ref b4), .val (.ref b5), .val (.int (1 : Int32)), .val (.int (own_h0 )), .unset] [(.ref b15), (.ref b15)])) _
      refine XS.aload X15.here hx rfl (hb hby at_125) rfl rfl ?_
      show Steps p.tables e below (T15.setTop (mkF m 127 #[.val (.int p0), .val (.int p1), .val (.int p2), .val (.int p3), .val (.int p4), .val (.int p5), .val (.int (0 : Int32)), .val (.ref b4), .val (.ref b5), .val (.int (1 : Int32)), .val (.int (own_h0 )), .unset] [(.ref b5), (.ref b15), (.ref b15)])) _
      refine st16.trans ?_
      show Steps p.tables e below (T16.setTop (mkF m 130 #[.val (.int p0), .val (.int p1), .val (.int p2), .val (.int p3), .val (.int p4), .val (.int p5), .val (.int (0 : Int32)), .val (.ref b4), .val (.ref b5), .val (.int (1 : Int32)), .val (.int (own_h0 )), .unset] [(.ref b15)])) _
      refine st17.trans ?_
      show Steps p.tables e below (T17.setTop (mkF m 133 #[.val (.int p0), .val (.int p1), .val (.int p2), .val (.int p3), .val (.int p4), .val (.int p5), .val (.int (0 : Int32)), .val (.ref b4), .val (.ref b5), .val (.int (1 : Int32)), .val (.int (own_h0 )), .unset] [(.int (own_h0 ))])) _
      refine XS.istore X17.here hx rfl (hb hby at_133) rfl (l' := #[.val (.int p0), .val (.int p1), .val (.int p2), .val (.int p3), .val (.int p4), .val (.int p5), .val (.int (0 : Int32)), .val (.ref b4), .val (.ref b5), .val (.int (1 : Int32)), .val (.int (own_h0 )), .val (.int (own_h0 ))]) rfl ?_
      show Steps p.tables e below (T17.setTop (mkF m 135 #[.val (.int p0), .val (.int p1), .val (.int p2), .val (.int p3), .val (.int p4), .val (.int p5), .val (.int (0 : Int32)), .val (.ref b4), .val (.ref b5), .val (.int (1 : Int32)), .val (.int (own_h0 )), .val (.int (own_h0 ))] [])) _
      refine XS.iload X17.here hx rfl (hb hby at_135) rfl ?_
      show Steps p.tables e below (T17.setTop (mkF m 137 #[.val (.int p0), .val (.int p1), .val (.int p2), .val (.int p3), .val (.int p4), .val (.int p5), .val (.int (0 : Int32)), .val (.ref b4), .val (.ref b5), .val (.int (1 : Int32)), .val (.int (own_h0 )), .val (.int (own_h0 ))] [(.int (own_h0 ))])) _
      refine XS.iload X17.here hx rfl (hb hby at_137) rfl ?_
      show Steps p.tables e below (T17.setTop (mkF m 139 #[.val (.int p0), .val (.int p1), .val (.int p2), .val (.int p3), .val (.int p4), .val (.int p5), .val (.int (0 : Int32)), .val (.ref b4), .val (.ref b5), .val (.int (1 : Int32)), .val (.int (own_h0 )), .val (.int (own_h0 ))] [(.int (own_h0 )), (.int (own_h0 ))])) _
      refine mg22 _ ?_
      show Steps p.tables e below (T17.setTop (mkF m 147 #[.val (.int p0), .val (.int p1), .val (.int p2), .val (.int p3), .val (.int p4), .val (.int p5), .val (.int (0 : Int32)), .val (.ref b4), .val (.ref b5), .val (.int (1 : Int32)), .val (.int (own_h0 )), .val (.int (own_h0 ))] [(.int v21)])) _
      refine XS.iload X17.here hx rfl (hb hby at_147) rfl ?_
      show Steps p.tables e below (T17.setTop (mkF m 149 #[.val (.int p0), .val (.int p1), .val (.int p2), .val (.int p3), .val (.int p4), .val (.int p5), .val (.int (0 : Int32)), .val (.ref b4), .val (.ref b5), .val (.int (1 : Int32)), .val (.int (own_h0 )), .val (.int (own_h0 ))] [(.int (1 : Int32)), (.int v21)])) _
      refine XS.icmpNo X17.here hx rfl (hb hby at_149) rfl (teq hk23).2 ?_
      show Steps p.tables e below (T17.setTop (mkF m 152 #[.val (.int p0), .val (.int p1), .val (.int p2), .val (.int p3), .val (.int p4), .val (.int p5), .val (.int (0 : Int32)), .val (.ref b4), .val (.ref b5), .val (.int (1 : Int32)), .val (.int (own_h0 )), .val (.int (own_h0 ))] [])) _
      refine XS.iconst X17.here hx rfl (hb hby at_152) ?_
      show Steps p.tables e below (T17.setTop (mkF m 153 #[.val (.int p0), .val (.int p1), .val (.int p2), .val (.int p3), .val (.int p4), .val (.int p5), .val (.int (0 : Int32)), .val (.ref b4), .val (.ref b5), .val (.int (1 : Int32)), .val (.int (own_h0 )), .val (.int (own_h0 ))] [(.int (1 : Int32))])) _
      refine XS.goto X17.here hx rfl (pc0 := 153) (pc' := 157) rfl (hb hby at_153) (by decide) (by decide) ?_
      show Steps p.tables e below (T17.setTop (mkF m 157 #[.val (.int p0), .val (.int p1), .val (.int p2), .val (.int p3), .val (.int p4), .val (.int p5), .val (.int (0 : Int32)), .val (.ref b4), .val (.ref b5), .val (.int (1 : Int32)), .val (.int (own_h0 )), .val (.int (own_h0 ))] [(.int (1 : Int32))])) _
      exact retN X17 hx (t := .boolean) Bd.returns (by simp) (hb hby at_157) hr
    ·
      show Q0 Z p0 p1 p2 p3 p4 p5 h0 n0 _ T17.heap _
      exact ⟨rfl, N17⟩
  ·
    subst q
    obtain ⟨T24, h24, k24, X24, e24, E24, A24, st24⟩ := newP X0 hx hZ (hw _ (List.mem_of_getElem? (i := 0) rfl)) e0 (g := (mkF m 7 #[.val (.int p0), .val (.int p1), .val (.int p2), .val (.int p3), .val (.int p4), .val (.int p5), .val (.int (1 : Int32)), .unset, .unset, .unset, .unset, .unset] [(.int (1 : Int32))])) rfl (hb hby at_7) rfl (by decide) (cap := 1) (by decide) (by decide) (by decide) (by decide)
    obtain ⟨b24, g24⟩ : ∃ z, z = h0.size := ⟨_, rfl⟩
    rw [← g24] at A24 st24
    have g_b24 : n0 ≤ b24 := Nat.le_trans (Nat.le_trans Z0 K0.1) (Nat.le_of_eq g24.symm)
    have sz_b24 : h0.size ≤ b24 := Nat.le_trans K0.1 (Nat.le_of_eq g24.symm)
    have K24 := K0.ext E24
    have V_b24 : Arv Z h24 b24 k24 .int (1 : Int32) [(.int (0 : Int32))] (.int (0 : Int32)) := (Arv.new A24 (by decide)).pad (pad_rep [] (.int (0 : Int32)) 1)
    obtain ⟨T25, h25, k25, X25, e25, E25, A25, st25⟩ := newP X24 hx hZ (hw _ (List.mem_of_getElem? (i := 0) rfl)) e24 (g := (mkF m 13 #[.val (.int p0), .val (.int p1), .val (.int p2), .val (.int p3), .val (.int p4), .val (.int p5), .val (.int (1 : Int32)), .val (.ref b24), .unset, .unset, .unset, .unset] [(.int (1 : Int32))])) rfl (hb hby at_13) rfl (by decide) (cap := 1) (by decide) (by decide) (by decide) (by decide)
    obtain ⟨b25, g25⟩ : ∃ z, z = h24.size := ⟨_, rfl⟩
    rw [← g25] at A25 st25
    have g_b25 : n0 ≤ b25 := Nat.le_trans (Nat.le_trans Z0 K24.1) (Nat.le_of_eq g25.symm)
    have sz_b25 : h0.size ≤ b25 := Nat.le_trans K24.1 (Nat.le_of_eq g25.symm)
    have ne_b24_b25 : b24 ≠ b25 := Nat.ne_of_lt (Nat.lt_of_lt_of_le V_b24.lt (Nat.le_of_eq g25.symm))
    have K25 := K24.ext E25
    have V_b25 : Arv Z h25 b25 k25 .int (1 : Int32) [(.int (0 : Int32))] (.int (0 : Int32)) := (Arv.new A25 (by decide)).pad (pad_rep [] (.int (0 : Int32)) 1)
    have c26 := (V_b24.ext E25)
    obtain ⟨clo27, Aro27, qo27, So27, No27, Ho27, Go27⟩ := id c26
    have hino27 : ¬ ((0 : Int32) < 0 ∨ clo27.slots.size ≤ ((0 : Int32)).toNatClampNeg) := inb_of So27 ⟨by decide, by decide⟩
    obtain ⟨T28, h28, X28, e28, W28, st28⟩ := stI X25 hx hZ e25 Aro27 (j := (0 : Int32)) hino27 (g := (mkF m 26 #[.val (.int p0), .val (.int p1), .val (.int p2), .val (.int p3), .val (.int p4), .val (.int p5), .val (.int (1 : Int32)), .val (.ref b24), .val (.ref b25), .unset, .unset, .unset] [(.int p2), (.int (0 : Int32)), (.ref b24)])) rfl rfl (hb hby at_26)
    have V28 : Arv Z h28 b24 k24 .int (1 : Int32) [(.int p2)] (.int (0 : Int32)) := Arv.set Aro27 qo27 So27 No27 Ho27 Go27 rfl W28 0 rfl (Nat.le_of_ble_eq_true rfl)
    have K28 := K25.wr W28 (Or.inr sz_b24)
    have N28 := Fr.snoc X28 N0 g_b24
    have c29 := (V_b25.other W28 (Ne.symm ne_b24_b25))
    obtain ⟨clo30, Aro30, qo30, So30, No30, Ho30, Go30⟩ := id c29
    have hino30 : ¬ ((0 : Int32) < 0 ∨ clo30.slots.size ≤ ((0 : Int32)).toNatClampNeg) := inb_of So30 ⟨by decide, by decide⟩
    obtain ⟨T31, h31, X31, e31, W31, st31⟩ := stI X28 hx hZ e28 Aro30 (j := (0 : Int32)) hino30 (g := (mkF m 31 #[.val (.int p0), .val (.int p1), .val (.int p2), .val (.int p3), .val (.int p4), .val (.int p5), .val (.int (1 : Int32)), .val (.ref b24), .val (.ref b25), .unset, .unset, .unset] [(.int p2), (.int (0 : Int32)), (.ref b25)])) rfl rfl (hb hby at_31)
    have V31 : Arv Z h31 b25 k25 .int (1 : Int32) [(.int p2)] (.int (0 : Int32)) := Arv.set Aro30 qo30 So30 No30 Ho30 Go30 rfl W31 0 rfl (Nat.le_of_ble_eq_true rfl)
    have K31 := K28.wr W31 (Or.inr sz_b25)
    have N31 := Fr.snoc X31 N28 g_b25
    obtain ⟨pv32, hpv32⟩ : ∃ z, z = ((p1 &&& (2147483647 : Int32)) - (p1 &&& (2147483647 : Int32)) / (1 : Int32) * (1 : Int32)) := ⟨_, rfl⟩
    have pre33 : ∀ t, Steps p.tables e below (T31.setTop (mkF m 81 #[.val (.int p0), .val (.int p1), .val (.int p2), .val (.int p3), .val (.int p4), .val (.int p5), .val (.int (1 : Int32)), .val (.ref b24), .val (.ref b25), .val (.int (1 : Int32)), .unset, .unset] [(.int pv32)])) t → Steps p.tables e below (s₁.setTop (entryFrame m #[(.int p0), (.int p1), (.int p2), (.int p3), (.int p4), (.int p5)] maxLocals)) t := by
      intro t kt
      rw [hpv32] at kt
      refine pre3 _ ?_
      show Steps p.tables e below (s₁.setTop (mkF m 5 #[.val (.int p0), .val (.int p1), .val (.int p2), .val (.int p3), .val (.int p4), .val (.int p5), .val (.int (1 : Int32)), .unset, .unset, .unset, .unset, .unset] [])) _
      refine XS.iload X0.here hx rfl (hb hby at_5) rfl ?_
      show Steps p.tables e below (s₁.setTop (mkF m 7 #[.val (.int p0), .val (.int p1), .val (.int p2), .val (.int p3), .val (.int p4), .val (.int p5), .val (.int (1 : Int32)), .unset, .unset, .unset, .unset, .unset] [(.int (1 : Int32))])) _
      refine st24 _ ?_
      show Steps p.tables e below (T24.setTop (mkF m 9 #[.val (.int p0), .val (.int p1), .val (.int p2), .val (.int p3), .val (.int p4), .val (.int p5), .val (.int (1 : Int32)), .unset, .unset, .unset, .unset, .unset] [(.ref b24)])) _
      refine XS.astore X24.here hx rfl (hb hby at_9) rfl rfl (l' := #[.val (.int p0), .val (.int p1), .val (.int p2), .val (.int p3), .val (.int p4), .val (.int p5), .val (.int (1 : Int32)), .val (.ref b24), .unset, .unset, .unset, .unset]) rfl ?_
      show Steps p.tables e below (T24.setTop (mkF m 11 #[.val (.int p0), .val (.int p1), .val (.int p2), .val (.int p3), .val (.int p4), .val (.int p5), .val (.int (1 : Int32)), .val (.ref b24), .unset, .unset, .unset, .unset] [])) _
      refine XS.iload X24.here hx rfl (hb hby at_11) rfl ?_
      show Steps p.tables e below (T24.setTop (mkF m 13 #[.val (.int p0), .val (.int p1), .val (.int p2), .val (.int p3), .val (.int p4), .val (.int p5), .val (.int (1 : Int32)), .val (.ref b24), .unset, .unset, .unset, .unset] [(.int (1 : Int32))])) _
      refine st25 _ ?_
      show Steps p.tables e below (T25.setTop (mkF m 15 #[.val (.int p0), .val (.int p1), .val (.int p2), .val (.int p3), .val (.int p4), .val (.int p5), .val (.int (1 : Int32)), .val (.ref b24), .unset, .unset, .unset, .unset] [(.ref b25)])) _
      refine XS.astore X25.here hx rfl (hb hby at_15) rfl rfl (l' := #[.val (.int p0), .val (.int p1), .val (.int p2), .val (.int p3), .val (.int p4), .val (.int p5), .val (.int (1 : Int32)), .val (.ref b24), .val (.ref b25), .unset, .unset, .unset]) rfl ?_
      show Steps p.tables e below (T25.setTop (mkF m 17 #[.val (.int p0), .val (.int p1), .val (.int p2), .val (.int p3), .val (.int p4), .val (.int p5), .val (.int (1 : Int32)), .val (.ref b24), .val (.ref b25), .unset, .unset, .unset] [])) _
      refine XS.iload X25.here hx rfl (hb hby at_17) rfl ?_
      show Steps p.tables e below (T25.setTop (mkF m 19 #[.val (.int p0), .val (.int p1), .val (.int p2), .val (.int p3), .val (.int p4), .val (.int p5), .val (.int (1 : Int32)), .val (.ref b24), .val (.ref b25), .unset, .unset, .unset] [(.int (1 : Int32))])) _
      refine XS.ifNo X25.here hx rfl (hb hby at_19) rfl ((if0 _ _).trans (tlt (by decide : (0 : Int32) < (1 : Int32))).2.2.2) ?_
      show Steps p.tables e below (T25.setTop (mkF m 22 #[.val (.int p0), .val (.int p1), .val (.int p2), .val (.int p3), .val (.int p4), .val (.int p5), .val (.int (1 : Int32)), .val (.ref b24), .val (.ref b25), .unset, .unset, .unset] [])) _
      refine XS.aload X25.here hx rfl (hb hby at_22) rfl rfl ?_
      show Steps p.tables e below (T25.setTop (mkF m 24 #[.val (.int p0), .val (.int p1), .val (.int p2), .val (.int p3), .val (.int p4), .val (.int p5), .val (.int (1 : Int32)), .val (.ref b24), .val (.ref b25), .unset, .unset, .unset] [(.ref b24)])) _
      refine XS.iconst X25.here hx rfl (hb hby at_24) ?_
      show Steps p.tables e below (T25.setTop (mkF m 25 #[.val (.int p0), .val (.int p1), .val (.int p2), .val (.int p3), .val (.int p4), .val (.int p5), .val (.int (1 : Int32)), .val (.ref b24), .val (.ref b25), .unset, .unset, .unset] [(.int (0 : Int32)), (.ref b24)])) _
      refine XS.iloadN X25.here hx rfl (hb hby at_25) rfl ?_
      show Steps p.tables e below (T25.setTop (mkF m 26 #[.val (.int p0), .val (.int p1), .val (.int p2), .val (.int p3), .val (.int p4), .val (.int p5), .val (.int (1 : Int32)), .val (.ref b24), .val (.ref b25), .unset, .unset, .unset] [(.int p2), (.int (0 : Int32)), (.ref b24)])) _
      refine st28 _ ?_
      show Steps p.tables e below (T28.setTop (mkF m 27 #[.val (.int p0), .val (.int p1), .val (.int p2), .val (.int p3), .val (.int p4), .val (.int p5), .val (.int (1 : Int32)), .val (.ref b24), .val (.ref b25), .unset, .unset, .unset] [])) _
      refine XS.aload X28.here hx rfl (hb hby at_27) rfl rfl ?_
      show Steps p.tables e below (T28.setTop (mkF m 29 #[.val (.int p0), .val (.int p1), .val (.int p2), .val (.int p3), .val (.int p4), .val (.int p5), .val (.int (1 : Int32)), .val (.ref b24), .val (.ref b25), .unset, .unset, .unset] [(.ref b25)])) _
      refine XS.iconst X28.here hx rfl (hb hby at_29) ?_
      show Steps p.tables e below (T28.setTop (mkF m 30 #[.val (.int p0), .val (.int p1), .val (.int p2), .val (.int p3), .val (.int p4), .val (.int p5), .val (.int (1 : Int32)), .val (.ref b24), .val (.ref b25), .unset, .unset, .unset] [(.int (0 : Int32)), (.ref b25)])) _
      refine XS.iloadN X28.here hx rfl (hb hby at_30) rfl ?_
      show Steps p.tables e below (T28.setTop (mkF m 31 #[.val (.int p0), .val (.int p1), .val (.int p2), .val (.int p3), .val (.int p4), .val (.int p5), .val (.int (1 : Int32)), .val (.ref b24), .val (.ref b25), .unset, .unset, .unset] [(.int p2), (.int (0 : Int32)), (.ref b25)])) _
      refine st31 _ ?_
      show Steps p.tables e below (T31.setTop (mkF m 32 #[.val (.int p0), .val (.int p1), .val (.int p2), .val (.int p3), .val (.int p4), .val (.int p5), .val (.int (1 : Int32)), .val (.ref b24), .val (.ref b25), .unset, .unset, .unset] [])) _
      refine XS.iload X31.here hx rfl (hb hby at_32) rfl ?_
      show Steps p.tables e below (T31.setTop (mkF m 34 #[.val (.int p0), .val (.int p1), .val (.int p2), .val (.int p3), .val (.int p4), .val (.int p5), .val (.int (1 : Int32)), .val (.ref b24), .val (.ref b25), .unset, .unset, .unset] [(.int (1 : Int32))])) _
      refine XS.iconst X31.here hx rfl (hb hby at_34) ?_
      show Steps p.tables e below (T31.setTop (mkF m 35 #[.val (.int p0), .val (.int p1), .val (.int p2), .val (.int p3), .val (.int p4), .val (.int p5), .val (.int (1 : Int32)), .val (.ref b24), .val (.ref b25), .unset, .unset, .unset] [(.int (1 : Int32)), (.int (1 : Int32))])) _
      refine XS.icmpYes X31.here hx rfl (pc0 := 35) (pc' := 48) rfl (hb hby at_35) rfl (flt (by decide : ¬ ((1 : Int32) < (1 : Int32)))).2.2.2 (by decide) (by decide) ?_
      show Steps p.tables e below (T31.setTop (mkF m 48 #[.val (.int p0), .val (.int p1), .val (.int p2), .val (.int p3), .val (.int p4), .val (.int p5), .val (.int (1 : Int32)), .val (.ref b24), .val (.ref b25), .unset, .unset, .unset] [])) _
      refine XS.iload X31.here hx rfl (hb hby at_48) rfl ?_
      show Steps p.tables e below (T31.setTop (mkF m 50 #[.val (.int p0), .val (.int p1), .val (.int p2), .val (.int p3), .val (.int p4), .val (.int p5), .val (.int (1 : Int32)), .val (.ref b24), .val (.ref b25), .unset, .unset, .unset] [(.int (1 : Int32))])) _
      refine XS.iconst X31.here hx rfl (hb hby at_50) ?_
      show Steps p.tables e below (T31.setTop (mkF m 51 #[.val (.int p0), .val (.int p1), .val (.int p2), .val (.int p3), .val (.int p4), .val (.int p5), .val (.int (1 : Int32)), .val (.ref b24), .val (.ref b25), .unset, .unset, .unset] [(.int (2 : Int32)), (.int (1 : Int32))])) _
      refine XS.icmpYes X31.here hx rfl (pc0 := 51) (pc' := 66) rfl (hb hby at_51) rfl (flt (by decide : ¬ ((2 : Int32) < (1 : Int32)))).2.2.2 (by decide) (by decide) ?_
      show Steps p.tables e below (T31.setTop (mkF m 66 #[.val (.int p0), .val (.int p1), .val (.int p2), .val (.int p3), .val (.int p4), .val (.int p5), .val (.int (1 : Int32)), .val (.ref b24), .val (.ref b25), .unset, .unset, .unset] [])) _
      refine XS.iconst X31.here hx rfl (hb hby at_66) ?_
      show Steps p.tables e below (T31.setTop (mkF m 67 #[.val (.int p0), .val (.int p1), .val (.int p2), .val (.int p3), .val (.int p4), .val (.int p5), .val (.int (1 : Int32)), .val (.ref b24), .val (.ref b25), .unset, .unset, .unset] [(.int (1 : Int32))])) _
      refine XS.istore X31.here hx rfl (hb hby at_67) rfl (l' := #[.val (.int p0), .val (.int p1), .val (.int p2), .val (.int p3), .val (.int p4), .val (.int p5), .val (.int (1 : Int32)), .val (.ref b24), .val (.ref b25), .val (.int (1 : Int32)), .unset, .unset]) rfl ?_
      show Steps p.tables e below (T31.setTop (mkF m 69 #[.val (.int p0), .val (.int p1), .val (.int p2), .val (.int p3), .val (.int p4), .val (.int p5), .val (.int (1 : Int32)), .val (.ref b24), .val (.ref b25), .val (.int (1 : Int32)), .unset, .unset] [])) _
      refine XS.iload X31.here hx rfl (hb hby at_69) rfl ?_
      show Steps p.tables e below (T31.setTop (mkF m 71 #[.val (.int p0), .val (.int p1), .val (.int p2), .val (.int p3), .val (.int p4), .val (.int p5), .val (.int (1 : Int32)), .val (.ref b24), .val (.ref b25), .val (.int (1 : Int32)), .unset, .unset] [(.int (1 : Int32))])) _
      refine XS.ifNo X31.here hx rfl (hb hby at_71) rfl ((if0 _ _).trans (tlt (by decide : (0 : Int32) < (1 : Int32))).2.2.2) ?_
      show Steps p.tables e below (T31.setTop (mkF m 74 #[.val (.int p0), .val (.int p1), .val (.int p2), .val (.int p3), .val (.int p4), .val (.int p5), .val (.int (1 : Int32)), .val (.ref b24), .val (.ref b25), .val (.int (1 : Int32)), .unset, .unset] [])) _
      refine XS.iloadN X31.here hx rfl (hb hby at_74) rfl ?_
      show Steps p.tables e below (T31.setTop (mkF m 75 #[.val (.int p0), .val (.int p1), .val (.int p2), .val (.int p3), .val (.int p4), .val (.int p5), .val (.int (1 : Int32)), .val (.ref b24), .val (.ref b25), .val (.int (1 : Int32)), .unset, .unset] [(.int p1)])) _
      refine X31.ldcInt hx hown (mvT hZ (hw _ (List.mem_of_getElem? (i := 22) rfl))) (g := (mkF m 75 #[.val (.int p0), .val (.int p1), .val (.int p2), .val (.int p3), .val (.int p4), .val (.int p5), .val (.int (1 : Int32)), .val (.ref b24), .val (.ref b25), .val (.int (1 : Int32)), .unset, .unset] [(.int p1)])) rfl (hb hby at_75) _ ?_
      show Steps p.tables e below (T31.setTop (mkF m 77 #[.val (.int p0), .val (.int p1), .val (.int p2), .val (.int p3), .val (.int p4), .val (.int p5), .val (.int (1 : Int32)), .val (.ref b24), .val (.ref b25), .val (.int (1 : Int32)), .unset, .unset] [(.int (2147483647 : Int32)), (.int p1)])) _
      refine XS.iand X31.here hx rfl (hb hby at_77) rfl ?_
      show Steps p.tables e below (T31.setTop (mkF m 78 #[.val (.int p0), .val (.int p1), .val (.int p2), .val (.int p3), .val (.int p4), .val (.int p5), .val (.int (1 : Int32)), .val (.ref b24), .val (.ref b25), .val (.int (1 : Int32)), .unset, .unset] [(.int (p1 &&& (2147483647 : Int32)))])) _
      refine XS.iload X31.here hx rfl (hb hby at_78) rfl ?_
      show Steps p.tables e below (T31.setTop (mkF m 80 #[.val (.int p0), .val (.int p1), .val (.int p2), .val (.int p3), .val (.int p4), .val (.int p5), .val (.int (1 : Int32)), .val (.ref b24), .val (.ref b25), .val (.int (1 : Int32)), .unset, .unset] [(.int (1 : Int32)), (.int (p1 &&& (2147483647 : Int32)))])) _
      refine XS.irem X31.here hx rfl (hb hby at_80) rfl (by decide) ?_
      show Steps p.tables e below (T31.setTop (mkF m 81 #[.val (.int p0), .val (.int p1), .val (.int p2), .val (.int p3), .val (.int p4), .val (.int p5), .val (.int (1 : Int32)), .val (.ref b24), .val (.ref b25), .val (.int (1 : Int32)), .unset, .unset] [(.int ((p1 &&& (2147483647 : Int32)) - (p1 &&& (2147483647 : Int32)) / (1 : Int32) * (1 : Int32)))])) _
      exact kt
    have pre34 : ∀ t, Steps p.tables e below (T31.setTop (mkF m 83 #[.val (.int p0), .val (.int p1), .val (.int p2), .val (.int p3), .val (.int p4), .val (.int p5), .val (.int (1 : Int32)), .val (.ref b24), .val (.ref b25), .val (.int (1 : Int32)), .val (.int pv32), .unset] [])) t → Steps p.tables e below (s₁.setTop (entryFrame m #[(.int p0), (.int p1), (.int p2), (.int p3), (.int p4), (.int p5)] maxLocals)) t := by
      intro t kt
      refine pre33 _ ?_
      show Steps p.tables e below (T31.setTop (mkF m 81 #[.val (.int p0), .val (.int p1), .val (.int p2), .val (.int p3), .val (.int p4), .val (.int p5), .val (.int (1 : Int32)), .val (.ref b24), .val (.ref b25), .val (.int (1 : Int32)), .unset, .unset] [(.int pv32)])) _
      refine XS.istore X31.here hx rfl (hb hby at_81) rfl (l' := #[.val (.int p0), .val (.int p1), .val (.int p2), .val (.int p3), .val (.int p4), .val (.int p5), .val (.int (1 : Int32)), .val (.ref b24), .val (.ref b25), .val (.int (1 : Int32)), .val (.int pv32), .unset]) rfl ?_
      show Steps p.tables e below (T31.setTop (mkF m 83 #[.val (.int p0), .val (.int p1), .val (.int p2), .val (.int p3), .val (.int p4), .val (.int p5), .val (.int (1 : Int32)), .val (.ref b24), .val (.ref b25), .val (.int (1 : Int32)), .val (.int pv32), .unset] [])) _
      exact kt
    have q := own_p1 hpv32
    ·
      subst q
      have c35 := (V28.other W31 ne_b24_b25)
      obtain ⟨clo36, Aro36, -, So36, No36, Ho36, -⟩ := id c35
      have hino36 : ¬ ((0 : Int32) < 0 ∨ clo36.slots.size ≤ ((0 : Int32)).toNatClampNeg) := inb_of So36 ⟨by decide, by decide⟩
      have hato36 : clo36.slots[((0 : Int32)).toNatClampNeg]? = some (.int p2) := Ho36.at hino36 rfl
      obtain ⟨v38, hv38⟩ : ∃ z : Int32, z = if p2 = p5 then (1 : Int32) else (0 : Int32) := ⟨_, rfl⟩
      have mg39 : ∀ t, Steps p.tables e below (T31.setTop (mkF m 98 #[.val (.int p0), .val (.int p1), .val (.int p2), .val (.int p3), .val (.int p4), .val (.int p5), .val (.int (1 : Int32)), .val (.ref b24), .val (.ref b25), .val (.int (1 : Int32)), .val (.int (0 : Int32)), .unset] [(.int v38)])) t → Steps p.tables e below (T31.setTop (mkF m 90 #[.val (.int p0), .val (.int p1), .val (.int p2), .val (.int p3), .val (.int p4), .val (.int p5), .val (.int (1 : Int32)), .val (.ref b24), .val (.ref b25), .val (.int (1 : Int32)), .val (.int (0 : Int32)), .unset] [(.int p5), (.int p2)])) t := by
        intro t kt
        by_cases hm37 : p2 = p5
        ·
          have ev38 : v38 = (1 : Int32) := by rw [hv38, if_pos hm37]
          rw [ev38] at kt
          refine (fun t (k : Steps p.tables e below (T31.setTop (mkF m 90 #[.val (.int p0), .val (.int p1), .val (.int p2), .val (.int p3), .val (.int p4), .val (.int p5), .val (.int (1 : Int32)), .val (.ref b24), .val (.ref b25), .val (.int (1 : Int32)), .val (.int (0 : Int32)), .unset] [(.int p5), (.int p2)])) t) => k) _ ?_
          refine XS.icmpNo X31.here hx rfl (hb hby at_90) rfl (teq hm37).2 ?_
          show Steps p.tables e below (T31.setTop (mkF m 93 #[.val (.int p0), .val (.int p1), .val (.int p2), .val (.int p3), .val (.int p4), .val (.int p5), .val (.int (1 : Int32)), .val (.ref b24), .val (.ref b25), .val (.int (1 : Int32)), .val (.int (0 : Int32)), .unset] [])) _
          refine XS.iconst X31.here hx rfl (hb hby at_93) ?_
          show Steps p.tables e below (T31.setTop (mkF m 94 #[.val (.int p0), .val (.int p1), .val (.int p2), .val (.int p3), .val (.int p4), .val (.int p5), .val (.int (1 : Int32)), .val (.ref b24), .val (.ref b25), .val (.int (1 : Int32)), .val (.int (0 : Int32)), .unset] [(.int (1 : Int32))])) _
          refine XS.goto X31.here hx rfl (pc0 := 94) (pc' := 98) rfl (hb hby at_94) (by decide) (by decide) ?_
          show Steps p.tables e below (T31.setTop (mkF m 98 #[.val (.int p0), .val (.int p1), .val (.int p2), .val (.int p3), .val (.int p4), .val (.int p5), .val (.int (1 : Int32)), .val (.ref b24), .val (.ref b25), .val (.int (1 : Int32)), .val (.int (0 : Int32)), .unset] [(.int (1 : Int32))])) _
          exact kt
        ·
          have ev38 : v38 = (0 : Int32) := by rw [hv38, if_neg hm37]
          rw [ev38] at kt
          refine (fun t (k : Steps p.tables e below (T31.setTop (mkF m 90 #[.val (.int p0), .val (.int p1), .val (.int p2), .val (.int p3), .val (.int p4), .val (.int p5), .val (.int (1 : Int32)), .val (.ref b24), .val (.ref b25), .val (.int (1 : Int32)), .val (.int (0 : Int32)), .unset] [(.int p5), (.int p2)])) t) => k) _ ?_
          refine XS.icmpYes X31.here hx rfl (pc0 := 90) (pc' := 97) rfl (hb hby at_90) rfl (feq hm37).2 (by decide) (by decide) ?_
          show Steps p.tables e below (T31.setTop (mkF m 97 #[.val (.int p0), .val (.int p1), .val (.int p2), .val (.int p3), .val (.int p4), .val (.int p5), .val (.int (1 : Int32)), .val (.ref b24), .val (.ref b25), .val (.int (1 : Int32)), .val (.int (0 : Int32)), .unset] [])) _
          refine XS.iconst X31.here hx rfl (hb hby at_97) ?_
          show Steps p.tables e below (T31.setTop (mkF m 98 #[.val (.int p0), .val (.int p1), .val (.int p2), .val (.int p3), .val (.int p4), .val (.int p5), .val (.int (1 : Int32)), .val (.ref b24), .val (.ref b25), .val (.int (1 : Int32)), .val (.int (0 : Int32)), .unset] [(.int (0 : Int32))])) _
          exact kt
      obtain ⟨clo40, Aro40, qo40, So40, No40, Ho40, Go40⟩ := id V31
      have hino40 : ¬ ((0 : Int32) < 0 ∨ clo40.slots.size ≤ ((0 : Int32)).toNatClampNeg) := inb_of So40 ⟨by decide, by decide⟩
      obtain ⟨T41, h41, X41, e41, W41, st41⟩ := stI X31 hx hZ e31 Aro40 (j := (0 : Int32)) hino40 (g := (mkF m 106 #[.val (.int p0), .val (.int p1), .val (.int p2), .val (.int p3), .val (.int p4), .val (.int p5), .val (.int (1 : Int32)), .val (.ref b24), .val (.ref b25), .val (.int v38), .val (.int (0 : Int32)), .unset] [(.int p5), (.int (0 : Int32)), (.ref b25)])) rfl rfl (hb hby at_106)
      have V41 : Arv Z h41 b25 k25 .int (1 : Int32) [(.int p5)] (.int (0 : Int32)) := Arv.set Aro40 qo40 So40 No40 Ho40 Go40 rfl W41 0 rfl (Nat.le_of_ble_eq_true rfl)
      have K41 := K31.wr W41 (Or.inr sz_b25)
      have N41 := Fr.snoc X41 N31 g_b25
      have c42 := (c35.other W41 ne_b24_b25)
      obtain ⟨T43, h43, X43, e43, E43, A43, D43, -, st43⟩ := newO X41 hx hZ hown (hw _ (List.mem_of_getElem? (i := 1) rfl)) (hw _ (List.mem_of_getElem? (i := 2) rfl)) (hw _ (List.mem_of_getElem? (i := 3) rfl)) e41 (g := (mkF m 107 #[.val (.int p0), .val (.int p1), .val (.int p2), .val (.int p3), .val (.int p4), .val (.int p5), .val (.int (1 : Int32)), .val (.ref b24), .val (.ref b25), .val (.int v38), .val (.int (0 : Int32)), .unset] [])) rfl (hb hby at_107) (by decide) (by decide)
      obtain ⟨b43, g43⟩ : ∃ z, z = h41.size := ⟨_, rfl⟩
      rw [← g43] at A43 D43 st43
      have g_b43 : n0 ≤ b43 := Nat.le_trans (Nat.le_trans Z0 K41.1) (Nat.le_of_eq g43.symm)
      have sz_b43 : h0.size ≤ b43 := Nat.le_trans K41.1 (Nat.le_of_eq g43.symm)
      have ne_b24_b43 : b24 ≠ b43 := Nat.ne_of_lt (Nat.lt_of_lt_of_le c42.lt (Nat.le_of_eq g43.symm))
      have ne_b25_b43 : b25 ≠ b43 := Nat.ne_of_lt (Nat.lt_of_lt_of_le V41.lt (Nat.le_of_eq g43.symm))
      have K43 := K41.ext E43
      have F_values_b43 : Fld Z h43 b43 "com/example/hedge/hedge/analysis/IntArrayKey" "values" "[I" .null := D43 (Or.inr (hw _ (List.mem_of_getElem? (i := 16) rfl))) (ty := (.array .int)) (by decide)
      obtain ⟨_, _, ⟨T44, L44, k44, n44⟩, -, X44, ⟨Lc44, hQ44, l44, y44, z44⟩, st44⟩ := X43.specialBack hx (y := (⟨"com/example/hedge/hedge/analysis/IntArrayKey", "<init>", "([I)V"⟩ : MethodName)) rfl hown (mvT hZ (hw _ (List.mem_of_getElem? (i := 4) rfl))) (mvT hZ (hw _ (List.mem_of_getElem? (i := 5) rfl))) (mvT hZ (hw _ (List.mem_of_getElem? (i := 6) rfl))) (by decide) (backOf (W := 1) (rm1 l Z a0 hw [] b43 b24 h43 n0 (Nat.le_trans Z0 K43.1) A43 F_values_b43 g_b43) hZ (hw _ (List.mem_of_getElem? (i := 6) rfl)) (hw _ (List.mem_of_getElem? (i := 3) rfl)) (by decide) (by decide)) (g := (mkF m 113 #[.val (.int p0), .val (.int p1), .val (.int p2), .val (.int p3), .val (.int p4), .val (.int p5), .val (.int (1 : Int32)), .val (.ref b24), .val (.ref b25), .val (.int v38), .val (.int (0 : Int32)), .unset] [(.ref b24), (.ref b43), (.ref b43)])) rfl (by rw [hml]; rfl) (Steps.refl _) (a := b43) (argsL := [(.ref b24)]) (rest := [(.ref b43)]) (lenOf pd___I_V rfl) rfl (by show 2 * 0 + _ ≤ _; exact Nat.le_of_eq rfl) (hb hby at_113) (fun _ _ => ⟨rfl, e43, (by decide : 3 + 0 ≤ _), (by decide : 3 + 0 ≤ _)⟩)
      dsimp only [Pt.U, Pt.locs, Pt.cells, Pt.slots] at X44 l44 y44 z44 st44 hQ44
      subst l44 y44 z44
      obtain ⟨rfl, N44q, kq44, fq44⟩ := hQ44
      have N44 := Fr.app N41 N44q
      have K44 := K43.trans kq44 (allS (Or.inr sz_b43) all0)
      have c46 := (A43.keep kq44)
      have c47 := ((c42.ext E43).keep kq44 (ninS ne_b24_b43 nin0))
      obtain ⟨cq45, kq45, q45a, q45b, q45c⟩ := isOf hZ rfl c46
      obtain ⟨_, _, ⟨T45, L45, k45, n45⟩, -, X45, ⟨Lc45, hQ45, l45, y45, z45⟩, st45⟩ := X44.virtualBack hx (y := (⟨"com/example/hedge/hedge/analysis/IntArrayKey", "hashCode", "()I"⟩ : MethodName)) (z := (⟨"com/example/hedge/hedge/analysis/IntArrayKey", "hashCode", "()I"⟩ : MethodName)) hown (mvT hZ (hw _ (List.mem_of_getElem? (i := 17) rfl))) (mvT hZ (hw _ (List.mem_of_getElem? (i := 18) rfl))) (notFace_of_selects (args := #[]) (mvT hZ (hw _ (List.mem_of_getElem? (i := 20) rfl)))) (mvT hZ (hw _ (List.mem_of_getElem? (i := 20) rfl))) (mvT hZ (hw _ (List.mem_of_getElem? (i := 19) rfl))) (by decide) (backOf (W := 0) (hc1 l Z a0 hw [] b43 b24 k24 p2 T44.heap n0 (Nat.le_trans Z0 K44.1) fq44 c47) hZ (hw _ (List.mem_of_getElem? (i := 21) rfl)) (hw _ (List.mem_of_getElem? (i := 3) rfl)) (by decide) (by decide)) q45a q45c (g := (mkF m 116 #[.val (.int p0), .val (.int p1), .val (.int p2), .val (.int p3), .val (.int p4), .val (.int p5), .val (.int (1 : Int32)), .val (.ref b24), .val (.ref b25), .val (.int v38), .val (.int (0 : Int32)), .unset] [(.ref b43)])) rfl (by rw [hml]; rfl) (Steps.refl _) (argsL := []) (rest := []) (lenOf pd___I rfl) rfl (by show 2 * 0 + _ ≤ _; exact Nat.le_of_eq rfl) (hb hby at_116) (fun _ _ => ⟨rfl, rfl, (by decide : 3 + 0 ≤ _), (by decide : 3 + 0 ≤ _)⟩)
      dsimp only [Pt.U, Pt.locs, Pt.cells, Pt.slots] at X45 l45 y45 z45 st45 hQ45
      subst l45 y45 z45
      obtain ⟨rfl, N45q, hq45⟩ := hQ45
      have N45 := Fr.app N44 N45q
      have E45 : Ext T44.heap T45.heap := by rw [hq45]; exact ⟨Nat.le_refl _, fun _ _ q => q⟩
      have K45 := K44.ext E45
      have c48 := (c47.ext E45)
      have c49 := (((V41.ext E43).keep kq44 (ninS ne_b25_b43 nin0)).ext E45)
      have c50 := (c46.ext E45)
      obtain ⟨T51, h51, X51, e51, E51, A51, D51, -, st51⟩ := newO X45 hx hZ hown (hw _ (List.mem_of_getElem? (i := 1) rfl)) (hw _ (List.mem_of_getElem? (i := 2) rfl)) (hw _ (List.mem_of_getElem? (i := 3) rfl)) rfl (g := (mkF m 121 #[.val (.int p0), .val (.int p1), .val (.int p2), .val (.int p3), .val (.int p4), .val (.int p5), .val (.int (1 : Int32)), .val (.ref b24), .val (.ref b25), .val (.int v38), .val (.int (own_h1 p2)), .unset] [])) rfl (hb hby at_121) (by decide) (by decide)
      obtain ⟨b51, g51⟩ : ∃ z, z = T45.heap.size := ⟨_, rfl⟩
      rw [← g51] at A51 D51 st51
      have g_b51 : n0 ≤ b51 := Nat.le_trans (Nat.le_trans Z0 K45.1) (Nat.le_of_eq g51.symm)
      have sz_b51 : h0.size ≤ b51 := Nat.le_trans K45.1 (Nat.le_of_eq g51.symm)
      have ne_b24_b51 : b24 ≠ b51 := Nat.ne_of_lt (Nat.lt_of_lt_of_le c48.lt (Nat.le_of_eq g51.symm))
      have ne_b25_b51 : b25 ≠ b51 := Nat.ne_of_lt (Nat.lt_of_lt_of_le c49.lt (Nat.le_of_eq g51.symm))
      have ne_b43_b51 : b43 ≠ b51 := Nat.ne_of_lt (Nat.lt_of_lt_of_le c50.lt (Nat.le_of_eq g51.symm))
      have K51 := K45.ext E51
      have F_values_b51 : Fld Z h51 b51 "com/example/hedge/hedge/analysis/IntArrayKey" "values" "[I" .null := D51 (Or.inr (hw _ (List.mem_of_getElem? (i := 16) rfl))) (ty := (.array .int)) (by decide)
      obtain ⟨_, _, ⟨T52, L52, k52, n52⟩, -, X52, ⟨Lc52, hQ52, l52, y52, z52⟩, st52⟩ := X51.specialBack hx (y := (⟨"com/example/hedge/hedge/analysis/IntArrayKey", "<init>", "([I)V"⟩ : MethodName)) rfl hown (mvT hZ (hw _ (List.mem_of_getElem? (i := 4) rfl))) (mvT hZ (hw _ (List.mem_of_getElem? (i := 5) rfl))) (mvT hZ (hw _ (List.mem_of_getElem? (i := 6) rfl))) (by decide) (backOf (W := 1) (rm1 l Z a0 hw [] b51 b25 h51 n0 (Nat.le_trans Z0 K51.1) A51 F_values_b51 g_b51) hZ (hw _ (List.mem_of_getElem? (i := 6) rfl)) (hw _ (List.mem_of_getElem? (i := 3) rfl)) (by decide) (by decide)) (g := (mkF m 127 #[.val (.int p0), .val (.int p1), .val (.int p2), .val (.int p3), .val (.int p4), .val (.int p5), .val (.int (1 : Int32)), .val (.ref b24), .val (.ref b25), .val (.int v38), .val (.int (own_h1 p2)), .unset] [(.ref b25), (.ref b51), (.ref b51)])) rfl (by rw [hml]; rfl) (Steps.refl _) (a := b51) (argsL := [(.ref b25)]) (rest := [(.ref b51)]) (lenOf pd___I_V rfl) rfl (by show 2 * 0 + _ ≤ _; exact Nat.le_of_eq rfl) (hb hby at_127) (fun _ _ => ⟨rfl, e51, (by decide : 4 + 0 ≤ _), (by decide : 4 + 0 ≤ _)⟩)
      dsimp only [Pt.U, Pt.locs, Pt.cells, Pt.slots] at X52 l52 y52 z52 st52 hQ52
      subst l52 y52 z52
      obtain ⟨rfl, N52q, kq52, fq52⟩ := hQ52
      have N52 := Fr.app N45 N52q
      have K52 := K51.trans kq52 (allS (Or.inr sz_b51) all0)
      have c54 := (A51.keep kq52)
      have c55 := ((c49.ext E51).keep kq52 (ninS ne_b25_b51 nin0))
      obtain ⟨cq53, kq53, q53a, q53b, q53c⟩ := isOf hZ rfl c54
      obtain ⟨_, _, ⟨T53, L53, k53, n53⟩, -, X53, ⟨Lc53, hQ53, l53, y53, z53⟩, st53⟩ := X52.virtualBack hx (y := (⟨"com/example/hedge/hedge/analysis/IntArrayKey", "hashCode", "()I"⟩ : MethodName)) (z := (⟨"com/example/hedge/hedge/analysis/IntArrayKey", "hashCode", "()I"⟩ : MethodName)) hown (mvT hZ (hw _ (List.mem_of_getElem? (i := 17) rfl))) (mvT hZ (hw _ (List.mem_of_getElem? (i := 18) rfl))) (notFace_of_selects (args := #[]) (mvT hZ (hw _ (List.mem_of_getElem? (i := 20) rfl)))) (mvT hZ (hw _ (List.mem_of_getElem? (i := 20) rfl))) (mvT hZ (hw _ (List.mem_of_getElem? (i := 19) rfl))) (by decide) (backOf (W := 0) (hc1 l Z a0 hw [] b51 b25 k25 p5 T52.heap n0 (Nat.le_trans Z0 K52.1) fq52 c55) hZ (hw _ (List.mem_of_getElem? (i := 21) rfl)) (hw _ (List.mem_of_getElem? (i := 3) rfl)) (by decide) (by decide)) q53a q53c (g := (mkF m 130 #[.val (.int p0), .val (.int p1), .val (.int p2), .val (.int p3), .val (.int p4), .val (.int p5), .val (.int (1 : Int32)), .val (.ref b24), .val (.ref b25), .val (.int v38), .val (.int (own_h1 p2)), .unset] [(.ref b51)])) rfl (by rw [hml]; rfl) (Steps.refl _) (argsL := []) (rest := []) (lenOf pd___I rfl) rfl (by show 2 * 0 + _ ≤ _; exact Nat.le_of_eq rfl) (hb hby at_130) (fun _ _ => ⟨rfl, rfl, (by decide : 4 + 0 ≤ _), (by decide : 4 + 0 ≤ _)⟩)
      dsimp only [Pt.U, Pt.locs, Pt.cells, Pt.slots] at X53 l53 y53 z53 st53 hQ53
      subst l53 y53 z53
      obtain ⟨rfl, N53q, hq53⟩ := hQ53
      have N53 := Fr.app N52 N53q
      have E53 : Ext T52.heap T53.heap := by rw [hq53]; exact ⟨Nat.le_refl _, fun _ _ q => q⟩
      have K53 := K52.ext E53
      obtain ⟨v57, hv57⟩ : ∃ z : Int32, z = if (own_h1 p2) = (own_h1 p5) then (1 : Int32) else (0 : Int32) := ⟨_, rfl⟩
      have mg58 : ∀ t, Steps p.tables e below (T53.setTop (mkF m 147 #[.val (.int p0), .val (.int p1), .val (.int p2), .val (.int p3), .val (.int p4), .val (.int p5), .val (.int (1 : Int32)), .val (.ref b24), .val (.ref b25), .val (.int v38), .val (.int (own_h1 p2)), .val (.int (own_h1 p5))] [(.int v57)])) t → Steps p.tables e below (T53.setTop (mkF m 139 #[.val (.int p0), .val (.int p1), .val (.int p2), .val (.int p3), .val (.int p4), .val (.int p5), .val (.int (1 : Int32)), .val (.ref b24), .val (.ref b25), .val (.int v38), .val (.int (own_h1 p2)), .val (.int (own_h1 p5))] [(.int (own_h1 p5)), (.int (own_h1 p2))])) t := by
        intro t kt
        by_cases hm56 : (own_h1 p2) = (own_h1 p5)
        ·
          have ev57 : v57 = (1 : Int32) := by rw [hv57, if_pos hm56]
          rw [ev57] at kt
          refine (fun t (k : Steps p.tables e below (T53.setTop (mkF m 139 #[.val (.int p0), .val (.int p1), .val (.int p2), .val (.int p3), .val (.int p4), .val (.int p5), .val (.int (1 : Int32)), .val (.ref b24), .val (.ref b25), .val (.int v38), .val (.int (own_h1 p2)), .val (.int (own_h1 p5))] [(.int (own_h1 p5)), (.int (own_h1 p2))])) t) => k) _ ?_
          refine XS.icmpNo X53.here hx rfl (hb hby at_139) rfl (teq hm56).2 ?_
          show Steps p.tables e below (T53.setTop (mkF m 142 #[.val (.int p0), .val (.int p1), .val (.int p2), .val (.int p3), .val (.int p4), .val (.int p5), .val (.int (1 : Int32)), .val (.ref b24), .val (.ref b25), .val (.int v38), .val (.int (own_h1 p2)), .val (.int (own_h1 p5))] [])) _
          refine XS.iconst X53.here hx rfl (hb hby at_142) ?_
          show Steps p.tables e below (T53.setTop (mkF m 143 #[.val (.int p0), .val (.int p1), .val (.int p2), .val (.int p3), .val (.int p4), .val (.int p5), .val (.int (1 : Int32)), .val (.ref b24), .val (.ref b25), .val (.int v38), .val (.int (own_h1 p2)), .val (.int (own_h1 p5))] [(.int (1 : Int32))])) _
          refine XS.goto X53.here hx rfl (pc0 := 143) (pc' := 147) rfl (hb hby at_143) (by decide) (by decide) ?_
          show Steps p.tables e below (T53.setTop (mkF m 147 #[.val (.int p0), .val (.int p1), .val (.int p2), .val (.int p3), .val (.int p4), .val (.int p5), .val (.int (1 : Int32)), .val (.ref b24), .val (.ref b25), .val (.int v38), .val (.int (own_h1 p2)), .val (.int (own_h1 p5))] [(.int (1 : Int32))])) _
          exact kt
        ·
          have ev57 : v57 = (0 : Int32) := by rw [hv57, if_neg hm56]
          rw [ev57] at kt
          refine (fun t (k : Steps p.tables e below (T53.setTop (mkF m 139 #[.val (.int p0), .val (.int p1), .val (.int p2), .val (.int p3), .val (.int p4), .val (.int p5), .val (.int (1 : Int32)), .val (.ref b24), .val (.ref b25), .val (.int v38), .val (.int (own_h1 p2)), .val (.int (own_h1 p5))] [(.int (own_h1 p5)), (.int (own_h1 p2))])) t) => k) _ ?_
          refine XS.icmpYes X53.here hx rfl (pc0 := 139) (pc' := 146) rfl (hb hby at_139) rfl (feq hm56).2 (by decide) (by decide) ?_
          show Steps p.tables e below (T53.setTop (mkF m 146 #[.val (.int p0), .val (.int p1), .val (.int p2), .val (.int p3), .val (.int p4), .val (.int p5), .val (.int (1 : Int32)), .val (.ref b24), .val (.ref b25), .val (.int v38), .val (.int (own_h1 p2)), .val (.int (own_h1 p5))] [])) _
          refine XS.iconst X53.here hx rfl (hb hby at_146) ?_
          show Steps p.tables e below (T53.setTop (mkF m 147 #[.val (.int p0), .val (.int p1), .val (.int p2), .val (.int p3), .val (.int p4), .val (.int p5), .val (.int (1 : Int32)), .val (.ref b24), .val (.ref b25), .val (.int v38), .val (.int (own_h1 p2)), .val (.int (own_h1 p5))] [(.int (0 : Int32))])) _
          exact kt
      have hk59 : v57 = v38 := by rw [hv57, hv38]; exact own_law_1_0 _ _
      obtain ⟨fs, hr, hrun, hended, hW, hsame⟩ := X53.leave (v := some (.int (1 : Int32))) (fun h => by rw [Bd.returns] at h; cases h)
      refine ⟨_, _, pre34 _ ?_, hrun, hended, _, _, rfl, ?_, ⟨_, rfl⟩, hW, hsame.mono (by decide) (by decide)⟩
      ·
        show Steps p.tables e below (T31.setTop (mkF m 83 #[.val (.int p0), .val (.int p1), .val (.int p2), .val (.int p3), .val (.int p4), .val (.int p5), .val (.int (1 : Int32)), .val (.ref b24), .val (.ref b25), .val (.int (1 : Int32)), .val (.int (0 : Int32)), .unset] [])) _
        refine XS.aload X31.here hx rfl (hb hby at_83) rfl rfl ?_
        show Steps p.tables e below (T31.setTop (mkF m 85 #[.val (.int p0), .val (.int p1), .val (.int p2), .val (.int p3), .val (.int p4), .val (.int p5), .val (.int (1 : Int32)), .val (.ref b24), .val (.ref b25), .val (.int (1 : Int32)), .val (.int (0 : Int32)), .unset] [(.ref b24)])) _
        refine XS.iload X31.here hx rfl (hb hby at_85) rfl ?_
        show Steps p.tables e below (T31.setTop (mkF m 87 #[.val (.int p0), .val (.int p1), .val (.int p2), .val (.int p3), .val (.int p4), .val (.int p5), .val (.int (1 : Int32)), .val (.ref b24), .val (.ref b25), .val (.int (1 : Int32)), .val (.int (0 : Int32)), .unset] [(.int (0 : Int32)), (.ref b24)])) _
        refine X31.iaload hx (j := (0 : Int32)) (v := (.int p2)) (by rw [e31]; exact Aro36.1) (State.isArrayOf_alike hZ.alike Aro36.2.1) Aro36.2.2 hino36 hato36 (g := (mkF m 87 #[.val (.int p0), .val (.int p1), .val (.int p2), .val (.int p3), .val (.int p4), .val (.int p5), .val (.int (1 : Int32)), .val (.ref b24), .val (.ref b25), .val (.int (1 : Int32)), .val (.int (0 : Int32)), .unset] [(.int (0 : Int32)), (.ref b24)])) rfl rfl (hb hby at_87) _ ?_
        show Steps p.tables e below (T31.setTop (mkF m 88 #[.val (.int p0), .val (.int p1), .val (.int p2), .val (.int p3), .val (.int p4), .val (.int p5), .val (.int (1 : Int32)), .val (.ref b24), .val (.ref b25), .val (.int (1 : Int32)), .val (.int (0 : Int32)), .unset] [(.int p2)])) _
        refine XS.iload X31.here hx rfl (hb hby at_88) rfl ?_
        show Steps p.tables e below (T31.setTop (mkF m 90 #[.val (.int p0), .val (.int p1), .val (.int p2), .val (.int p3), .val (.int p4), .val (.int p5), .val (.int (1 : Int32)), .val (.ref b24), .val (.ref b25), .val (.int (1 : Int32)), .val (.int (0 : Int32)), .unset] [(.int p5), (.int p2)])) _
        refine mg39 _ ?_
        show Steps p.tables e below (T31.setTop (mkF m 98 #[.val (.int p0), .val (.int p1), .val (.int p2), .val (.int p3), .val (.int p4), .val (.int p5), .val (.int (1 : Int32)), .val (.ref b24), .val (.ref b25), .val (.int (1 : Int32)), .val (.int (0 : Int32)), .unset] [(.int v38)])) _
        refine XS.istore X31.here hx rfl (hb hby at_98) rfl (l' := #[.val (.int p0), .val (.int p1), .val (.int p2), .val (.int p3), .val (.int p4), .val (.int p5), .val (.int (1 : Int32)), .val (.ref b24), .val (.ref b25), .val (.int v38), .val (.int (0 : Int32)), .unset]) rfl ?_
        show Steps p.tables e below (T31.setTop (mkF m 100 #[.val (.int p0), .val (.int p1), .val (.int p2), .val (.int p3), .val (.int p4), .val (.int p5), .val (.int (1 : Int32)), .val (.ref b24), .val (.ref b25), .val (.int v38), .val (.int (0 : Int32)), .unset] [])) _
        refine XS.aload X31.here hx rfl (hb hby at_100) rfl rfl ?_
        show Steps p.tables e below (T31.setTop (mkF m 102 #[.val (.int p0), .val (.int p1), .val (.int p2), .val (.int p3), .val (.int p4), .val (.int p5), .val (.int (1 : Int32)), .val (.ref b24), .val (.ref b25), .val (.int v38), .val (.int (0 : Int32)), .unset] [(.ref b25)])) _
        refine XS.iload X31.here hx rfl (hb hby at_102) rfl ?_
        show Steps p.tables e below (T31.setTop (mkF m 104 #[.val (.int p0), .val (.int p1), .val (.int p2), .val (.int p3), .val (.int p4), .val (.int p5), .val (.int (1 : Int32)), .val (.ref b24), .val (.ref b25), .val (.int v38), .val (.int (0 : Int32)), .unset] [(.int (0 : Int32)), (.ref b25)])) _
        refine XS.iload X31.here hx rfl (hb hby at_104) rfl ?_
        show Steps p.tables e below (T31.setTop (mkF m 106 #[.val (.int p0), .val (.int p1), .val (.int p2), .val (.int p3), .val (.int p4), .val (.int p5), .val (.int (1 : Int32)), .val (.ref b24), .val (.ref b25), .val (.int v38), .val (.int (0 : Int32)), .unset] [(.int p5), (.int (0 : Int32)), (.ref b25)])) _
        refine st41 _ ?_
        show Steps p.tables e below (T41.setTop (mkF m 107 #[.val (.int p0), .val (.int p1), .val (.int p2), .val (.int p3), .val (.int p4), .val (.int p5), .val (.int (1 : Int32)), .val (.ref b24), .val (.ref b25), .val (.int v38), .val (.int (0 : Int32)), .unset] [])) _
        refine st43 _ ?_
        show Steps p.tables e below (T43.setTop (mkF m 110 #[.val (.int p0), .val (.int p1), .val (.int p2), .val (.int p3), .val (.int p4), .val (.int p5), .val (.int (1 : Int32)), .val (.ref b24), .val (.ref b25), .val (.int v38), .val (.int (0 : Int32)), .unset] [(.ref b43)])) _
        refine XS.dup X43.here hx rfl (hb hby at_110) rfl rfl ?_
        show Steps p.tables e below (T43.setTop (mkF m 111 #[.val (.int p0), .val (.int p1), .val (.int p2), .val (.int p3), .val (.int p4), .val (.int p5), .val (.int (1 : Int32)), .val (.ref b24), .val (.ref b25), .val (.int v38), .val (.int (0 : Int32)), .unset] [(.ref b43), (.ref b43)])) _
        refine XS.aload X43.here hx rfl (hb hby at_111) rfl rfl ?_
        show Steps p.tables e below (T43.setTop (mkF m 113 #[.val (.int p0), .val (.int p1), .val (.int p2), .val (.int p3), .val (.int p4), .val (.int p5), .val (.int (1 : Int32)), .val (.ref b24), .val (.ref b25), .val (.int v38), .val (.int (0 : Int32)), .unset] [(.ref b24), (.ref b43), (.ref b43)])) _
        refine st44.trans ?_
        show Steps p.tables e below (T44.setTop (mkF m 116 #[.val (.int p0), .val (.int p1), .val (.int p2), .val (.int p3), .val (.int p4), .val (.int p5), .val (.int (1 : Int32)), .val (.ref b24), .val (.ref b25), .val (.int v38), .val (.int (0 : Int32)), .unset] [(.ref b43)])) _
        refine st45.trans ?_
        show Steps p.tables e below (T45.setTop (mkF m 119 #[.val (.int p0), .val (.int p1), .val (.int p2), .val (.int p3), .val (.int p4), .val (.int p5), .val (.int (1 : Int32)), .val (.ref b24), .val (.ref b25), .val (.int v38), .val (.int (0 : Int32)), .unset] [(.int (own_h1 p2))])) _
        refine XS.istore X45.here hx rfl (hb hby at_119) rfl (l' := #[.val (.int p0), .val (.int p1), .val (.int p2), .val (.int p3), .val (.int p4), .val (.int p5), .val (.int (1 : Int32)), .val (.ref b24), .val (.ref b25), .val (.int v38), .val (.int (own_h1 p2)), .unset]) rfl ?_
        show Steps p.tables e below (T45.setTop (mkF m 121 #[.val (.int p0), .val (.int p1), .val (.int p2), .val (.int p3), .val (.int p4), .val (.int p5), .val (.int (1 : Int32)), .val (.ref b24), .val (.ref b25), .val (.int v38), .val (.int (own_h1 p2)), .unset] [])) _
        refine st51 _ ?_
        show Steps p.tables e below (T51.setTop (mkF m 124 #[.val (.int p0), .val (.int p1), .val (.int p2), .val (.int p3), .val (.int p4), .val (.int p5), .val (.int (1 : Int32)), .val (.ref b24), .val (.ref b25), .val (.int v38), .val (.int (own_h1 p2)), .unset] [(.ref b51)])) _
        refine XS.dup X51.here hx rfl (hb hby at_124) rfl rfl ?_
        show Steps p.tables e below (T51.setTop (mkF m 125 #[.val (.int p0), .val (.int p1), .val (.int p2), .val (.int p3), .val (.int p4), .val (.int p5), .val (.int (1 : Int32)), .val (.ref b24), .val (.ref b25), .val (.int v38), .val (.int (own_h1 p2)), .unset] [(.ref b51), (.ref b51)])) _
        refine XS.aload X51.here hx rfl (hb hby at_125) rfl rfl ?_
        show Steps p.tables e below (T51.setTop (mkF m 127 #[.val (.int p0), .val (.int p1), .val (.int p2), .val (.int p3), .val (.int p4), .val (.int p5), .val (.int (1 : Int32)), .val (.ref b24), .val (.ref b25), .val (.int v38), .val (.int (own_h1 p2)), .unset] [(.ref b25), (.ref b51), (.ref b51)])) _
        refine st52.trans ?_
        show Steps p.tables e below (T52.setTop (mkF m 130 #[.val (.int p0), .val (.int p1), .val (.int p2), .val (.int p3), .val (.int p4), .val (.int p5), .val (.int (1 : Int32)), .val (.ref b24), .val (.ref b25), .val (.int v38), .val (.int (own_h1 p2)), .unset] [(.ref b51)])) _
        refine st53.trans ?_
        show Steps p.tables e below (T53.setTop (mkF m 133 #[.val (.int p0), .val (.int p1), .val (.int p2), .val (.int p3), .val (.int p4), .val (.int p5), .val (.int (1 : Int32)), .val (.ref b24), .val (.ref b25), .val (.int v38), .val (.int (own_h1 p2)), .unset] [(.int (own_h1 p5))])) _
        refine XS.istore X53.here hx rfl (hb hby at_133) rfl (l' := #[.val (.int p0), .val (.int p1), .val (.int p2), .val (.int p3), .val (.int p4), .val (.int p5), .val (.int (1 : Int32)), .val (.ref b24), .val (.ref b25), .val (.int v38), .val (.int (own_h1 p2)), .val (.int (own_h1 p5))]) rfl ?_
        show Steps p.tables e below (T53.setTop (mkF m 135 #[.val (.int p0), .val (.int p1), .val (.int p2), .val (.int p3), .val (.int p4), .val (.int p5), .val (.int (1 : Int32)), .val (.ref b24), .val (.ref b25), .val (.int v38), .val (.int (own_h1 p2)), .val (.int (own_h1 p5))] [])) _
        refine XS.iload X53.here hx rfl (hb hby at_135) rfl ?_
        show Steps p.tables e below (T53.setTop (mkF m 137 #[.val (.int p0), .val (.int p1), .val (.int p2), .val (.int p3), .val (.int p4), .val (.int p5), .val (.int (1 : Int32)), .val (.ref b24), .val (.ref b25), .val (.int v38), .val (.int (own_h1 p2)), .val (.int (own_h1 p5))] [(.int (own_h1 p2))])) _
        refine XS.iload X53.here hx rfl (hb hby at_137) rfl ?_
        show Steps p.tables e below (T53.setTop (mkF m 139 #[.val (.int p0), .val (.int p1), .val (.int p2), .val (.int p3), .val (.int p4), .val (.int p5), .val (.int (1 : Int32)), .val (.ref b24), .val (.ref b25), .val (.int v38), .val (.int (own_h1 p2)), .val (.int (own_h1 p5))] [(.int (own_h1 p5)), (.int (own_h1 p2))])) _
        refine mg58 _ ?_
        show Steps p.tables e below (T53.setTop (mkF m 147 #[.val (.int p0), .val (.int p1), .val (.int p2), .val (.int p3), .val (.int p4), .val (.int p5), .val (.int (1 : Int32)), .val (.ref b24), .val (.ref b25), .val (.int v38), .val (.int (own_h1 p2)), .val (.int (own_h1 p5))] [(.int v57)])) _
        refine XS.iload X53.here hx rfl (hb hby at_147) rfl ?_
        show Steps p.tables e below (T53.setTop (mkF m 149 #[.val (.int p0), .val (.int p1), .val (.int p2), .val (.int p3), .val (.int p4), .val (.int p5), .val (.int (1 : Int32)), .val (.ref b24), .val (.ref b25), .val (.int v38), .val (.int (own_h1 p2)), .val (.int (own_h1 p5))] [(.int v38), (.int v57)])) _
        refine XS.icmpNo X53.here hx rfl (hb hby at_149) rfl (teq hk59).2 ?_
        show Steps p.tables e below (T53.setTop (mkF m 152 #[.val (.int p0), .val (.int p1), .val (.int p2), .val (.int p3), .val (.int p4), .val (.int p5), .val (.int (1 : Int32)), .val (.ref b24), .val (.ref b25), .val (.int v38), .val (.int (own_h1 p2)), .val (.int (own_h1 p5))] [])) _
        refine XS.iconst X53.here hx rfl (hb hby at_152) ?_
        show Steps p.tables e below (T53.setTop (mkF m 153 #[.val (.int p0), .val (.int p1), .val (.int p2), .val (.int p3), .val (.int p4), .val (.int p5), .val (.int (1 : Int32)), .val (.ref b24), .val (.ref b25), .val (.int v38), .val (.int (own_h1 p2)), .val (.int (own_h1 p5))] [(.int (1 : Int32))])) _
        refine XS.goto X53.here hx rfl (pc0 := 153) (pc' := 157) rfl (hb hby at_153) (by decide) (by decide) ?_
        show Steps p.tables e below (T53.setTop (mkF m 157 #[.val (.int p0), .val (.int p1), .val (.int p2), .val (.int p3), .val (.int p4), .val (.int p5), .val (.int (1 : Int32)), .val (.ref b24), .val (.ref b25), .val (.int v38), .val (.int (own_h1 p2)), .val (.int (own_h1 p5))] [(.int (1 : Int32))])) _
        exact retN X53 hx (t := .boolean) Bd.returns (by simp) (hb hby at_157) hr
      ·
        show Q0 Z p0 p1 p2 p3 p4 p5 h0 n0 _ T53.heap _
        exact ⟨rfl, N53⟩
  ·
    subst q
    obtain ⟨T60, h60, k60, X60, e60, E60, A60, st60⟩ := newP X0 hx hZ (hw _ (List.mem_of_getElem? (i := 0) rfl)) e0 (g := (mkF m 7 #[.val (.int p0), .val (.int p1), .val (.int p2), .val (.int p3), .val (.int p4), .val (.int p5), .val (.int (2 : Int32)), .unset, .unset, .unset, .unset, .unset] [(.int (2 : Int32))])) rfl (hb hby at_7) rfl (by decide) (cap := 2) (by decide) (by decide) (by decide) (by decide)
    obtain ⟨b60, g60⟩ : ∃ z, z = h0.size := ⟨_, rfl⟩
    rw [← g60] at A60 st60
    have g_b60 : n0 ≤ b60 := Nat.le_trans (Nat.le_trans Z0 K0.1) (Nat.le_of_eq g60.symm)
    have sz_b60 : h0.size ≤ b60 := Nat.le_trans K0.1 (Nat.le_of_eq g60.symm)
    have K60 := K0.ext E60
    have V_b60 : Arv Z h60 b60 k60 .int (2 : Int32) [(.int (0 : Int32)), (.int (0 : Int32))] (.int (0 : Int32)) := (Arv.new A60 (by decide)).pad (pad_rep [] (.int (0 : Int32)) 2)
    obtain ⟨T61, h61, k61, X61, e61, E61, A61, st61⟩ := newP X60 hx hZ (hw _ (List.mem_of_getElem? (i := 0) rfl)) e60 (g := (mkF m 13 #[.val (.int p0), .val (.int p1), .val (.int p2), .val (.int p3), .val (.int p4), .val (.int p5), .val (.int (2 : Int32)), .val (.ref b60), .unset, .unset, .unset, .unset] [(.int (2 : Int32))])) rfl (hb hby at_13) rfl (by decide) (cap := 2) (by decide) (by decide) (by decide) (by decide)
    obtain ⟨b61, g61⟩ : ∃ z, z = h60.size := ⟨_, rfl⟩
    rw [← g61] at A61 st61
    have g_b61 : n0 ≤ b61 := Nat.le_trans (Nat.le_trans Z0 K60.1) (Nat.le_of_eq g61.symm)
    have sz_b61 : h0.size ≤ b61 := Nat.le_trans K60.1 (Nat.le_of_eq g61.symm)
    have ne_b60_b61 : b60 ≠ b61 := Nat.ne_of_lt (Nat.lt_of_lt_of_le V_b60.lt (Nat.le_of_eq g61.symm))
    have K61 := K60.ext E61
    have V_b61 : Arv Z h61 b61 k61 .int (2 : Int32) [(.int (0 : Int32)), (.int (0 : Int32))] (.int (0 : Int32)) := (Arv.new A61 (by decide)).pad (pad_rep [] (.int (0 : Int32)) 2)
    have c62 := (V_b60.ext E61)
    obtain ⟨clo63, Aro63, qo63, So63, No63, Ho63, Go63⟩ := id c62
    have hino63 : ¬ ((0 : Int32) < 0 ∨ clo63.slots.size ≤ ((0 : Int32)).toNatClampNeg) := inb_of So63 ⟨by decide, by decide⟩
    obtain ⟨T64, h64, X64, e64, W64, st64⟩ := stI X61 hx hZ e61 Aro63 (j := (0 : Int32)) hino63 (g := (mkF m 26 #[.val (.int p0), .val (.int p1), .val (.int p2), .val (.int p3), .val (.int p4), .val (.int p5), .val (.int (2 : Int32)), .val (.ref b60), .val (.ref b61), .unset, .unset, .unset] [(.int p2), (.int (0 : Int32)), (.ref b60)])) rfl rfl (hb hby at_26)
    have V64 : Arv Z h64 b60 k60 .int (2 : Int32) [(.int p2), (.int (0 : Int32))] (.int (0 : Int32)) := Arv.set Aro63 qo63 So63 No63 Ho63 Go63 rfl W64 0 rfl (Nat.le_of_ble_eq_true rfl)
    have K64 := K61.wr W64 (Or.inr sz_b60)
    have N64 := Fr.snoc X64 N0 g_b60
    have c65 := (V_b61.other W64 (Ne.symm ne_b60_b61))
    obtain ⟨clo66, Aro66, qo66, So66, No66, Ho66, Go66⟩ := id c65
    have hino66 : ¬ ((0 : Int32) < 0 ∨ clo66.slots.size ≤ ((0 : Int32)).toNatClampNeg) := inb_of So66 ⟨by decide, by decide⟩
    obtain ⟨T67, h67, X67, e67, W67, st67⟩ := stI X64 hx hZ e64 Aro66 (j := (0 : Int32)) hino66 (g := (mkF m 31 #[.val (.int p0), .val (.int p1), .val (.int p2), .val (.int p3), .val (.int p4), .val (.int p5), .val (.int (2 : Int32)), .val (.ref b60), .val (.ref b61), .unset, .unset, .unset] [(.int p2), (.int (0 : Int32)), (.ref b61)])) rfl rfl (hb hby at_31)
    have V67 : Arv Z h67 b61 k61 .int (2 : Int32) [(.int p2), (.int (0 : Int32))] (.int (0 : Int32)) := Arv.set Aro66 qo66 So66 No66 Ho66 Go66 rfl W67 0 rfl (Nat.le_of_ble_eq_true rfl)
    have K67 := K64.wr W67 (Or.inr sz_b61)
    have N67 := Fr.snoc X67 N64 g_b61
    have c68 := (V64.other W67 ne_b60_b61)
    obtain ⟨clo69, Aro69, qo69, So69, No69, Ho69, Go69⟩ := id c68
    have hino69 : ¬ ((1 : Int32) < 0 ∨ clo69.slots.size ≤ ((1 : Int32)).toNatClampNeg) := inb_of So69 ⟨by decide, by decide⟩
    obtain ⟨T70, h70, X70, e70, W70, st70⟩ := stI X67 hx hZ e67 Aro69 (j := (1 : Int32)) hino69 (g := (mkF m 42 #[.val (.int p0), .val (.int p1), .val (.int p2), .val (.int p3), .val (.int p4), .val (.int p5), .val (.int (2 : Int32)), .val (.ref b60), .val (.ref b61), .unset, .unset, .unset] [(.int p3), (.int (1 : Int32)), (.ref b60)])) rfl rfl (hb hby at_42)
    have V70 : Arv Z h70 b60 k60 .int (2 : Int32) [(.int p2), (.int p3)] (.int (0 : Int32)) := Arv.set Aro69 qo69 So69 No69 Ho69 Go69 rfl W70 1 rfl (Nat.le_of_ble_eq_true rfl)
    have K70 := K67.wr W70 (Or.inr sz_b60)
    have N70 := Fr.snoc X70 N67 g_b60
    have c71 := (V67.other W70 (Ne.symm ne_b60_b61))
    obtain ⟨clo72, Aro72, qo72, So72, No72, Ho72, Go72⟩ := id c71
    have hino72 : ¬ ((1 : Int32) < 0 ∨ clo72.slots.size ≤ ((1 : Int32)).toNatClampNeg) := inb_of So72 ⟨by decide, by decide⟩
    obtain ⟨T73, h73, X73, e73, W73, st73⟩ := stI X70 hx hZ e70 Aro72 (j := (1 : Int32)) hino72 (g := (mkF m 47 #[.val (.int p0), .val (.int p1), .val (.int p2), .val (.int p3), .val (.int p4), .val (.int p5), .val (.int (2 : Int32)), .val (.ref b60), .val (.ref b61), .unset, .unset, .unset] [(.int p3), (.int (1 : Int32)), (.ref b61)])) rfl rfl (hb hby at_47)
    have V73 : Arv Z h73 b61 k61 .int (2 : Int32) [(.int p2), (.int p3)] (.int (0 : Int32)) := Arv.set Aro72 qo72 So72 No72 Ho72 Go72 rfl W73 1 rfl (Nat.le_of_ble_eq_true rfl)
    have K73 := K70.wr W73 (Or.inr sz_b61)
    have N73 := Fr.snoc X73 N70 g_b61
    obtain ⟨pv74, hpv74⟩ : ∃ z, z = ((p1 &&& (2147483647 : Int32)) - (p1 &&& (2147483647 : Int32)) / (2 : Int32) * (2 : Int32)) := ⟨_, rfl⟩
    have pre75 : ∀ t, Steps p.tables e below (T73.setTop (mkF m 81 #[.val (.int p0), .val (.int p1), .val (.int p2), .val (.int p3), .val (.int p4), .val (.int p5), .val (.int (2 : Int32)), .val (.ref b60), .val (.ref b61), .val (.int (1 : Int32)), .unset, .unset] [(.int pv74)])) t → Steps p.tables e below (s₁.setTop (entryFrame m #[(.int p0), (.int p1), (.int p2), (.int p3), (.int p4), (.int p5)] maxLocals)) t := by
      intro t kt
      rw [hpv74] at kt
      refine pre3 _ ?_
      show Steps p.tables e below (s₁.setTop (mkF m 5 #[.val (.int p0), .val (.int p1), .val (.int p2), .val (.int p3), .val (.int p4), .val (.int p5), .val (.int (2 : Int32)), .unset, .unset, .unset, .unset, .unset] [])) _
      refine XS.iload X0.here hx rfl (hb hby at_5) rfl ?_
      show Steps p.tables e below (s₁.setTop (mkF m 7 #[.val (.int p0), .val (.int p1), .val (.int p2), .val (.int p3), .val (.int p4), .val (.int p5), .val (.int (2 : Int32)), .unset, .unset, .unset, .unset, .unset] [(.int (2 : Int32))])) _
      refine st60 _ ?_
      show Steps p.tables e below (T60.setTop (mkF m 9 #[.val (.int p0), .val (.int p1), .val (.int p2), .val (.int p3), .val (.int p4), .val (.int p5), .val (.int (2 : Int32)), .unset, .unset, .unset, .unset, .unset] [(.ref b60)])) _
      refine XS.astore X60.here hx rfl (hb hby at_9) rfl rfl (l' := #[.val (.int p0), .val (.int p1), .val (.int p2), .val (.int p3), .val (.int p4), .val (.int p5), .val (.int (2 : Int32)), .val (.ref b60), .unset, .unset, .unset, .unset]) rfl ?_
      show Steps p.tables e below (T60.setTop (mkF m 11 #[.val (.int p0), .val (.int p1), .val (.int p2), .val (.int p3), .val (.int p4), .val (.int p5), .val (.int (2 : Int32)), .val (.ref b60), .unset, .unset, .unset, .unset] [])) _
      refine XS.iload X60.here hx rfl (hb hby at_11) rfl ?_
      show Steps p.tables e below (T60.setTop (mkF m 13 #[.val (.int p0), .val (.int p1), .val (.int p2), .val (.int p3), .val (.int p4), .val (.int p5), .val (.int (2 : Int32)), .val (.ref b60), .unset, .unset, .unset, .unset] [(.int (2 : Int32))])) _
      refine st61 _ ?_
      show Steps p.tables e below (T61.setTop (mkF m 15 #[.val (.int p0), .val (.int p1), .val (.int p2), .val (.int p3), .val (.int p4), .val (.int p5), .val (.int (2 : Int32)), .val (.ref b60), .unset, .unset, .unset, .unset] [(.ref b61)])) _
      refine XS.astore X61.here hx rfl (hb hby at_15) rfl rfl (l' := #[.val (.int p0), .val (.int p1), .val (.int p2), .val (.int p3), .val (.int p4), .val (.int p5), .val (.int (2 : Int32)), .val (.ref b60), .val (.ref b61), .unset, .unset, .unset]) rfl ?_
      show Steps p.tables e below (T61.setTop (mkF m 17 #[.val (.int p0), .val (.int p1), .val (.int p2), .val (.int p3), .val (.int p4), .val (.int p5), .val (.int (2 : Int32)), .val (.ref b60), .val (.ref b61), .unset, .unset, .unset] [])) _
      refine XS.iload X61.here hx rfl (hb hby at_17) rfl ?_
      show Steps p.tables e below (T61.setTop (mkF m 19 #[.val (.int p0), .val (.int p1), .val (.int p2), .val (.int p3), .val (.int p4), .val (.int p5), .val (.int (2 : Int32)), .val (.ref b60), .val (.ref b61), .unset, .unset, .unset] [(.int (2 : Int32))])) _
      refine XS.ifNo X61.here hx rfl (hb hby at_19) rfl ((if0 _ _).trans (tlt (by decide : (0 : Int32) < (2 : Int32))).2.2.2) ?_
      show Steps p.tables e below (T61.setTop (mkF m 22 #[.val (.int p0), .val (.int p1), .val (.int p2), .val (.int p3), .val (.int p4), .val (.int p5), .val (.int (2 : Int32)), .val (.ref b60), .val (.ref b61), .unset, .unset, .unset] [])) _
      refine XS.aload X61.here hx rfl (hb hby at_22) rfl rfl ?_
      show Steps p.tables e below (T61.setTop (mkF m 24 #[.val (.int p0), .val (.int p1), .val (.int p2), .val (.int p3), .val (.int p4), .val (.int p5), .val (.int (2 : Int32)), .val (.ref b60), .val (.ref b61), .unset, .unset, .unset] [(.ref b60)])) _
      refine XS.iconst X61.here hx rfl (hb hby at_24) ?_
      show Steps p.tables e below (T61.setTop (mkF m 25 #[.val (.int p0), .val (.int p1), .val (.int p2), .val (.int p3), .val (.int p4), .val (.int p5), .val (.int (2 : Int32)), .val (.ref b60), .val (.ref b61), .unset, .unset, .unset] [(.int (0 : Int32)), (.ref b60)])) _
      refine XS.iloadN X61.here hx rfl (hb hby at_25) rfl ?_
      show Steps p.tables e below (T61.setTop (mkF m 26 #[.val (.int p0), .val (.int p1), .val (.int p2), .val (.int p3), .val (.int p4), .val (.int p5), .val (.int (2 : Int32)), .val (.ref b60), .val (.ref b61), .unset, .unset, .unset] [(.int p2), (.int (0 : Int32)), (.ref b60)])) _
      refine st64 _ ?_
      show Steps p.tables e below (T64.setTop (mkF m 27 #[.val (.int p0), .val (.int p1), .val (.int p2), .val (.int p3), .val (.int p4), .val (.int p5), .val (.int (2 : Int32)), .val (.ref b60), .val (.ref b61), .unset, .unset, .unset] [])) _
      refine XS.aload X64.here hx rfl (hb hby at_27) rfl rfl ?_
      show Steps p.tables e below (T64.setTop (mkF m 29 #[.val (.int p0), .val (.int p1), .val (.int p2), .val (.int p3), .val (.int p4), .val (.int p5), .val (.int (2 : Int32)), .val (.ref b60), .val (.ref b61), .unset, .unset, .unset] [(.ref b61)])) _
      refine XS.iconst X64.here hx rfl (hb hby at_29) ?_
      show Steps p.tables e below (T64.setTop (mkF m 30 #[.val (.int p0), .val (.int p1), .val (.int p2), .val (.int p3), .val (.int p4), .val (.int p5), .val (.int (2 : Int32)), .val (.ref b60), .val (.ref b61), .unset, .unset, .unset] [(.int (0 : Int32)), (.ref b61)])) _
      refine XS.iloadN X64.here hx rfl (hb hby at_30) rfl ?_
      show Steps p.tables e below (T64.setTop (mkF m 31 #[.val (.int p0), .val (.int p1), .val (.int p2), .val (.int p3), .val (.int p4), .val (.int p5), .val (.int (2 : Int32)), .val (.ref b60), .val (.ref b61), .unset, .unset, .unset] [(.int p2), (.int (0 : Int32)), (.ref b61)])) _
      refine st67 _ ?_
      show Steps p.tables e below (T67.setTop (mkF m 32 #[.val (.int p0), .val (.int p1), .val (.int p2), .val (.int p3), .val (.int p4), .val (.int p5), .val (.int (2 : Int32)), .val (.ref b60), .val (.ref b61), .unset, .unset, .unset] [])) _
      refine XS.iload X67.here hx rfl (hb hby at_32) rfl ?_
      show Steps p.tables e below (T67.setTop (mkF m 34 #[.val (.int p0), .val (.int p1), .val (.int p2), .val (.int p3), .val (.int p4), .val (.int p5), .val (.int (2 : Int32)), .val (.ref b60), .val (.ref b61), .unset, .unset, .unset] [(.int (2 : Int32))])) _
      refine XS.iconst X67.here hx rfl (hb hby at_34) ?_
      show Steps p.tables e below (T67.setTop (mkF m 35 #[.val (.int p0), .val (.int p1), .val (.int p2), .val (.int p3), .val (.int p4), .val (.int p5), .val (.int (2 : Int32)), .val (.ref b60), .val (.ref b61), .unset, .unset, .unset] [(.int (1 : Int32)), (.int (2 : Int32))])) _
      refine XS.icmpNo X67.here hx rfl (hb hby at_35) rfl (tlt (by decide : (1 : Int32) < (2 : Int32))).2.2.2 ?_
      show Steps p.tables e below (T67.setTop (mkF m 38 #[.val (.int p0), .val (.int p1), .val (.int p2), .val (.int p3), .val (.int p4), .val (.int p5), .val (.int (2 : Int32)), .val (.ref b60), .val (.ref b61), .unset, .unset, .unset] [])) _
      refine XS.aload X67.here hx rfl (hb hby at_38) rfl rfl ?_
      show Steps p.tables e below (T67.setTop (mkF m 40 #[.val (.int p0), .val (.int p1), .val (.int p2), .val (.int p3), .val (.int p4), .val (.int p5), .val (.int (2 : Int32)), .val (.ref b60), .val (.ref b61), .unset, .unset, .unset] [(.ref b60)])) _
      refine XS.iconst X67.here hx rfl (hb hby at_40) ?_
      show Steps p.tables e below (T67.setTop (mkF m 41 #[.val (.int p0), .val (.int p1), .val (.int p2), .val (.int p3), .val (.int p4), .val (.int p5), .val (.int (2 : Int32)), .val (.ref b60), .val (.ref b61), .unset, .unset, .unset] [(.int (1 : Int32)), (.ref b60)])) _
      refine XS.iloadN X67.here hx rfl (hb hby at_41) rfl ?_
      show Steps p.tables e below (T67.setTop (mkF m 42 #[.val (.int p0), .val (.int p1), .val (.int p2), .val (.int p3), .val (.int p4), .val (.int p5), .val (.int (2 : Int32)), .val (.ref b60), .val (.ref b61), .unset, .unset, .unset] [(.int p3), (.int (1 : Int32)), (.ref b60)])) _
      refine st70 _ ?_
      show Steps p.tables e below (T70.setTop (mkF m 43 #[.val (.int p0), .val (.int p1), .val (.int p2), .val (.int p3), .val (.int p4), .val (.int p5), .val (.int (2 : Int32)), .val (.ref b60), .val (.ref b61), .unset, .unset, .unset] [])) _
      refine XS.aload X70.here hx rfl (hb hby at_43) rfl rfl ?_
      show Steps p.tables e below (T70.setTop (mkF m 45 #[.val (.int p0), .val (.int p1), .val (.int p2), .val (.int p3), .val (.int p4), .val (.int p5), .val (.int (2 : Int32)), .val (.ref b60), .val (.ref b61), .unset, .unset, .unset] [(.ref b61)])) _
      refine XS.iconst X70.here hx rfl (hb hby at_45) ?_
      show Steps p.tables e below (T70.setTop (mkF m 46 #[.val (.int p0), .val (.int p1), .val (.int p2), .val (.int p3), .val (.int p4), .val (.int p5), .val (.int (2 : Int32)), .val (.ref b60), .val (.ref b61), .unset, .unset, .unset] [(.int (1 : Int32)), (.ref b61)])) _
      refine XS.iloadN X70.here hx rfl (hb hby at_46) rfl ?_
      show Steps p.tables e below (T70.setTop (mkF m 47 #[.val (.int p0), .val (.int p1), .val (.int p2), .val (.int p3), .val (.int p4), .val (.int p5), .val (.int (2 : Int32)), .val (.ref b60), .val (.ref b61), .unset, .unset, .unset] [(.int p3), (.int (1 : Int32)), (.ref b61)])) _
      refine st73 _ ?_
      show Steps p.tables e below (T73.setTop (mkF m 48 #[.val (.int p0), .val (.int p1), .val (.int p2), .val (.int p3), .val (.int p4), .val (.int p5), .val (.int (2 : Int32)), .val (.ref b60), .val (.ref b61), .unset, .unset, .unset] [])) _
      refine XS.iload X73.here hx rfl (hb hby at_48) rfl ?_
      show Steps p.tables e below (T73.setTop (mkF m 50 #[.val (.int p0), .val (.int p1), .val (.int p2), .val (.int p3), .val (.int p4), .val (.int p5), .val (.int (2 : Int32)), .val (.ref b60), .val (.ref b61), .unset, .unset, .unset] [(.int (2 : Int32))])) _
      refine XS.iconst X73.here hx rfl (hb hby at_50) ?_
      show Steps p.tables e below (T73.setTop (mkF m 51 #[.val (.int p0), .val (.int p1), .val (.int p2), .val (.int p3), .val (.int p4), .val (.int p5), .val (.int (2 : Int32)), .val (.ref b60), .val (.ref b61), .unset, .unset, .unset] [(.int (2 : Int32)), (.int (2 : Int32))])) _
      refine XS.icmpYes X73.here hx rfl (pc0 := 51) (pc' := 66) rfl (hb hby at_51) rfl (flt (by decide : ¬ ((2 : Int32) < (2 : Int32)))).2.2.2 (by decide) (by decide) ?_
      show Steps p.tables e below (T73.setTop (mkF m 66 #[.val (.int p0), .val (.int p1), .val (.int p2), .val (.int p3), .val (.int p4), .val (.int p5), .val (.int (2 : Int32)), .val (.ref b60), .val (.ref b61), .unset, .unset, .unset] [])) _
      refine XS.iconst X73.here hx rfl (hb hby at_66) ?_
      show Steps p.tables e below (T73.setTop (mkF m 67 #[.val (.int p0), .val (.int p1), .val (.int p2), .val (.int p3), .val (.int p4), .val (.int p5), .val (.int (2 : Int32)), .val (.ref b60), .val (.ref b61), .unset, .unset, .unset] [(.int (1 : Int32))])) _
      refine XS.istore X73.here hx rfl (hb hby at_67) rfl (l' := #[.val (.int p0), .val (.int p1), .val (.int p2), .val (.int p3), .val (.int p4), .val (.int p5), .val (.int (2 : Int32)), .val (.ref b60), .val (.ref b61), .val (.int (1 : Int32)), .unset, .unset]) rfl ?_
      show Steps p.tables e below (T73.setTop (mkF m 69 #[.val (.int p0), .val (.int p1), .val (.int p2), .val (.int p3), .val (.int p4), .val (.int p5), .val (.int (2 : Int32)), .val (.ref b60), .val (.ref b61), .val (.int (1 : Int32)), .unset, .unset] [])) _
      refine XS.iload X73.here hx rfl (hb hby at_69) rfl ?_
      show Steps p.tables e below (T73.setTop (mkF m 71 #[.val (.int p0), .val (.int p1), .val (.int p2), .val (.int p3), .val (.int p4), .val (.int p5), .val (.int (2 : Int32)), .val (.ref b60), .val (.ref b61), .val (.int (1 : Int32)), .unset, .unset] [(.int (2 : Int32))])) _
      refine XS.ifNo X73.here hx rfl (hb hby at_71) rfl ((if0 _ _).trans (tlt (by decide : (0 : Int32) < (2 : Int32))).2.2.2) ?_
      show Steps p.tables e below (T73.setTop (mkF m 74 #[.val (.int p0), .val (.int p1), .val (.int p2), .val (.int p3), .val (.int p4), .val (.int p5), .val (.int (2 : Int32)), .val (.ref b60), .val (.ref b61), .val (.int (1 : Int32)), .unset, .unset] [])) _
      refine XS.iloadN X73.here hx rfl (hb hby at_74) rfl ?_
      show Steps p.tables e below (T73.setTop (mkF m 75 #[.val (.int p0), .val (.int p1), .val (.int p2), .val (.int p3), .val (.int p4), .val (.int p5), .val (.int (2 : Int32)), .val (.ref b60), .val (.ref b61), .val (.int (1 : Int32)), .unset, .unset] [(.int p1)])) _
      refine X73.ldcInt hx hown (mvT hZ (hw _ (List.mem_of_getElem? (i := 22) rfl))) (g := (mkF m 75 #[.val (.int p0), .val (.int p1), .val (.int p2), .val (.int p3), .val (.int p4), .val (.int p5), .val (.int (2 : Int32)), .val (.ref b60), .val (.ref b61), .val (.int (1 : Int32)), .unset, .unset] [(.int p1)])) rfl (hb hby at_75) _ ?_
      show Steps p.tables e below (T73.setTop (mkF m 77 #[.val (.int p0), .val (.int p1), .val (.int p2), .val (.int p3), .val (.int p4), .val (.int p5), .val (.int (2 : Int32)), .val (.ref b60), .val (.ref b61), .val (.int (1 : Int32)), .unset, .unset] [(.int (2147483647 : Int32)), (.int p1)])) _
      refine XS.iand X73.here hx rfl (hb hby at_77) rfl ?_
      show Steps p.tables e below (T73.setTop (mkF m 78 #[.val (.int p0), .val (.int p1), .val (.int p2), .val (.int p3), .val (.int p4), .val (.int p5), .val (.int (2 : Int32)), .val (.ref b60), .val (.ref b61), .val (.int (1 : Int32)), .unset, .unset] [(.int (p1 &&& (2147483647 : Int32)))])) _
      refine XS.iload X73.here hx rfl (hb hby at_78) rfl ?_
      show Steps p.tables e below (T73.setTop (mkF m 80 #[.val (.int p0), .val (.int p1), .val (.int p2), .val (.int p3), .val (.int p4), .val (.int p5), .val (.int (2 : Int32)), .val (.ref b60), .val (.ref b61), .val (.int (1 : Int32)), .unset, .unset] [(.int (2 : Int32)), (.int (p1 &&& (2147483647 : Int32)))])) _
      refine XS.irem X73.here hx rfl (hb hby at_80) rfl (by decide) ?_
      show Steps p.tables e below (T73.setTop (mkF m 81 #[.val (.int p0), .val (.int p1), .val (.int p2), .val (.int p3), .val (.int p4), .val (.int p5), .val (.int (2 : Int32)), .val (.ref b60), .val (.ref b61), .val (.int (1 : Int32)), .unset, .unset] [(.int ((p1 &&& (2147483647 : Int32)) - (p1 &&& (2147483647 : Int32)) / (2 : Int32) * (2 : Int32)))])) _
      exact kt
    have pre76 : ∀ t, Steps p.tables e below (T73.setTop (mkF m 83 #[.val (.int p0), .val (.int p1), .val (.int p2), .val (.int p3), .val (.int p4), .val (.int p5), .val (.int (2 : Int32)), .val (.ref b60), .val (.ref b61), .val (.int (1 : Int32)), .val (.int pv74), .unset] [])) t → Steps p.tables e below (s₁.setTop (entryFrame m #[(.int p0), (.int p1), (.int p2), (.int p3), (.int p4), (.int p5)] maxLocals)) t := by
      intro t kt
      refine pre75 _ ?_
      show Steps p.tables e below (T73.setTop (mkF m 81 #[.val (.int p0), .val (.int p1), .val (.int p2), .val (.int p3), .val (.int p4), .val (.int p5), .val (.int (2 : Int32)), .val (.ref b60), .val (.ref b61), .val (.int (1 : Int32)), .unset, .unset] [(.int pv74)])) _
      refine XS.istore X73.here hx rfl (hb hby at_81) rfl (l' := #[.val (.int p0), .val (.int p1), .val (.int p2), .val (.int p3), .val (.int p4), .val (.int p5), .val (.int (2 : Int32)), .val (.ref b60), .val (.ref b61), .val (.int (1 : Int32)), .val (.int pv74), .unset]) rfl ?_
      show Steps p.tables e below (T73.setTop (mkF m 83 #[.val (.int p0), .val (.int p1), .val (.int p2), .val (.int p3), .val (.int p4), .val (.int p5), .val (.int (2 : Int32)), .val (.ref b60), .val (.ref b61), .val (.int (1 : Int32)), .val (.int pv74), .unset] [])) _
      exact kt
    rcases own_p2 hpv74 with q | q
    ·
      subst q
      have c77 := (V70.other W73 ne_b60_b61)
      obtain ⟨clo78, Aro78, -, So78, No78, Ho78, -⟩ := id c77
      have hino78 : ¬ ((0 : Int32) < 0 ∨ clo78.slots.size ≤ ((0 : Int32)).toNatClampNeg) := inb_of So78 ⟨by decide, by decide⟩
      have hato78 : clo78.slots[((0 : Int32)).toNatClampNeg]? = some (.int p2) := Ho78.at hino78 rfl
      obtain ⟨v80, hv80⟩ : ∃ z : Int32, z = if p2 = p5 then (1 : Int32) else (0 : Int32) := ⟨_, rfl⟩
      have mg81 : ∀ t, Steps p.tables e below (T73.setTop (mkF m 98 #[.val (.int p0), .val (.int p1), .val (.int p2), .val (.int p3), .val (.int p4), .val (.int p5), .val (.int (2 : Int32)), .val (.ref b60), .val (.ref b61), .val (.int (1 : Int32)), .val (.int (0 : Int32)), .unset] [(.int v80)])) t → Steps p.tables e below (T73.setTop (mkF m 90 #[.val (.int p0), .val (.int p1), .val (.int p2), .val (.int p3), .val (.int p4), .val (.int p5), .val (.int (2 : Int32)), .val (.ref b60), .val (.ref b61), .val (.int (1 : Int32)), .val (.int (0 : Int32)), .unset] [(.int p5), (.int p2)])) t := by
        intro t kt
        by_cases hm79 : p2 = p5
        ·
          have ev80 : v80 = (1 : Int32) := by rw [hv80, if_pos hm79]
          rw [ev80] at kt
          refine (fun t (k : Steps p.tables e below (T73.setTop (mkF m 90 #[.val (.int p0), .val (.int p1), .val (.int p2), .val (.int p3), .val (.int p4), .val (.int p5), .val (.int (2 : Int32)), .val (.ref b60), .val (.ref b61), .val (.int (1 : Int32)), .val (.int (0 : Int32)), .unset] [(.int p5), (.int p2)])) t) => k) _ ?_
          refine XS.icmpNo X73.here hx rfl (hb hby at_90) rfl (teq hm79).2 ?_
          show Steps p.tables e below (T73.setTop (mkF m 93 #[.val (.int p0), .val (.int p1), .val (.int p2), .val (.int p3), .val (.int p4), .val (.int p5), .val (.int (2 : Int32)), .val (.ref b60), .val (.ref b61), .val (.int (1 : Int32)), .val (.int (0 : Int32)), .unset] [])) _
          refine XS.iconst X73.here hx rfl (hb hby at_93) ?_
          show Steps p.tables e below (T73.setTop (mkF m 94 #[.val (.int p0), .val (.int p1), .val (.int p2), .val (.int p3), .val (.int p4), .val (.int p5), .val (.int (2 : Int32)), .val (.ref b60), .val (.ref b61), .val (.int (1 : Int32)), .val (.int (0 : Int32)), .unset] [(.int (1 : Int32))])) _
          refine XS.goto X73.here hx rfl (pc0 := 94) (pc' := 98) rfl (hb hby at_94) (by decide) (by decide) ?_
          show Steps p.tables e below (T73.setTop (mkF m 98 #[.val (.int p0), .val (.int p1), .val (.int p2), .val (.int p3), .val (.int p4), .val (.int p5), .val (.int (2 : Int32)), .val (.ref b60), .val (.ref b61), .val (.int (1 : Int32)), .val (.int (0 : Int32)), .unset] [(.int (1 : Int32))])) _
          exact kt
        ·
          have ev80 : v80 = (0 : Int32) := by rw [hv80, if_neg hm79]
          rw [ev80] at kt
          refine (fun t (k : Steps p.tables e below (T73.setTop (mkF m 90 #[.val (.int p0), .val (.int p1), .val (.int p2), .val (.int p3), .val (.int p4), .val (.int p5), .val (.int (2 : Int32)), .val (.ref b60), .val (.ref b61), .val (.int (1 : Int32)), .val (.int (0 : Int32)), .unset] [(.int p5), (.int p2)])) t) => k) _ ?_
          refine XS.icmpYes X73.here hx rfl (pc0 := 90) (pc' := 97) rfl (hb hby at_90) rfl (feq hm79).2 (by decide) (by decide) ?_
          show Steps p.tables e below (T73.setTop (mkF m 97 #[.val (.int p0), .val (.int p1), .val (.int p2), .val (.int p3), .val (.int p4), .val (.int p5), .val (.int (2 : Int32)), .val (.ref b60), .val (.ref b61), .val (.int (1 : Int32)), .val (.int (0 : Int32)), .unset] [])) _
          refine XS.iconst X73.here hx rfl (hb hby at_97) ?_
          show Steps p.tables e below (T73.setTop (mkF m 98 #[.val (.int p0), .val (.int p1), .val (.int p2), .val (.int p3), .val (.int p4), .val (.int p5), .val (.int (2 : Int32)), .val (.ref b60), .val (.ref b61), .val (.int (1 : Int32)), .val (.int (0 : Int32)), .unset] [(.int (0 : Int32))])) _
          exact kt
      obtain ⟨clo82, Aro82, qo82, So82, No82, Ho82, Go82⟩ := id V73
      have hino82 : ¬ ((0 : Int32) < 0 ∨ clo82.slots.size ≤ ((0 : Int32)).toNatClampNeg) := inb_of So82 ⟨by decide, by decide⟩
      obtain ⟨T83, h83, X83, e83, W83, st83⟩ := stI X73 hx hZ e73 Aro82 (j := (0 : Int32)) hino82 (g := (mkF m 106 #[.val (.int p0), .val (.int p1), .val (.int p2), .val (.int p3), .val (.int p4), .val (.int p5), .val (.int (2 : Int32)), .val (.ref b60), .val (.ref b61), .val (.int v80), .val (.int (0 : Int32)), .unset] [(.int p5), (.int (0 : Int32)), (.ref b61)])) rfl rfl (hb hby at_106)
      have V83 : Arv Z h83 b61 k61 .int (2 : Int32) [(.int p5), (.int p3)] (.int (0 : Int32)) := Arv.set Aro82 qo82 So82 No82 Ho82 Go82 rfl W83 0 rfl (Nat.le_of_ble_eq_true rfl)
      have K83 := K73.wr W83 (Or.inr sz_b61)
      have N83 := Fr.snoc X83 N73 g_b61
      have c84 := (c77.other W83 ne_b60_b61)
      obtain ⟨T85, h85, X85, e85, E85, A85, D85, -, st85⟩ := newO X83 hx hZ hown (hw _ (List.mem_of_getElem? (i := 1) rfl)) (hw _ (List.mem_of_getElem? (i := 2) rfl)) (hw _ (List.mem_of_getElem? (i := 3) rfl)) e83 (g := (mkF m 107 #[.val (.int p0), .val (.int p1), .val (.int p2), .val (.int p3), .val (.int p4), .val (.int p5), .val (.int (2 : Int32)), .val (.ref b60), .val (.ref b61), .val (.int v80), .val (.int (0 : Int32)), .unset] [])) rfl (hb hby at_107) (by decide) (by decide)
      obtain ⟨b85, g85⟩ : ∃ z, z = h83.size := ⟨_, rfl⟩
      rw [← g85] at A85 D85 st85
      have g_b85 : n0 ≤ b85 := Nat.le_trans (Nat.le_trans Z0 K83.1) (Nat.le_of_eq g85.symm)
      have sz_b85 : h0.size ≤ b85 := Nat.le_trans K83.1 (Nat.le_of_eq g85.symm)
      have ne_b60_b85 : b60 ≠ b85 := Nat.ne_of_lt (Nat.lt_of_lt_of_le c84.lt (Nat.le_of_eq g85.symm))
      have ne_b61_b85 : b61 ≠ b85 := Nat.ne_of_lt (Nat.lt_of_lt_of_le V83.lt (Nat.le_of_eq g85.symm))
      have K85 := K83.ext E85
      have F_values_b85 : Fld Z h85 b85 "com/example/hedge/hedge/analysis/IntArrayKey" "values" "[I" .null := D85 (Or.inr (hw _ (List.mem_of_getElem? (i := 16) rfl))) (ty := (.array .int)) (by decide)
      obtain ⟨_, _, ⟨T86, L86, k86, n86⟩, -, X86, ⟨Lc86, hQ86, l86, y86, z86⟩, st86⟩ := X85.specialBack hx (y := (⟨"com/example/hedge/hedge/analysis/IntArrayKey", "<init>", "([I)V"⟩ : MethodName)) rfl hown (mvT hZ (hw _ (List.mem_of_getElem? (i := 4) rfl))) (mvT hZ (hw _ (List.mem_of_getElem? (i := 5) rfl))) (mvT hZ (hw _ (List.mem_of_getElem? (i := 6) rfl))) (by decide) (backOf (W := 1) (rm1 l Z a0 hw [] b85 b60 h85 n0 (Nat.le_trans Z0 K85.1) A85 F_values_b85 g_b85) hZ (hw _ (List.mem_of_getElem? (i := 6) rfl)) (hw _ (List.mem_of_getElem? (i := 3) rfl)) (by decide) (by decide)) (g := (mkF m 113 #[.val (.int p0), .val (.int p1), .val (.int p2), .val (.int p3), .val (.int p4), .val (.int p5), .val (.int (2 : Int32)), .val (.ref b60), .val (.ref b61), .val (.int v80), .val (.int (0 : Int32)), .unset] [(.ref b60), (.ref b85), (.ref b85)])) rfl (by rw [hml]; rfl) (Steps.refl _) (a := b85) (argsL := [(.ref b60)]) (rest := [(.ref b85)]) (lenOf pd___I_V rfl) rfl (by show 2 * 0 + _ ≤ _; exact Nat.le_of_eq rfl) (hb hby at_113) (fun _ _ => ⟨rfl, e85, (by decide : 3 + 0 ≤ _), (by decide : 5 + 0 ≤ _)⟩)
      dsimp only [Pt.U, Pt.locs, Pt.cells, Pt.slots] at X86 l86 y86 z86 st86 hQ86
      subst l86 y86 z86
      obtain ⟨rfl, N86q, kq86, fq86⟩ := hQ86
      have N86 := Fr.app N83 N86q
      have K86 := K85.trans kq86 (allS (Or.inr sz_b85) all0)
      have c88 := (A85.keep kq86)
      have c89 := ((c84.ext E85).keep kq86 (ninS ne_b60_b85 nin0))
      obtain ⟨cq87, kq87, q87a, q87b, q87c⟩ := isOf hZ rfl c88
      obtain ⟨_, _, ⟨T87, L87, k87, n87⟩, -, X87, ⟨Lc87, hQ87, l87, y87, z87⟩, st87⟩ := X86.virtualBack hx (y := (⟨"com/example/hedge/hedge/analysis/IntArrayKey", "hashCode", "()I"⟩ : MethodName)) (z := (⟨"com/example/hedge/hedge/analysis/IntArrayKey", "hashCode", "()I"⟩ : MethodName)) hown (mvT hZ (hw _ (List.mem_of_getElem? (i := 17) rfl))) (mvT hZ (hw _ (List.mem_of_getElem? (i := 18) rfl))) (notFace_of_selects (args := #[]) (mvT hZ (hw _ (List.mem_of_getElem? (i := 20) rfl)))) (mvT hZ (hw _ (List.mem_of_getElem? (i := 20) rfl))) (mvT hZ (hw _ (List.mem_of_getElem? (i := 19) rfl))) (by decide) (backOf (W := 0) (hc2 l Z a0 hw [] b85 b60 k60 p2 p3 T86.heap n0 (Nat.le_trans Z0 K86.1) fq86 c89) hZ (hw _ (List.mem_of_getElem? (i := 21) rfl)) (hw _ (List.mem_of_getElem? (i := 3) rfl)) (by decide) (by decide)) q87a q87c (g := (mkF m 116 #[.val (.int p0), .val (.int p1), .val (.int p2), .val (.int p3), .val (.int p4), .val (.int p5), .val (.int (2 : Int32)), .val (.ref b60), .val (.ref b61), .val (.int v80), .val (.int (0 : Int32)), .unset] [(.ref b85)])) rfl (by rw [hml]; rfl) (Steps.refl _) (argsL := []) (rest := []) (lenOf pd___I rfl) rfl (by show 2 * 0 + _ ≤ _; exact Nat.le_of_eq rfl) (hb hby at_116) (fun _ _ => ⟨rfl, rfl, (by decide : 3 + 0 ≤ _), (by decide : 5 + 0 ≤ _)⟩)
      dsimp only [Pt.U, Pt.locs, Pt.cells, Pt.slots] at X87 l87 y87 z87 st87 hQ87
      subst l87 y87 z87
      obtain ⟨rfl, N87q, hq87⟩ := hQ87
      have N87 := Fr.app N86 N87q
      have E87 : Ext T86.heap T87.heap := by rw [hq87]; exact ⟨Nat.le_refl _, fun _ _ q => q⟩
      have K87 := K86.ext E87
      have c90 := (c89.ext E87)
      have c91 := (((V83.ext E85).keep kq86 (ninS ne_b61_b85 nin0)).ext E87)
      have c92 := (c88.ext E87)
      obtain ⟨T93, h93, X93, e93, E93, A93, D93, -, st93⟩ := newO X87 hx hZ hown (hw _ (List.mem_of_getElem? (i := 1) rfl)) (hw _ (List.mem_of_getElem? (i := 2) rfl)) (hw _ (List.mem_of_getElem? (i := 3) rfl)) rfl (g := (mkF m 121 #[.val (.int p0), .val (.int p1), .val (.int p2), .val (.int p3), .val (.int p4), .val (.int p5), .val (.int (2 : Int32)), .val (.ref b60), .val (.ref b61), .val (.int v80), .val (.int (own_h2 p2 p3)), .unset] [])) rfl (hb hby at_121) (by decide) (by decide)
      obtain ⟨b93, g93⟩ : ∃ z, z = T87.heap.size := ⟨_, rfl⟩
      rw [← g93] at A93 D93 st93
      have g_b93 : n0 ≤ b93 := Nat.le_trans (Nat.le_trans Z0 K87.1) (Nat.le_of_eq g93.symm)
      have sz_b93 : h0.size ≤ b93 := Nat.le_trans K87.1 (Nat.le_of_eq g93.symm)
      have ne_b60_b93 : b60 ≠ b93 := Nat.ne_of_lt (Nat.lt_of_lt_of_le c90.lt (Nat.le_of_eq g93.symm))
      have ne_b61_b93 : b61 ≠ b93 := Nat.ne_of_lt (Nat.lt_of_lt_of_le c91.lt (Nat.le_of_eq g93.symm))
      have ne_b85_b93 : b85 ≠ b93 := Nat.ne_of_lt (Nat.lt_of_lt_of_le c92.lt (Nat.le_of_eq g93.symm))
      have K93 := K87.ext E93
      have F_values_b93 : Fld Z h93 b93 "com/example/hedge/hedge/analysis/IntArrayKey" "values" "[I" .null := D93 (Or.inr (hw _ (List.mem_of_getElem? (i := 16) rfl))) (ty := (.array .int)) (by decide)
      obtain ⟨_, _, ⟨T94, L94, k94, n94⟩, -, X94, ⟨Lc94, hQ94, l94, y94, z94⟩, st94⟩ := X93.specialBack hx (y := (⟨"com/example/hedge/hedge/analysis/IntArrayKey", "<init>", "([I)V"⟩ : MethodName)) rfl hown (mvT hZ (hw _ (List.mem_of_getElem? (i := 4) rfl))) (mvT hZ (hw _ (List.mem_of_getElem? (i := 5) rfl))) (mvT hZ (hw _ (List.mem_of_getElem? (i := 6) rfl))) (by decide) (backOf (W := 1) (rm1 l Z a0 hw [] b93 b61 h93 n0 (Nat.le_trans Z0 K93.1) A93 F_values_b93 g_b93) hZ (hw _ (List.mem_of_getElem? (i := 6) rfl)) (hw _ (List.mem_of_getElem? (i := 3) rfl)) (by decide) (by decide)) (g := (mkF m 127 #[.val (.int p0), .val (.int p1), .val (.int p2), .val (.int p3), .val (.int p4), .val (.int p5), .val (.int (2 : Int32)), .val (.ref b60), .val (.ref b61), .val (.int v80), .val (.int (own_h2 p2 p3)), .unset] [(.ref b61), (.ref b93), (.ref b93)])) rfl (by rw [hml]; rfl) (Steps.refl _) (a := b93) (argsL := [(.ref b61)]) (rest := [(.ref b93)]) (lenOf pd___I_V rfl) rfl (by show 2 * 0 + _ ≤ _; exact Nat.le_of_eq rfl) (hb hby at_127) (fun _ _ => ⟨rfl, e93, (by decide : 4 + 0 ≤ _), (by decide : 6 + 0 ≤ _)⟩)
      dsimp only [Pt.U, Pt.locs, Pt.cells, Pt.slots] at X94 l94 y94 z94 st94 hQ94
      subst l94 y94 z94
      obtain ⟨rfl, N94q, kq94, fq94⟩ := hQ94
      have N94 := Fr.app N87 N94q
      have K94 := K93.trans kq94 (allS (Or.inr sz_b93) all0)
      have c96 := (A93.keep kq94)
      have c97 := ((c91.ext E93).keep kq94 (ninS ne_b61_b93 nin0))
      obtain ⟨cq95, kq95, q95a, q95b, q95c⟩ := isOf hZ rfl c96
      obtain ⟨_, _, ⟨T95, L95, k95, n95⟩, -, X95, ⟨Lc95, hQ95, l95, y95, z95⟩, st95⟩ := X94.virtualBack hx (y := (⟨"com/example/hedge/hedge/analysis/IntArrayKey", "hashCode", "()I"⟩ : MethodName)) (z := (⟨"com/example/hedge/hedge/analysis/IntArrayKey", "hashCode", "()I"⟩ : MethodName)) hown (mvT hZ (hw _ (List.mem_of_getElem? (i := 17) rfl))) (mvT hZ (hw _ (List.mem_of_getElem? (i := 18) rfl))) (notFace_of_selects (args := #[]) (mvT hZ (hw _ (List.mem_of_getElem? (i := 20) rfl)))) (mvT hZ (hw _ (List.mem_of_getElem? (i := 20) rfl))) (mvT hZ (hw _ (List.mem_of_getElem? (i := 19) rfl))) (by decide) (backOf (W := 0) (hc2 l Z a0 hw [] b93 b61 k61 p5 p3 T94.heap n0 (Nat.le_trans Z0 K94.1) fq94 c97) hZ (hw _ (List.mem_of_getElem? (i := 21) rfl)) (hw _ (List.mem_of_getElem? (i := 3) rfl)) (by decide) (by decide)) q95a q95c (g := (mkF m 130 #[.val (.int p0), .val (.int p1), .val (.int p2), .val (.int p3), .val (.int p4), .val (.int p5), .val (.int (2 : Int32)), .val (.ref b60), .val (.ref b61), .val (.int v80), .val (.int (own_h2 p2 p3)), .unset] [(.ref b93)])) rfl (by rw [hml]; rfl) (Steps.refl _) (argsL := []) (rest := []) (lenOf pd___I rfl) rfl (by show 2 * 0 + _ ≤ _; exact Nat.le_of_eq rfl) (hb hby at_130) (fun _ _ => ⟨rfl, rfl, (by decide : 4 + 0 ≤ _), (by decide : 6 + 0 ≤ _)⟩)
      dsimp only [Pt.U, Pt.locs, Pt.cells, Pt.slots] at X95 l95 y95 z95 st95 hQ95
      subst l95 y95 z95
      obtain ⟨rfl, N95q, hq95⟩ := hQ95
      have N95 := Fr.app N94 N95q
      have E95 : Ext T94.heap T95.heap := by rw [hq95]; exact ⟨Nat.le_refl _, fun _ _ q => q⟩
      have K95 := K94.ext E95
      obtain ⟨v99, hv99⟩ : ∃ z : Int32, z = if (own_h2 p2 p3) = (own_h2 p5 p3) then (1 : Int32) else (0 : Int32) := ⟨_, rfl⟩
      have mg100 : ∀ t, Steps p.tables e below (T95.setTop (mkF m 147 #[.val (.int p0), .val (.int p1), .val (.int p2), .val (.int p3), .val (.int p4), .val (.int p5), .val (.int (2 : Int32)), .val (.ref b60), .val (.ref b61), .val (.int v80), .val (.int (own_h2 p2 p3)), .val (.int (own_h2 p5 p3))] [(.int v99)])) t → Steps p.tables e below (T95.setTop (mkF m 139 #[.val (.int p0), .val (.int p1), .val (.int p2), .val (.int p3), .val (.int p4), .val (.int p5), .val (.int (2 : Int32)), .val (.ref b60), .val (.ref b61), .val (.int v80), .val (.int (own_h2 p2 p3)), .val (.int (own_h2 p5 p3))] [(.int (own_h2 p5 p3)), (.int (own_h2 p2 p3))])) t := by
        intro t kt
        by_cases hm98 : (own_h2 p2 p3) = (own_h2 p5 p3)
        ·
          have ev99 : v99 = (1 : Int32) := by rw [hv99, if_pos hm98]
          rw [ev99] at kt
          refine (fun t (k : Steps p.tables e below (T95.setTop (mkF m 139 #[.val (.int p0), .val (.int p1), .val (.int p2), .val (.int p3), .val (.int p4), .val (.int p5), .val (.int (2 : Int32)), .val (.ref b60), .val (.ref b61), .val (.int v80), .val (.int (own_h2 p2 p3)), .val (.int (own_h2 p5 p3))] [(.int (own_h2 p5 p3)), (.int (own_h2 p2 p3))])) t) => k) _ ?_
          refine XS.icmpNo X95.here hx rfl (hb hby at_139) rfl (teq hm98).2 ?_
          show Steps p.tables e below (T95.setTop (mkF m 142 #[.val (.int p0), .val (.int p1), .val (.int p2), .val (.int p3), .val (.int p4), .val (.int p5), .val (.int (2 : Int32)), .val (.ref b60), .val (.ref b61), .val (.int v80), .val (.int (own_h2 p2 p3)), .val (.int (own_h2 p5 p3))] [])) _
          refine XS.iconst X95.here hx rfl (hb hby at_142) ?_
          show Steps p.tables e below (T95.setTop (mkF m 143 #[.val (.int p0), .val (.int p1), .val (.int p2), .val (.int p3), .val (.int p4), .val (.int p5), .val (.int (2 : Int32)), .val (.ref b60), .val (.ref b61), .val (.int v80), .val (.int (own_h2 p2 p3)), .val (.int (own_h2 p5 p3))] [(.int (1 : Int32))])) _
          refine XS.goto X95.here hx rfl (pc0 := 143) (pc' := 147) rfl (hb hby at_143) (by decide) (by decide) ?_
          show Steps p.tables e below (T95.setTop (mkF m 147 #[.val (.int p0), .val (.int p1), .val (.int p2), .val (.int p3), .val (.int p4), .val (.int p5), .val (.int (2 : Int32)), .val (.ref b60), .val (.ref b61), .val (.int v80), .val (.int (own_h2 p2 p3)), .val (.int (own_h2 p5 p3))] [(.int (1 : Int32))])) _
          exact kt
        ·
          have ev99 : v99 = (0 : Int32) := by rw [hv99, if_neg hm98]
          rw [ev99] at kt
          refine (fun t (k : Steps p.tables e below (T95.setTop (mkF m 139 #[.val (.int p0), .val (.int p1), .val (.int p2), .val (.int p3), .val (.int p4), .val (.int p5), .val (.int (2 : Int32)), .val (.ref b60), .val (.ref b61), .val (.int v80), .val (.int (own_h2 p2 p3)), .val (.int (own_h2 p5 p3))] [(.int (own_h2 p5 p3)), (.int (own_h2 p2 p3))])) t) => k) _ ?_
          refine XS.icmpYes X95.here hx rfl (pc0 := 139) (pc' := 146) rfl (hb hby at_139) rfl (feq hm98).2 (by decide) (by decide) ?_
          show Steps p.tables e below (T95.setTop (mkF m 146 #[.val (.int p0), .val (.int p1), .val (.int p2), .val (.int p3), .val (.int p4), .val (.int p5), .val (.int (2 : Int32)), .val (.ref b60), .val (.ref b61), .val (.int v80), .val (.int (own_h2 p2 p3)), .val (.int (own_h2 p5 p3))] [])) _
          refine XS.iconst X95.here hx rfl (hb hby at_146) ?_
          show Steps p.tables e below (T95.setTop (mkF m 147 #[.val (.int p0), .val (.int p1), .val (.int p2), .val (.int p3), .val (.int p4), .val (.int p5), .val (.int (2 : Int32)), .val (.ref b60), .val (.ref b61), .val (.int v80), .val (.int (own_h2 p2 p3)), .val (.int (own_h2 p5 p3))] [(.int (0 : Int32))])) _
          exact kt
      have hk101 : v99 = v80 := by rw [hv99, hv80]; exact own_law_2_0 _ _ _
      obtain ⟨fs, hr, hrun, hended, hW, hsame⟩ := X95.leave (v := some (.int (1 : Int32))) (fun h => by rw [Bd.returns] at h; cases h)
      refine ⟨_, _, pre76 _ ?_, hrun, hended, _, _, rfl, ?_, ⟨_, rfl⟩, hW, hsame.mono (by decide) (by decide)⟩
      ·
        show Steps p.tables e below (T73.setTop (mkF m 83 #[.val (.int p0), .val (.int p1), .val (.int p2), .val (.int p3), .val (.int p4), .val (.int p5), .val (.int (2 : Int32)), .val (.ref b60), .val (.ref b61), .val (.int (1 : Int32)), .val (.int (0 : Int32)), .unset] [])) _
        refine XS.aload X73.here hx rfl (hb hby at_83) rfl rfl ?_
        show Steps p.tables e below (T73.setTop (mkF m 85 #[.val (.int p0), .val (.int p1), .val (.int p2), .val (.int p3), .val (.int p4), .val (.int p5), .val (.int (2 : Int32)), .val (.ref b60), .val (.ref b61), .val (.int (1 : Int32)), .val (.int (0 : Int32)), .unset] [(.ref b60)])) _
        refine XS.iload X73.here hx rfl (hb hby at_85) rfl ?_
        show Steps p.tables e below (T73.setTop (mkF m 87 #[.val (.int p0), .val (.int p1), .val (.int p2), .val (.int p3), .val (.int p4), .val (.int p5), .val (.int (2 : Int32)), .val (.ref b60), .val (.ref b61), .val (.int (1 : Int32)), .val (.int (0 : Int32)), .unset] [(.int (0 : Int32)), (.ref b60)])) _
        refine X73.iaload hx (j := (0 : Int32)) (v := (.int p2)) (by rw [e73]; exact Aro78.1) (State.isArrayOf_alike hZ.alike Aro78.2.1) Aro78.2.2 hino78 hato78 (g := (mkF m 87 #[.val (.int p0), .val (.int p1), .val (.int p2), .val (.int p3), .val (.int p4), .val (.int p5), .val (.int (2 : Int32)), .val (.ref b60), .val (.ref b61), .val (.int (1 : Int32)), .val (.int (0 : Int32)), .unset] [(.int (0 : Int32)), (.ref b60)])) rfl rfl (hb hby at_87) _ ?_
        show Steps p.tables e below (T73.setTop (mkF m 88 #[.val (.int p0), .val (.int p1), .val (.int p2), .val (.int p3), .val (.int p4), .val (.int p5), .val (.int (2 : Int32)), .val (.ref b60), .val (.ref b61), .val (.int (1 : Int32)), .val (.int (0 : Int32)), .unset] [(.int p2)])) _
        refine XS.iload X73.here hx rfl (hb hby at_88) rfl ?_
        show Steps p.tables e below (T73.setTop (mkF m 90 #[.val (.int p0), .val (.int p1), .val (.int p2), .val (.int p3), .val (.int p4), .val (.int p5), .val (.int (2 : Int32)), .val (.ref b60), .val (.ref b61), .val (.int (1 : Int32)), .val (.int (0 : Int32)), .unset] [(.int p5), (.int p2)])) _
        refine mg81 _ ?_
        show Steps p.tables e below (T73.setTop (mkF m 98 #[.val (.int p0), .val (.int p1), .val (.int p2), .val (.int p3), .val (.int p4), .val (.int p5), .val (.int (2 : Int32)), .val (.ref b60), .val (.ref b61), .val (.int (1 : Int32)), .val (.int (0 : Int32)), .unset] [(.int v80)])) _
        refine XS.istore X73.here hx rfl (hb hby at_98) rfl (l' := #[.val (.int p0), .val (.int p1), .val (.int p2), .val (.int p3), .val (.int p4), .val (.int p5), .val (.int (2 : Int32)), .val (.ref b60), .val (.ref b61), .val (.int v80), .val (.int (0 : Int32)), .unset]) rfl ?_
        show Steps p.tables e below (T73.setTop (mkF m 100 #[.val (.int p0), .val (.int p1), .val (.int p2), .val (.int p3), .val (.int p4), .val (.int p5), .val (.int (2 : Int32)), .val (.ref b60), .val (.ref b61), .val (.int v80), .val (.int (0 : Int32)), .unset] [])) _
        refine XS.aload X73.here hx rfl (hb hby at_100) rfl rfl ?_
        show Steps p.tables e below (T73.setTop (mkF m 102 #[.val (.int p0), .val (.int p1), .val (.int p2), .val (.int p3), .val (.int p4), .val (.int p5), .val (.int (2 : Int32)), .val (.ref b60), .val (.ref b61), .val (.int v80), .val (.int (0 : Int32)), .unset] [(.ref b61)])) _
        refine XS.iload X73.here hx rfl (hb hby at_102) rfl ?_
        show Steps p.tables e below (T73.setTop (mkF m 104 #[.val (.int p0), .val (.int p1), .val (.int p2), .val (.int p3), .val (.int p4), .val (.int p5), .val (.int (2 : Int32)), .val (.ref b60), .val (.ref b61), .val (.int v80), .val (.int (0 : Int32)), .unset] [(.int (0 : Int32)), (.ref b61)])) _
        refine XS.iload X73.here hx rfl (hb hby at_104) rfl ?_
        show Steps p.tables e below (T73.setTop (mkF m 106 #[.val (.int p0), .val (.int p1), .val (.int p2), .val (.int p3), .val (.int p4), .val (.int p5), .val (.int (2 : Int32)), .val (.ref b60), .val (.ref b61), .val (.int v80), .val (.int (0 : Int32)), .unset] [(.int p5), (.int (0 : Int32)), (.ref b61)])) _
        refine st83 _ ?_
        show Steps p.tables e below (T83.setTop (mkF m 107 #[.val (.int p0), .val (.int p1), .val (.int p2), .val (.int p3), .val (.int p4), .val (.int p5), .val (.int (2 : Int32)), .val (.ref b60), .val (.ref b61), .val (.int v80), .val (.int (0 : Int32)), .unset] [])) _
        refine st85 _ ?_
        show Steps p.tables e below (T85.setTop (mkF m 110 #[.val (.int p0), .val (.int p1), .val (.int p2), .val (.int p3), .val (.int p4), .val (.int p5), .val (.int (2 : Int32)), .val (.ref b60), .val (.ref b61), .val (.int v80), .val (.int (0 : Int32)), .unset] [(.ref b85)])) _
        refine XS.dup X85.here hx rfl (hb hby at_110) rfl rfl ?_
        show Steps p.tables e below (T85.setTop (mkF m 111 #[.val (.int p0), .val (.int p1), .val (.int p2), .val (.int p3), .val (.int p4), .val (.int p5), .val (.int (2 : Int32)), .val (.ref b60), .val (.ref b61), .val (.int v80), .val (.int (0 : Int32)), .unset] [(.ref b85), (.ref b85)])) _
        refine XS.aload X85.here hx rfl (hb hby at_111) rfl rfl ?_
        show Steps p.tables e below (T85.setTop (mkF m 113 #[.val (.int p0), .val (.int p1), .val (.int p2), .val (.int p3), .val (.int p4), .val (.int p5), .val (.int (2 : Int32)), .val (.ref b60), .val (.ref b61), .val (.int v80), .val (.int (0 : Int32)), .unset] [(.ref b60), (.ref b85), (.ref b85)])) _
        refine st86.trans ?_
        show Steps p.tables e below (T86.setTop (mkF m 116 #[.val (.int p0), .val (.int p1), .val (.int p2), .val (.int p3), .val (.int p4), .val (.int p5), .val (.int (2 : Int32)), .val (.ref b60), .val (.ref b61), .val (.int v80), .val (.int (0 : Int32)), .unset] [(.ref b85)])) _
        refine st87.trans ?_
        show Steps p.tables e below (T87.setTop (mkF m 119 #[.val (.int p0), .val (.int p1), .val (.int p2), .val (.int p3), .val (.int p4), .val (.int p5), .val (.int (2 : Int32)), .val (.ref b60), .val (.ref b61), .val (.int v80), .val (.int (0 : Int32)), .unset] [(.int (own_h2 p2 p3))])) _
        refine XS.istore X87.here hx rfl (hb hby at_119) rfl (l' := #[.val (.int p0), .val (.int p1), .val (.int p2), .val (.int p3), .val (.int p4), .val (.int p5), .val (.int (2 : Int32)), .val (.ref b60), .val (.ref b61), .val (.int v80), .val (.int (own_h2 p2 p3)), .unset]) rfl ?_
        show Steps p.tables e below (T87.setTop (mkF m 121 #[.val (.int p0), .val (.int p1), .val (.int p2), .val (.int p3), .val (.int p4), .val (.int p5), .val (.int (2 : Int32)), .val (.ref b60), .val (.ref b61), .val (.int v80), .val (.int (own_h2 p2 p3)), .unset] [])) _
        refine st93 _ ?_
        show Steps p.tables e below (T93.setTop (mkF m 124 #[.val (.int p0), .val (.int p1), .val (.int p2), .val (.int p3), .val (.int p4), .val (.int p5), .val (.int (2 : Int32)), .val (.ref b60), .val (.ref b61), .val (.int v80), .val (.int (own_h2 p2 p3)), .unset] [(.ref b93)])) _
        refine XS.dup X93.here hx rfl (hb hby at_124) rfl rfl ?_
        show Steps p.tables e below (T93.setTop (mkF m 125 #[.val (.int p0), .val (.int p1), .val (.int p2), .val (.int p3), .val (.int p4), .val (.int p5), .val (.int (2 : Int32)), .val (.ref b60), .val (.ref b61), .val (.int v80), .val (.int (own_h2 p2 p3)), .unset] [(.ref b93), (.ref b93)])) _
        refine XS.aload X93.here hx rfl (hb hby at_125) rfl rfl ?_
        show Steps p.tables e below (T93.setTop (mkF m 127 #[.val (.int p0), .val (.int p1), .val (.int p2), .val (.int p3), .val (.int p4), .val (.int p5), .val (.int (2 : Int32)), .val (.ref b60), .val (.ref b61), .val (.int v80), .val (.int (own_h2 p2 p3)), .unset] [(.ref b61), (.ref b93), (.ref b93)])) _
        refine st94.trans ?_
        show Steps p.tables e below (T94.setTop (mkF m 130 #[.val (.int p0), .val (.int p1), .val (.int p2), .val (.int p3), .val (.int p4), .val (.int p5), .val (.int (2 : Int32)), .val (.ref b60), .val (.ref b61), .val (.int v80), .val (.int (own_h2 p2 p3)), .unset] [(.ref b93)])) _
        refine st95.trans ?_
        show Steps p.tables e below (T95.setTop (mkF m 133 #[.val (.int p0), .val (.int p1), .val (.int p2), .val (.int p3), .val (.int p4), .val (.int p5), .val (.int (2 : Int32)), .val (.ref b60), .val (.ref b61), .val (.int v80), .val (.int (own_h2 p2 p3)), .unset] [(.int (own_h2 p5 p3))])) _
        refine XS.istore X95.here hx rfl (hb hby at_133) rfl (l' := #[.val (.int p0), .val (.int p1), .val (.int p2), .val (.int p3), .val (.int p4), .val (.int p5), .val (.int (2 : Int32)), .val (.ref b60), .val (.ref b61), .val (.int v80), .val (.int (own_h2 p2 p3)), .val (.int (own_h2 p5 p3))]) rfl ?_
        show Steps p.tables e below (T95.setTop (mkF m 135 #[.val (.int p0), .val (.int p1), .val (.int p2), .val (.int p3), .val (.int p4), .val (.int p5), .val (.int (2 : Int32)), .val (.ref b60), .val (.ref b61), .val (.int v80), .val (.int (own_h2 p2 p3)), .val (.int (own_h2 p5 p3))] [])) _
        refine XS.iload X95.here hx rfl (hb hby at_135) rfl ?_
        show Steps p.tables e below (T95.setTop (mkF m 137 #[.val (.int p0), .val (.int p1), .val (.int p2), .val (.int p3), .val (.int p4), .val (.int p5), .val (.int (2 : Int32)), .val (.ref b60), .val (.ref b61), .val (.int v80), .val (.int (own_h2 p2 p3)), .val (.int (own_h2 p5 p3))] [(.int (own_h2 p2 p3))])) _
        refine XS.iload X95.here hx rfl (hb hby at_137) rfl ?_
        show Steps p.tables e below (T95.setTop (mkF m 139 #[.val (.int p0), .val (.int p1), .val (.int p2), .val (.int p3), .val (.int p4), .val (.int p5), .val (.int (2 : Int32)), .val (.ref b60), .val (.ref b61), .val (.int v80), .val (.int (own_h2 p2 p3)), .val (.int (own_h2 p5 p3))] [(.int (own_h2 p5 p3)), (.int (own_h2 p2 p3))])) _
        refine mg100 _ ?_
        show Steps p.tables e below (T95.setTop (mkF m 147 #[.val (.int p0), .val (.int p1), .val (.int p2), .val (.int p3), .val (.int p4), .val (.int p5), .val (.int (2 : Int32)), .val (.ref b60), .val (.ref b61), .val (.int v80), .val (.int (own_h2 p2 p3)), .val (.int (own_h2 p5 p3))] [(.int v99)])) _
        refine XS.iload X95.here hx rfl (hb hby at_147) rfl ?_
        show Steps p.tables e below (T95.setTop (mkF m 149 #[.val (.int p0), .val (.int p1), .val (.int p2), .val (.int p3), .val (.int p4), .val (.int p5), .val (.int (2 : Int32)), .val (.ref b60), .val (.ref b61), .val (.int v80), .val (.int (own_h2 p2 p3)), .val (.int (own_h2 p5 p3))] [(.int v80), (.int v99)])) _
        refine XS.icmpNo X95.here hx rfl (hb hby at_149) rfl (teq hk101).2 ?_
        show Steps p.tables e below (T95.setTop (mkF m 152 #[.val (.int p0), .val (.int p1), .val (.int p2), .val (.int p3), .val (.int p4), .val (.int p5), .val (.int (2 : Int32)), .val (.ref b60), .val (.ref b61), .val (.int v80), .val (.int (own_h2 p2 p3)), .val (.int (own_h2 p5 p3))] [])) _
        refine XS.iconst X95.here hx rfl (hb hby at_152) ?_
        show Steps p.tables e below (T95.setTop (mkF m 153 #[.val (.int p0), .val (.int p1), .val (.int p2), .val (.int p3), .val (.int p4), .val (.int p5), .val (.int (2 : Int32)), .val (.ref b60), .val (.ref b61), .val (.int v80), .val (.int (own_h2 p2 p3)), .val (.int (own_h2 p5 p3))] [(.int (1 : Int32))])) _
        refine XS.goto X95.here hx rfl (pc0 := 153) (pc' := 157) rfl (hb hby at_153) (by decide) (by decide) ?_
        show Steps p.tables e below (T95.setTop (mkF m 157 #[.val (.int p0), .val (.int p1), .val (.int p2), .val (.int p3), .val (.int p4), .val (.int p5), .val (.int (2 : Int32)), .val (.ref b60), .val (.ref b61), .val (.int v80), .val (.int (own_h2 p2 p3)), .val (.int (own_h2 p5 p3))] [(.int (1 : Int32))])) _
        exact retN X95 hx (t := .boolean) Bd.returns (by simp) (hb hby at_157) hr
      ·
        show Q0 Z p0 p1 p2 p3 p4 p5 h0 n0 _ T95.heap _
        exact ⟨rfl, N95⟩
    ·
      subst q
      have c102 := (V70.other W73 ne_b60_b61)
      obtain ⟨clo103, Aro103, -, So103, No103, Ho103, -⟩ := id c102
      have hino103 : ¬ ((1 : Int32) < 0 ∨ clo103.slots.size ≤ ((1 : Int32)).toNatClampNeg) := inb_of So103 ⟨by decide, by decide⟩
      have hato103 : clo103.slots[((1 : Int32)).toNatClampNeg]? = some (.int p3) := Ho103.at hino103 rfl
      obtain ⟨v105, hv105⟩ : ∃ z : Int32, z = if p3 = p5 then (1 : Int32) else (0 : Int32) := ⟨_, rfl⟩
      have mg106 : ∀ t, Steps p.tables e below (T73.setTop (mkF m 98 #[.val (.int p0), .val (.int p1), .val (.int p2), .val (.int p3), .val (.int p4), .val (.int p5), .val (.int (2 : Int32)), .val (.ref b60), .val (.ref b61), .val (.int (1 : Int32)), .val (.int (1 : Int32)), .unset] [(.int v105)])) t → Steps p.tables e below (T73.setTop (mkF m 90 #[.val (.int p0), .val (.int p1), .val (.int p2), .val (.int p3), .val (.int p4), .val (.int p5), .val (.int (2 : Int32)), .val (.ref b60), .val (.ref b61), .val (.int (1 : Int32)), .val (.int (1 : Int32)), .unset] [(.int p5), (.int p3)])) t := by
        intro t kt
        by_cases hm104 : p3 = p5
        ·
          have ev105 : v105 = (1 : Int32) := by rw [hv105, if_pos hm104]
          rw [ev105] at kt
          refine (fun t (k : Steps p.tables e below (T73.setTop (mkF m 90 #[.val (.int p0), .val (.int p1), .val (.int p2), .val (.int p3), .val (.int p4), .val (.int p5), .val (.int (2 : Int32)), .val (.ref b60), .val (.ref b61), .val (.int (1 : Int32)), .val (.int (1 : Int32)), .unset] [(.int p5), (.int p3)])) t) => k) _ ?_
          refine XS.icmpNo X73.here hx rfl (hb hby at_90) rfl (teq hm104).2 ?_
          show Steps p.tables e below (T73.setTop (mkF m 93 #[.val (.int p0), .val (.int p1), .val (.int p2), .val (.int p3), .val (.int p4), .val (.int p5), .val (.int (2 : Int32)), .val (.ref b60), .val (.ref b61), .val (.int (1 : Int32)), .val (.int (1 : Int32)), .unset] [])) _
          refine XS.iconst X73.here hx rfl (hb hby at_93) ?_
          show Steps p.tables e below (T73.setTop (mkF m 94 #[.val (.int p0), .val (.int p1), .val (.int p2), .val (.int p3), .val (.int p4), .val (.int p5), .val (.int (2 : Int32)), .val (.ref b60), .val (.ref b61), .val (.int (1 : Int32)), .val (.int (1 : Int32)), .unset] [(.int (1 : Int32))])) _
          refine XS.goto X73.here hx rfl (pc0 := 94) (pc' := 98) rfl (hb hby at_94) (by decide) (by decide) ?_
          show Steps p.tables e below (T73.setTop (mkF m 98 #[.val (.int p0), .val (.int p1), .val (.int p2), .val (.int p3), .val (.int p4), .val (.int p5), .val (.int (2 : Int32)), .val (.ref b60), .val (.ref b61), .val (.int (1 : Int32)), .val (.int (1 : Int32)), .unset] [(.int (1 : Int32))])) _
          exact kt
        ·
          have ev105 : v105 = (0 : Int32) := by rw [hv105, if_neg hm104]
          rw [ev105] at kt
          refine (fun t (k : Steps p.tables e below (T73.setTop (mkF m 90 #[.val (.int p0), .val (.int p1), .val (.int p2), .val (.int p3), .val (.int p4), .val (.int p5), .val (.int (2 : Int32)), .val (.ref b60), .val (.ref b61), .val (.int (1 : Int32)), .val (.int (1 : Int32)), .unset] [(.int p5), (.int p3)])) t) => k) _ ?_
          refine XS.icmpYes X73.here hx rfl (pc0 := 90) (pc' := 97) rfl (hb hby at_90) rfl (feq hm104).2 (by decide) (by decide) ?_
          show Steps p.tables e below (T73.setTop (mkF m 97 #[.val (.int p0), .val (.int p1), .val (.int p2), .val (.int p3), .val (.int p4), .val (.int p5), .val (.int (2 : Int32)), .val (.ref b60), .val (.ref b61), .val (.int (1 : Int32)), .val (.int (1 : Int32)), .unset] [])) _
          refine XS.iconst X73.here hx rfl (hb hby at_97) ?_
          show Steps p.tables e below (T73.setTop (mkF m 98 #[.val (.int p0), .val (.int p1), .val (.int p2), .val (.int p3), .val (.int p4), .val (.int p5), .val (.int (2 : Int32)), .val (.ref b60), .val (.ref b61), .val (.int (1 : Int32)), .val (.int (1 : Int32)), .unset] [(.int (0 : Int32))])) _
          exact kt
      obtain ⟨clo107, Aro107, qo107, So107, No107, Ho107, Go107⟩ := id V73
      have hino107 : ¬ ((1 : Int32) < 0 ∨ clo107.slots.size ≤ ((1 : Int32)).toNatClampNeg) := inb_of So107 ⟨by decide, by decide⟩
      obtain ⟨T108, h108, X108, e108, W108, st108⟩ := stI X73 hx hZ e73 Aro107 (j := (1 : Int32)) hino107 (g := (mkF m 106 #[.val (.int p0), .val (.int p1), .val (.int p2), .val (.int p3), .val (.int p4), .val (.int p5), .val (.int (2 : Int32)), .val (.ref b60), .val (.ref b61), .val (.int v105), .val (.int (1 : Int32)), .unset] [(.int p5), (.int (1 : Int32)), (.ref b61)])) rfl rfl (hb hby at_106)
      have V108 : Arv Z h108 b61 k61 .int (2 : Int32) [(.int p2), (.int p5)] (.int (0 : Int32)) := Arv.set Aro107 qo107 So107 No107 Ho107 Go107 rfl W108 1 rfl (Nat.le_of_ble_eq_true rfl)
      have K108 := K73.wr W108 (Or.inr sz_b61)
      have N108 := Fr.snoc X108 N73 g_b61
      have c109 := (c102.other W108 ne_b60_b61)
      obtain ⟨T110, h110, X110, e110, E110, A110, D110, -, st110⟩ := newO X108 hx hZ hown (hw _ (List.mem_of_getElem? (i := 1) rfl)) (hw _ (List.mem_of_getElem? (i := 2) rfl)) (hw _ (List.mem_of_getElem? (i := 3) rfl)) e108 (g := (mkF m 107 #[.val (.int p0), .val (.int p1), .val (.int p2), .val (.int p3), .val (.int p4), .val (.int p5), .val (.int (2 : Int32)), .val (.ref b60), .val (.ref b61), .val (.int v105), .val (.int (1 : Int32)), .unset] [])) rfl (hb hby at_107) (by decide) (by decide)
      obtain ⟨b110, g110⟩ : ∃ z, z = h108.size := ⟨_, rfl⟩
      rw [← g110] at A110 D110 st110
      have g_b110 : n0 ≤ b110 := Nat.le_trans (Nat.le_trans Z0 K108.1) (Nat.le_of_eq g110.symm)
      have sz_b110 : h0.size ≤ b110 := Nat.le_trans K108.1 (Nat.le_of_eq g110.symm)
      have ne_b60_b110 : b60 ≠ b110 := Nat.ne_of_lt (Nat.lt_of_lt_of_le c109.lt (Nat.le_of_eq g110.symm))
      have ne_b61_b110 : b61 ≠ b110 := Nat.ne_of_lt (Nat.lt_of_lt_of_le V108.lt (Nat.le_of_eq g110.symm))
      have K110 := K108.ext E110
      have F_values_b110 : Fld Z h110 b110 "com/example/hedge/hedge/analysis/IntArrayKey" "values" "[I" .null := D110 (Or.inr (hw _ (List.mem_of_getElem? (i := 16) rfl))) (ty := (.array .int)) (by decide)
      obtain ⟨_, _, ⟨T111, L111, k111, n111⟩, -, X111, ⟨Lc111, hQ111, l111, y111, z111⟩, st111⟩ := X110.specialBack hx (y := (⟨"com/example/hedge/hedge/analysis/IntArrayKey", "<init>", "([I)V"⟩ : MethodName)) rfl hown (mvT hZ (hw _ (List.mem_of_getElem? (i := 4) rfl))) (mvT hZ (hw _ (List.mem_of_getElem? (i := 5) rfl))) (mvT hZ (hw _ (List.mem_of_getElem? (i := 6) rfl))) (by decide) (backOf (W := 1) (rm1 l Z a0 hw [] b110 b60 h110 n0 (Nat.le_trans Z0 K110.1) A110 F_values_b110 g_b110) hZ (hw _ (List.mem_of_getElem? (i := 6) rfl)) (hw _ (List.mem_of_getElem? (i := 3) rfl)) (by decide) (by decide)) (g := (mkF m 113 #[.val (.int p0), .val (.int p1), .val (.int p2), .val (.int p3), .val (.int p4), .val (.int p5), .val (.int (2 : Int32)), .val (.ref b60), .val (.ref b61), .val (.int v105), .val (.int (1 : Int32)), .unset] [(.ref b60), (.ref b110), (.ref b110)])) rfl (by rw [hml]; rfl) (Steps.refl _) (a := b110) (argsL := [(.ref b60)]) (rest := [(.ref b110)]) (lenOf pd___I_V rfl) rfl (by show 2 * 0 + _ ≤ _; exact Nat.le_of_eq rfl) (hb hby at_113) (fun _ _ => ⟨rfl, e110, (by decide : 3 + 0 ≤ _), (by decide : 5 + 0 ≤ _)⟩)
      dsimp only [Pt.U, Pt.locs, Pt.cells, Pt.slots] at X111 l111 y111 z111 st111 hQ111
      subst l111 y111 z111
      obtain ⟨rfl, N111q, kq111, fq111⟩ := hQ111
      have N111 := Fr.app N108 N111q
      have K111 := K110.trans kq111 (allS (Or.inr sz_b110) all0)
      have c113 := (A110.keep kq111)
      have c114 := ((c109.ext E110).keep kq111 (ninS ne_b60_b110 nin0))
      obtain ⟨cq112, kq112, q112a, q112b, q112c⟩ := isOf hZ rfl c113
      obtain ⟨_, _, ⟨T112, L112, k112, n112⟩, -, X112, ⟨Lc112, hQ112, l112, y112, z112⟩, st112⟩ := X111.virtualBack hx (y := (⟨"com/example/hedge/hedge/analysis/IntArrayKey", "hashCode", "()I"⟩ : MethodName)) (z := (⟨"com/example/hedge/hedge/analysis/IntArrayKey", "hashCode", "()I"⟩ : MethodName)) hown (mvT hZ (hw _ (List.mem_of_getElem? (i := 17) rfl))) (mvT hZ (hw _ (List.mem_of_getElem? (i := 18) rfl))) (notFace_of_selects (args := #[]) (mvT hZ (hw _ (List.mem_of_getElem? (i := 20) rfl)))) (mvT hZ (hw _ (List.mem_of_getElem? (i := 20) rfl))) (mvT hZ (hw _ (List.mem_of_getElem? (i := 19) rfl))) (by decide) (backOf (W := 0) (hc2 l Z a0 hw [] b110 b60 k60 p2 p3 T111.heap n0 (Nat.le_trans Z0 K111.1) fq111 c114) hZ (hw _ (List.mem_of_getElem? (i := 21) rfl)) (hw _ (List.mem_of_getElem? (i := 3) rfl)) (by decide) (by decide)) q112a q112c (g := (mkF m 116 #[.val (.int p0), .val (.int p1), .val (.int p2), .val (.int p3), .val (.int p4), .val (.int p5), .val (.int (2 : Int32)), .val (.ref b60), .val (.ref b61), .val (.int v105), .val (.int (1 : Int32)), .unset] [(.ref b110)])) rfl (by rw [hml]; rfl) (Steps.refl _) (argsL := []) (rest := []) (lenOf pd___I rfl) rfl (by show 2 * 0 + _ ≤ _; exact Nat.le_of_eq rfl) (hb hby at_116) (fun _ _ => ⟨rfl, rfl, (by decide : 3 + 0 ≤ _), (by decide : 5 + 0 ≤ _)⟩)
      dsimp only [Pt.U, Pt.locs, Pt.cells, Pt.slots] at X112 l112 y112 z112 st112 hQ112
      subst l112 y112 z112
      obtain ⟨rfl, N112q, hq112⟩ := hQ112
      have N112 := Fr.app N111 N112q
      have E112 : Ext T111.heap T112.heap := by rw [hq112]; exact ⟨Nat.le_refl _, fun _ _ q => q⟩
      have K112 := K111.ext E112
      have c115 := (c114.ext E112)
      have c116 := (((V108.ext E110).keep kq111 (ninS ne_b61_b110 nin0)).ext E112)
      have c117 := (c113.ext E112)
      obtain ⟨T118, h118, X118, e118, E118, A118, D118, -, st118⟩ := newO X112 hx hZ hown (hw _ (List.mem_of_getElem? (i := 1) rfl)) (hw _ (List.mem_of_getElem? (i := 2) rfl)) (hw _ (List.mem_of_getElem? (i := 3) rfl)) rfl (g := (mkF m 121 #[.val (.int p0), .val (.int p1), .val (.int p2), .val (.int p3), .val (.int p4), .val (.int p5), .val (.int (2 : Int32)), .val (.ref b60), .val (.ref b61), .val (.int v105), .val (.int (own_h2 p2 p3)), .unset] [])) rfl (hb hby at_121) (by decide) (by decide)
      obtain ⟨b118, g118⟩ : ∃ z, z = T112.heap.size := ⟨_, rfl⟩
      rw [← g118] at A118 D118 st118
      have g_b118 : n0 ≤ b118 := Nat.le_trans (Nat.le_trans Z0 K112.1) (Nat.le_of_eq g118.symm)
      have sz_b118 : h0.size ≤ b118 := Nat.le_trans K112.1 (Nat.le_of_eq g118.symm)
      have ne_b60_b118 : b60 ≠ b118 := Nat.ne_of_lt (Nat.lt_of_lt_of_le c115.lt (Nat.le_of_eq g118.symm))
      have ne_b61_b118 : b61 ≠ b118 := Nat.ne_of_lt (Nat.lt_of_lt_of_le c116.lt (Nat.le_of_eq g118.symm))
      have ne_b110_b118 : b110 ≠ b118 := Nat.ne_of_lt (Nat.lt_of_lt_of_le c117.lt (Nat.le_of_eq g118.symm))
      have K118 := K112.ext E118
      have F_values_b118 : Fld Z h118 b118 "com/example/hedge/hedge/analysis/IntArrayKey" "values" "[I" .null := D118 (Or.inr (hw _ (List.mem_of_getElem? (i := 16) rfl))) (ty := (.array .int)) (by decide)
      obtain ⟨_, _, ⟨T119, L119, k119, n119⟩, -, X119, ⟨Lc119, hQ119, l119, y119, z119⟩, st119⟩ := X118.specialBack hx (y := (⟨"com/example/hedge/hedge/analysis/IntArrayKey", "<init>", "([I)V"⟩ : MethodName)) rfl hown (mvT hZ (hw _ (List.mem_of_getElem? (i := 4) rfl))) (mvT hZ (hw _ (List.mem_of_getElem? (i := 5) rfl))) (mvT hZ (hw _ (List.mem_of_getElem? (i := 6) rfl))) (by decide) (backOf (W := 1) (rm1 l Z a0 hw [] b118 b61 h118 n0 (Nat.le_trans Z0 K118.1) A118 F_values_b118 g_b118) hZ (hw _ (List.mem_of_getElem? (i := 6) rfl)) (hw _ (List.mem_of_getElem? (i := 3) rfl)) (by decide) (by decide)) (g := (mkF m 127 #[.val (.int p0), .val (.int p1), .val (.int p2), .val (.int p3), .val (.int p4), .val (.int p5), .val (.int (2 : Int32)), .val (.ref b60), .val (.ref b61), .val (.int v105), .val (.int (own_h2 p2 p3)), .unset] [(.ref b61), (.ref b118), (.ref b118)])) rfl (by rw [hml]; rfl) (Steps.refl _) (a := b118) (argsL := [(.ref b61)]) (rest := [(.ref b118)]) (lenOf pd___I_V rfl) rfl (by show 2 * 0 + _ ≤ _; exact Nat.le_of_eq rfl) (hb hby at_127) (fun _ _ => ⟨rfl, e118, (by decide : 4 + 0 ≤ _), (by decide : 6 + 0 ≤ _)⟩)
      dsimp only [Pt.U, Pt.locs, Pt.cells, Pt.slots] at X119 l119 y119 z119 st119 hQ119
      subst l119 y119 z119
      obtain ⟨rfl, N119q, kq119, fq119⟩ := hQ119
      have N119 := Fr.app N112 N119q
      have K119 := K118.trans kq119 (allS (Or.inr sz_b118) all0)
      have c121 := (A118.keep kq119)
      have c122 := ((c116.ext E118).keep kq119 (ninS ne_b61_b118 nin0))
      obtain ⟨cq120, kq120, q120a, q120b, q120c⟩ := isOf hZ rfl c121
      obtain ⟨_, _, ⟨T120, L120, k120, n120⟩, -, X120, ⟨Lc120, hQ120, l120, y120, z120⟩, st120⟩ := X119.virtualBack hx (y := (⟨"com/example/hedge/hedge/analysis/IntArrayKey", "hashCode", "()I"⟩ : MethodName)) (z := (⟨"com/example/hedge/hedge/analysis/IntArrayKey", "hashCode", "()I"⟩ : MethodName)) hown (mvT hZ (hw _ (List.mem_of_getElem? (i := 17) rfl))) (mvT hZ (hw _ (List.mem_of_getElem? (i := 18) rfl))) (notFace_of_selects (args := #[]) (mvT hZ (hw _ (List.mem_of_getElem? (i := 20) rfl)))) (mvT hZ (hw _ (List.mem_of_getElem? (i := 20) rfl))) (mvT hZ (hw _ (List.mem_of_getElem? (i := 19) rfl))) (by decide) (backOf (W := 0) (hc2 l Z a0 hw [] b118 b61 k61 p2 p5 T119.heap n0 (Nat.le_trans Z0 K119.1) fq119 c122) hZ (hw _ (List.mem_of_getElem? (i := 21) rfl)) (hw _ (List.mem_of_getElem? (i := 3) rfl)) (by decide) (by decide)) q120a q120c (g := (mkF m 130 #[.val (.int p0), .val (.int p1), .val (.int p2), .val (.int p3), .val (.int p4), .val (.int p5), .val (.int (2 : Int32)), .val (.ref b60), .val (.ref b61), .val (.int v105), .val (.int (own_h2 p2 p3)), .unset] [(.ref b118)])) rfl (by rw [hml]; rfl) (Steps.refl _) (argsL := []) (rest := []) (lenOf pd___I rfl) rfl (by show 2 * 0 + _ ≤ _; exact Nat.le_of_eq rfl) (hb hby at_130) (fun _ _ => ⟨rfl, rfl, (by decide : 4 + 0 ≤ _), (by decide : 6 + 0 ≤ _)⟩)
      dsimp only [Pt.U, Pt.locs, Pt.cells, Pt.slots] at X120 l120 y120 z120 st120 hQ120
      subst l120 y120 z120
      obtain ⟨rfl, N120q, hq120⟩ := hQ120
      have N120 := Fr.app N119 N120q
      have E120 : Ext T119.heap T120.heap := by rw [hq120]; exact ⟨Nat.le_refl _, fun _ _ q => q⟩
      have K120 := K119.ext E120
      obtain ⟨v124, hv124⟩ : ∃ z : Int32, z = if (own_h2 p2 p3) = (own_h2 p2 p5) then (1 : Int32) else (0 : Int32) := ⟨_, rfl⟩
      have mg125 : ∀ t, Steps p.tables e below (T120.setTop (mkF m 147 #[.val (.int p0), .val (.int p1), .val (.int p2), .val (.int p3), .val (.int p4), .val (.int p5), .val (.int (2 : Int32)), .val (.ref b60), .val (.ref b61), .val (.int v105), .val (.int (own_h2 p2 p3)), .val (.int (own_h2 p2 p5))] [(.int v124)])) t → Steps p.tables e below (T120.setTop (mkF m 139 #[.val (.int p0), .val (.int p1), .val (.int p2), .val (.int p3), .val (.int p4), .val (.int p5), .val (.int (2 : Int32)), .val (.ref b60), .val (.ref b61), .val (.int v105), .val (.int (own_h2 p2 p3)), .val (.int (own_h2 p2 p5))] [(.int (own_h2 p2 p5)), (.int (own_h2 p2 p3))])) t := by
        intro t kt
        by_cases hm123 : (own_h2 p2 p3) = (own_h2 p2 p5)
        ·
          have ev124 : v124 = (1 : Int32) := by rw [hv124, if_pos hm123]
          rw [ev124] at kt
          refine (fun t (k : Steps p.tables e below (T120.setTop (mkF m 139 #[.val (.int p0), .val (.int p1), .val (.int p2), .val (.int p3), .val (.int p4), .val (.int p5), .val (.int (2 : Int32)), .val (.ref b60), .val (.ref b61), .val (.int v105), .val (.int (own_h2 p2 p3)), .val (.int (own_h2 p2 p5))] [(.int (own_h2 p2 p5)), (.int (own_h2 p2 p3))])) t) => k) _ ?_
          refine XS.icmpNo X120.here hx rfl (hb hby at_139) rfl (teq hm123).2 ?_
          show Steps p.tables e below (T120.setTop (mkF m 142 #[.val (.int p0), .val (.int p1), .val (.int p2), .val (.int p3), .val (.int p4), .val (.int p5), .val (.int (2 : Int32)), .val (.ref b60), .val (.ref b61), .val (.int v105), .val (.int (own_h2 p2 p3)), .val (.int (own_h2 p2 p5))] [])) _
          refine XS.iconst X120.here hx rfl (hb hby at_142) ?_
          show Steps p.tables e below (T120.setTop (mkF m 143 #[.val (.int p0), .val (.int p1), .val (.int p2), .val (.int p3), .val (.int p4), .val (.int p5), .val (.int (2 : Int32)), .val (.ref b60), .val (.ref b61), .val (.int v105), .val (.int (own_h2 p2 p3)), .val (.int (own_h2 p2 p5))] [(.int (1 : Int32))])) _
          refine XS.goto X120.here hx rfl (pc0 := 143) (pc' := 147) rfl (hb hby at_143) (by decide) (by decide) ?_
          show Steps p.tables e below (T120.setTop (mkF m 147 #[.val (.int p0), .val (.int p1), .val (.int p2), .val (.int p3), .val (.int p4), .val (.int p5), .val (.int (2 : Int32)), .val (.ref b60), .val (.ref b61), .val (.int v105), .val (.int (own_h2 p2 p3)), .val (.int (own_h2 p2 p5))] [(.int (1 : Int32))])) _
          exact kt
        ·
          have ev124 : v124 = (0 : Int32) := by rw [hv124, if_neg hm123]
          rw [ev124] at kt
          refine (fun t (k : Steps p.tables e below (T120.setTop (mkF m 139 #[.val (.int p0), .val (.int p1), .val (.int p2), .val (.int p3), .val (.int p4), .val (.int p5), .val (.int (2 : Int32)), .val (.ref b60), .val (.ref b61), .val (.int v105), .val (.int (own_h2 p2 p3)), .val (.int (own_h2 p2 p5))] [(.int (own_h2 p2 p5)), (.int (own_h2 p2 p3))])) t) => k) _ ?_
          refine XS.icmpYes X120.here hx rfl (pc0 := 139) (pc' := 146) rfl (hb hby at_139) rfl (feq hm123).2 (by decide) (by decide) ?_
          show Steps p.tables e below (T120.setTop (mkF m 146 #[.val (.int p0), .val (.int p1), .val (.int p2), .val (.int p3), .val (.int p4), .val (.int p5), .val (.int (2 : Int32)), .val (.ref b60), .val (.ref b61), .val (.int v105), .val (.int (own_h2 p2 p3)), .val (.int (own_h2 p2 p5))] [])) _
          refine XS.iconst X120.here hx rfl (hb hby at_146) ?_
          show Steps p.tables e below (T120.setTop (mkF m 147 #[.val (.int p0), .val (.int p1), .val (.int p2), .val (.int p3), .val (.int p4), .val (.int p5), .val (.int (2 : Int32)), .val (.ref b60), .val (.ref b61), .val (.int v105), .val (.int (own_h2 p2 p3)), .val (.int (own_h2 p2 p5))] [(.int (0 : Int32))])) _
          exact kt
      have hk126 : v124 = v105 := by rw [hv124, hv105]; exact own_law_2_1 _ _ _
      obtain ⟨fs, hr, hrun, hended, hW, hsame⟩ := X120.leave (v := some (.int (1 : Int32))) (fun h => by rw [Bd.returns] at h; cases h)
      refine ⟨_, _, pre76 _ ?_, hrun, hended, _, _, rfl, ?_, ⟨_, rfl⟩, hW, hsame.mono (by decide) (by decide)⟩
      ·
        show Steps p.tables e below (T73.setTop (mkF m 83 #[.val (.int p0), .val (.int p1), .val (.int p2), .val (.int p3), .val (.int p4), .val (.int p5), .val (.int (2 : Int32)), .val (.ref b60), .val (.ref b61), .val (.int (1 : Int32)), .val (.int (1 : Int32)), .unset] [])) _
        refine XS.aload X73.here hx rfl (hb hby at_83) rfl rfl ?_
        show Steps p.tables e below (T73.setTop (mkF m 85 #[.val (.int p0), .val (.int p1), .val (.int p2), .val (.int p3), .val (.int p4), .val (.int p5), .val (.int (2 : Int32)), .val (.ref b60), .val (.ref b61), .val (.int (1 : Int32)), .val (.int (1 : Int32)), .unset] [(.ref b60)])) _
        refine XS.iload X73.here hx rfl (hb hby at_85) rfl ?_
        show Steps p.tables e below (T73.setTop (mkF m 87 #[.val (.int p0), .val (.int p1), .val (.int p2), .val (.int p3), .val (.int p4), .val (.int p5), .val (.int (2 : Int32)), .val (.ref b60), .val (.ref b61), .val (.int (1 : Int32)), .val (.int (1 : Int32)), .unset] [(.int (1 : Int32)), (.ref b60)])) _
        refine X73.iaload hx (j := (1 : Int32)) (v := (.int p3)) (by rw [e73]; exact Aro103.1) (State.isArrayOf_alike hZ.alike Aro103.2.1) Aro103.2.2 hino103 hato103 (g := (mkF m 87 #[.val (.int p0), .val (.int p1), .val (.int p2), .val (.int p3), .val (.int p4), .val (.int p5), .val (.int (2 : Int32)), .val (.ref b60), .val (.ref b61), .val (.int (1 : Int32)), .val (.int (1 : Int32)), .unset] [(.int (1 : Int32)), (.ref b60)])) rfl rfl (hb hby at_87) _ ?_
        show Steps p.tables e below (T73.setTop (mkF m 88 #[.val (.int p0), .val (.int p1), .val (.int p2), .val (.int p3), .val (.int p4), .val (.int p5), .val (.int (2 : Int32)), .val (.ref b60), .val (.ref b61), .val (.int (1 : Int32)), .val (.int (1 : Int32)), .unset] [(.int p3)])) _
        refine XS.iload X73.here hx rfl (hb hby at_88) rfl ?_
        show Steps p.tables e below (T73.setTop (mkF m 90 #[.val (.int p0), .val (.int p1), .val (.int p2), .val (.int p3), .val (.int p4), .val (.int p5), .val (.int (2 : Int32)), .val (.ref b60), .val (.ref b61), .val (.int (1 : Int32)), .val (.int (1 : Int32)), .unset] [(.int p5), (.int p3)])) _
        refine mg106 _ ?_
        show Steps p.tables e below (T73.setTop (mkF m 98 #[.val (.int p0), .val (.int p1), .val (.int p2), .val (.int p3), .val (.int p4), .val (.int p5), .val (.int (2 : Int32)), .val (.ref b60), .val (.ref b61), .val (.int (1 : Int32)), .val (.int (1 : Int32)), .unset] [(.int v105)])) _
        refine XS.istore X73.here hx rfl (hb hby at_98) rfl (l' := #[.val (.int p0), .val (.int p1), .val (.int p2), .val (.int p3), .val (.int p4), .val (.int p5), .val (.int (2 : Int32)), .val (.ref b60), .val (.ref b61), .val (.int v105), .val (.int (1 : Int32)), .unset]) rfl ?_
        show Steps p.tables e below (T73.setTop (mkF m 100 #[.val (.int p0), .val (.int p1), .val (.int p2), .val (.int p3), .val (.int p4), .val (.int p5), .val (.int (2 : Int32)), .val (.ref b60), .val (.ref b61), .val (.int v105), .val (.int (1 : Int32)), .unset] [])) _
        refine XS.aload X73.here hx rfl (hb hby at_100) rfl rfl ?_
        show Steps p.tables e below (T73.setTop (mkF m 102 #[.val (.int p0), .val (.int p1), .val (.int p2), .val (.int p3), .val (.int p4), .val (.int p5), .val (.int (2 : Int32)), .val (.ref b60), .val (.ref b61), .val (.int v105), .val (.int (1 : Int32)), .unset] [(.ref b61)])) _
        refine XS.iload X73.here hx rfl (hb hby at_102) rfl ?_
        show Steps p.tables e below (T73.setTop (mkF m 104 #[.val (.int p0), .val (.int p1), .val (.int p2), .val (.int p3), .val (.int p4), .val (.int p5), .val (.int (2 : Int32)), .val (.ref b60), .val (.ref b61), .val (.int v105), .val (.int (1 : Int32)), .unset] [(.int (1 : Int32)), (.ref b61)])) _
        refine XS.iload X73.here hx rfl (hb hby at_104) rfl ?_
        show Steps p.tables e below (T73.setTop (mkF m 106 #[.val (.int p0), .val (.int p1), .val (.int p2), .val (.int p3), .val (.int p4), .val (.int p5), .val (.int (2 : Int32)), .val (.ref b60), .val (.ref b61), .val (.int v105), .val (.int (1 : Int32)), .unset] [(.int p5), (.int (1 : Int32)), (.ref b61)])) _
        refine st108 _ ?_
        show Steps p.tables e below (T108.setTop (mkF m 107 #[.val (.int p0), .val (.int p1), .val (.int p2), .val (.int p3), .val (.int p4), .val (.int p5), .val (.int (2 : Int32)), .val (.ref b60), .val (.ref b61), .val (.int v105), .val (.int (1 : Int32)), .unset] [])) _
        refine st110 _ ?_
        show Steps p.tables e below (T110.setTop (mkF m 110 #[.val (.int p0), .val (.int p1), .val (.int p2), .val (.int p3), .val (.int p4), .val (.int p5), .val (.int (2 : Int32)), .val (.ref b60), .val (.ref b61), .val (.int v105), .val (.int (1 : Int32)), .unset] [(.ref b110)])) _
        refine XS.dup X110.here hx rfl (hb hby at_110) rfl rfl ?_
        show Steps p.tables e below (T110.setTop (mkF m 111 #[.val (.int p0), .val (.int p1), .val (.int p2), .val (.int p3), .val (.int p4), .val (.int p5), .val (.int (2 : Int32)), .val (.ref b60), .val (.ref b61), .val (.int v105), .val (.int (1 : Int32)), .unset] [(.ref b110), (.ref b110)])) _
        refine XS.aload X110.here hx rfl (hb hby at_111) rfl rfl ?_
        show Steps p.tables e below (T110.setTop (mkF m 113 #[.val (.int p0), .val (.int p1), .val (.int p2), .val (.int p3), .val (.int p4), .val (.int p5), .val (.int (2 : Int32)), .val (.ref b60), .val (.ref b61), .val (.int v105), .val (.int (1 : Int32)), .unset] [(.ref b60), (.ref b110), (.ref b110)])) _
        refine st111.trans ?_
        show Steps p.tables e below (T111.setTop (mkF m 116 #[.val (.int p0), .val (.int p1), .val (.int p2), .val (.int p3), .val (.int p4), .val (.int p5), .val (.int (2 : Int32)), .val (.ref b60), .val (.ref b61), .val (.int v105), .val (.int (1 : Int32)), .unset] [(.ref b110)])) _
        refine st112.trans ?_
        show Steps p.tables e below (T112.setTop (mkF m 119 #[.val (.int p0), .val (.int p1), .val (.int p2), .val (.int p3), .val (.int p4), .val (.int p5), .val (.int (2 : Int32)), .val (.ref b60), .val (.ref b61), .val (.int v105), .val (.int (1 : Int32)), .unset] [(.int (own_h2 p2 p3))])) _
        refine XS.istore X112.here hx rfl (hb hby at_119) rfl (l' := #[.val (.int p0), .val (.int p1), .val (.int p2), .val (.int p3), .val (.int p4), .val (.int p5), .val (.int (2 : Int32)), .val (.ref b60), .val (.ref b61), .val (.int v105), .val (.int (own_h2 p2 p3)), .unset]) rfl ?_
        show Steps p.tables e below (T112.setTop (mkF m 121 #[.val (.int p0), .val (.int p1), .val (.int p2), .val (.int p3), .val (.int p4), .val (.int p5), .val (.int (2 : Int32)), .val (.ref b60), .val (.ref b61), .val (.int v105), .val (.int (own_h2 p2 p3)), .unset] [])) _
        refine st118 _ ?_
        show Steps p.tables e below (T118.setTop (mkF m 124 #[.val (.int p0), .val (.int p1), .val (.int p2), .val (.int p3), .val (.int p4), .val (.int p5), .val (.int (2 : Int32)), .val (.ref b60), .val (.ref b61), .val (.int v105), .val (.int (own_h2 p2 p3)), .unset] [(.ref b118)])) _
        refine XS.dup X118.here hx rfl (hb hby at_124) rfl rfl ?_
        show Steps p.tables e below (T118.setTop (mkF m 125 #[.val (.int p0), .val (.int p1), .val (.int p2), .val (.int p3), .val (.int p4), .val (.int p5), .val (.int (2 : Int32)), .val (.ref b60), .val (.ref b61), .val (.int v105), .val (.int (own_h2 p2 p3)), .unset] [(.ref b118), (.ref b118)])) _
        refine XS.aload X118.here hx rfl (hb hby at_125) rfl rfl ?_
        show Steps p.tables e below (T118.setTop (mkF m 127 #[.val (.int p0), .val (.int p1), .val (.int p2), .val (.int p3), .val (.int p4), .val (.int p5), .val (.int (2 : Int32)), .val (.ref b60), .val (.ref b61), .val (.int v105), .val (.int (own_h2 p2 p3)), .unset] [(.ref b61), (.ref b118), (.ref b118)])) _
        refine st119.trans ?_
        show Steps p.tables e below (T119.setTop (mkF m 130 #[.val (.int p0), .val (.int p1), .val (.int p2), .val (.int p3), .val (.int p4), .val (.int p5), .val (.int (2 : Int32)), .val (.ref b60), .val (.ref b61), .val (.int v105), .val (.int (own_h2 p2 p3)), .unset] [(.ref b118)])) _
        refine st120.trans ?_
        show Steps p.tables e below (T120.setTop (mkF m 133 #[.val (.int p0), .val (.int p1), .val (.int p2), .val (.int p3), .val (.int p4), .val (.int p5), .val (.int (2 : Int32)), .val (.ref b60), .val (.ref b61), .val (.int v105), .val (.int (own_h2 p2 p3)), .unset] [(.int (own_h2 p2 p5))])) _
        refine XS.istore X120.here hx rfl (hb hby at_133) rfl (l' := #[.val (.int p0), .val (.int p1), .val (.int p2), .val (.int p3), .val (.int p4), .val (.int p5), .val (.int (2 : Int32)), .val (.ref b60), .val (.ref b61), .val (.int v105), .val (.int (own_h2 p2 p3)), .val (.int (own_h2 p2 p5))]) rfl ?_
        show Steps p.tables e below (T120.setTop (mkF m 135 #[.val (.int p0), .val (.int p1), .val (.int p2), .val (.int p3), .val (.int p4), .val (.int p5), .val (.int (2 : Int32)), .val (.ref b60), .val (.ref b61), .val (.int v105), .val (.int (own_h2 p2 p3)), .val (.int (own_h2 p2 p5))] [])) _
        refine XS.iload X120.here hx rfl (hb hby at_135) rfl ?_
        show Steps p.tables e below (T120.setTop (mkF m 137 #[.val (.int p0), .val (.int p1), .val (.int p2), .val (.int p3), .val (.int p4), .val (.int p5), .val (.int (2 : Int32)), .val (.ref b60), .val (.ref b61), .val (.int v105), .val (.int (own_h2 p2 p3)), .val (.int (own_h2 p2 p5))] [(.int (own_h2 p2 p3))])) _
        refine XS.iload X120.here hx rfl (hb hby at_137) rfl ?_
        show Steps p.tables e below (T120.setTop (mkF m 139 #[.val (.int p0), .val (.int p1), .val (.int p2), .val (.int p3), .val (.int p4), .val (.int p5), .val (.int (2 : Int32)), .val (.ref b60), .val (.ref b61), .val (.int v105), .val (.int (own_h2 p2 p3)), .val (.int (own_h2 p2 p5))] [(.int (own_h2 p2 p5)), (.int (own_h2 p2 p3))])) _
        refine mg125 _ ?_
        show Steps p.tables e below (T120.setTop (mkF m 147 #[.val (.int p0), .val (.int p1), .val (.int p2), .val (.int p3), .val (.int p4), .val (.int p5), .val (.int (2 : Int32)), .val (.ref b60), .val (.ref b61), .val (.int v105), .val (.int (own_h2 p2 p3)), .val (.int (own_h2 p2 p5))] [(.int v124)])) _
        refine XS.iload X120.here hx rfl (hb hby at_147) rfl ?_
        show Steps p.tables e below (T120.setTop (mkF m 149 #[.val (.int p0), .val (.int p1), .val (.int p2), .val (.int p3), .val (.int p4), .val (.int p5), .val (.int (2 : Int32)), .val (.ref b60), .val (.ref b61), .val (.int v105), .val (.int (own_h2 p2 p3)), .val (.int (own_h2 p2 p5))] [(.int v105), (.int v124)])) _
        refine XS.icmpNo X120.here hx rfl (hb hby at_149) rfl (teq hk126).2 ?_
        show Steps p.tables e below (T120.setTop (mkF m 152 #[.val (.int p0), .val (.int p1), .val (.int p2), .val (.int p3), .val (.int p4), .val (.int p5), .val (.int (2 : Int32)), .val (.ref b60), .val (.ref b61), .val (.int v105), .val (.int (own_h2 p2 p3)), .val (.int (own_h2 p2 p5))] [])) _
        refine XS.iconst X120.here hx rfl (hb hby at_152) ?_
        show Steps p.tables e below (T120.setTop (mkF m 153 #[.val (.int p0), .val (.int p1), .val (.int p2), .val (.int p3), .val (.int p4), .val (.int p5), .val (.int (2 : Int32)), .val (.ref b60), .val (.ref b61), .val (.int v105), .val (.int (own_h2 p2 p3)), .val (.int (own_h2 p2 p5))] [(.int (1 : Int32))])) _
        refine XS.goto X120.here hx rfl (pc0 := 153) (pc' := 157) rfl (hb hby at_153) (by decide) (by decide) ?_
        show Steps p.tables e below (T120.setTop (mkF m 157 #[.val (.int p0), .val (.int p1), .val (.int p2), .val (.int p3), .val (.int p4), .val (.int p5), .val (.int (2 : Int32)), .val (.ref b60), .val (.ref b61), .val (.int v105), .val (.int (own_h2 p2 p3)), .val (.int (own_h2 p2 p5))] [(.int (1 : Int32))])) _
        exact retN X120 hx (t := .boolean) Bd.returns (by simp) (hb hby at_157) hr
      ·
        show Q0 Z p0 p1 p2 p3 p4 p5 h0 n0 _ T120.heap _
        exact ⟨rfl, N120⟩
  ·
    subst q
    obtain ⟨T127, h127, k127, X127, e127, E127, A127, st127⟩ := newP X0 hx hZ (hw _ (List.mem_of_getElem? (i := 0) rfl)) e0 (g := (mkF m 7 #[.val (.int p0), .val (.int p1), .val (.int p2), .val (.int p3), .val (.int p4), .val (.int p5), .val (.int (3 : Int32)), .unset, .unset, .unset, .unset, .unset] [(.int (3 : Int32))])) rfl (hb hby at_7) rfl (by decide) (cap := 3) (by decide) (by decide) (by decide) (by decide)
    obtain ⟨b127, g127⟩ : ∃ z, z = h0.size := ⟨_, rfl⟩
    rw [← g127] at A127 st127
    have g_b127 : n0 ≤ b127 := Nat.le_trans (Nat.le_trans Z0 K0.1) (Nat.le_of_eq g127.symm)
    have sz_b127 : h0.size ≤ b127 := Nat.le_trans K0.1 (Nat.le_of_eq g127.symm)
    have K127 := K0.ext E127
    have V_b127 : Arv Z h127 b127 k127 .int (3 : Int32) [(.int (0 : Int32)), (.int (0 : Int32)), (.int (0 : Int32))] (.int (0 : Int32)) := (Arv.new A127 (by decide)).pad (pad_rep [] (.int (0 : Int32)) 3)
    obtain ⟨T128, h128, k128, X128, e128, E128, A128, st128⟩ := newP X127 hx hZ (hw _ (List.mem_of_getElem? (i := 0) rfl)) e127 (g := (mkF m 13 #[.val (.int p0), .val (.int p1), .val (.int p2), .val (.int p3), .val (.int p4), .val (.int p5), .val (.int (3 : Int32)), .val (.ref b127), .unset, .unset, .unset, .unset] [(.int (3 : Int32))])) rfl (hb hby at_13) rfl (by decide) (cap := 3) (by decide) (by decide) (by decide) (by decide)
    obtain ⟨b128, g128⟩ : ∃ z, z = h127.size := ⟨_, rfl⟩
    rw [← g128] at A128 st128
    have g_b128 : n0 ≤ b128 := Nat.le_trans (Nat.le_trans Z0 K127.1) (Nat.le_of_eq g128.symm)
    have sz_b128 : h0.size ≤ b128 := Nat.le_trans K127.1 (Nat.le_of_eq g128.symm)
    have ne_b127_b128 : b127 ≠ b128 := Nat.ne_of_lt (Nat.lt_of_lt_of_le V_b127.lt (Nat.le_of_eq g128.symm))
    have K128 := K127.ext E128
    have V_b128 : Arv Z h128 b128 k128 .int (3 : Int32) [(.int (0 : Int32)), (.int (0 : Int32)), (.int (0 : Int32))] (.int (0 : Int32)) := (Arv.new A128 (by decide)).pad (pad_rep [] (.int (0 : Int32)) 3)
    have c129 := (V_b127.ext E128)
    obtain ⟨clo130, Aro130, qo130, So130, No130, Ho130, Go130⟩ := id c129
    have hino130 : ¬ ((0 : Int32) < 0 ∨ clo130.slots.size ≤ ((0 : Int32)).toNatClampNeg) := inb_of So130 ⟨by decide, by decide⟩
    obtain ⟨T131, h131, X131, e131, W131, st131⟩ := stI X128 hx hZ e128 Aro130 (j := (0 : Int32)) hino130 (g := (mkF m 26 #[.val (.int p0), .val (.int p1), .val (.int p2), .val (.int p3), .val (.int p4), .val (.int p5), .val (.int (3 : Int32)), .val (.ref b127), .val (.ref b128), .unset, .unset, .unset] [(.int p2), (.int (0 : Int32)), (.ref b127)])) rfl rfl (hb hby at_26)
    have V131 : Arv Z h131 b127 k127 .int (3 : Int32) [(.int p2), (.int (0 : Int32)), (.int (0 : Int32))] (.int (0 : Int32)) := Arv.set Aro130 qo130 So130 No130 Ho130 Go130 rfl W131 0 rfl (Nat.le_of_ble_eq_true rfl)
    have K131 := K128.wr W131 (Or.inr sz_b127)
    have N131 := Fr.snoc X131 N0 g_b127
    have c132 := (V_b128.other W131 (Ne.symm ne_b127_b128))
    obtain ⟨clo133, Aro133, qo133, So133, No133, Ho133, Go133⟩ := id c132
    have hino133 : ¬ ((0 : Int32) < 0 ∨ clo133.slots.size ≤ ((0 : Int32)).toNatClampNeg) := inb_of So133 ⟨by decide, by decide⟩
    obtain ⟨T134, h134, X134, e134, W134, st134⟩ := stI X131 hx hZ e131 Aro133 (j := (0 : Int32)) hino133 (g := (mkF m 31 #[.val (.int p0), .val (.int p1), .val (.int p2), .val (.int p3), .val (.int p4), .val (.int p5), .val (.int (3 : Int32)), .val (.ref b127), .val (.ref b128), .unset, .unset, .unset] [(.int p2), (.int (0 : Int32)), (.ref b128)])) rfl rfl (hb hby at_31)
    have V134 : Arv Z h134 b128 k128 .int (3 : Int32) [(.int p2), (.int (0 : Int32)), (.int (0 : Int32))] (.int (0 : Int32)) := Arv.set Aro133 qo133 So133 No133 Ho133 Go133 rfl W134 0 rfl (Nat.le_of_ble_eq_true rfl)
    have K134 := K131.wr W134 (Or.inr sz_b128)
    have N134 := Fr.snoc X134 N131 g_b128
    have c135 := (V131.other W134 ne_b127_b128)
    obtain ⟨clo136, Aro136, qo136, So136, No136, Ho136, Go136⟩ := id c135
    have hino136 : ¬ ((1 : Int32) < 0 ∨ clo136.slots.size ≤ ((1 : Int32)).toNatClampNeg) := inb_of So136 ⟨by decide, by decide⟩
    obtain ⟨T137, h137, X137, e137, W137, st137⟩ := stI X134 hx hZ e134 Aro136 (j := (1 : Int32)) hino136 (g := (mkF m 42 #[.val (.int p0), .val (.int p1), .val (.int p2), .val (.int p3), .val (.int p4), .val (.int p5), .val (.int (3 : Int32)), .val (.ref b127), .val (.ref b128), .unset, .unset, .unset] [(.int p3), (.int (1 : Int32)), (.ref b127)])) rfl rfl (hb hby at_42)
    have V137 : Arv Z h137 b127 k127 .int (3 : Int32) [(.int p2), (.int p3), (.int (0 : Int32))] (.int (0 : Int32)) := Arv.set Aro136 qo136 So136 No136 Ho136 Go136 rfl W137 1 rfl (Nat.le_of_ble_eq_true rfl)
    have K137 := K134.wr W137 (Or.inr sz_b127)
    have N137 := Fr.snoc X137 N134 g_b127
    have c138 := (V134.other W137 (Ne.symm ne_b127_b128))
    obtain ⟨clo139, Aro139, qo139, So139, No139, Ho139, Go139⟩ := id c138
    have hino139 : ¬ ((1 : Int32) < 0 ∨ clo139.slots.size ≤ ((1 : Int32)).toNatClampNeg) := inb_of So139 ⟨by decide, by decide⟩
    obtain ⟨T140, h140, X140, e140, W140, st140⟩ := stI X137 hx hZ e137 Aro139 (j := (1 : Int32)) hino139 (g := (mkF m 47 #[.val (.int p0), .val (.int p1), .val (.int p2), .val (.int p3), .val (.int p4), .val (.int p5), .val (.int (3 : Int32)), .val (.ref b127), .val (.ref b128), .unset, .unset, .unset] [(.int p3), (.int (1 : Int32)), (.ref b128)])) rfl rfl (hb hby at_47)
    have V140 : Arv Z h140 b128 k128 .int (3 : Int32) [(.int p2), (.int p3), (.int (0 : Int32))] (.int (0 : Int32)) := Arv.set Aro139 qo139 So139 No139 Ho139 Go139 rfl W140 1 rfl (Nat.le_of_ble_eq_true rfl)
    have K140 := K137.wr W140 (Or.inr sz_b128)
    have N140 := Fr.snoc X140 N137 g_b128
    have c141 := (V137.other W140 ne_b127_b128)
    obtain ⟨clo142, Aro142, qo142, So142, No142, Ho142, Go142⟩ := id c141
    have hino142 : ¬ ((2 : Int32) < 0 ∨ clo142.slots.size ≤ ((2 : Int32)).toNatClampNeg) := inb_of So142 ⟨by decide, by decide⟩
    obtain ⟨T143, h143, X143, e143, W143, st143⟩ := stI X140 hx hZ e140 Aro142 (j := (2 : Int32)) hino142 (g := (mkF m 59 #[.val (.int p0), .val (.int p1), .val (.int p2), .val (.int p3), .val (.int p4), .val (.int p5), .val (.int (3 : Int32)), .val (.ref b127), .val (.ref b128), .unset, .unset, .unset] [(.int p4), (.int (2 : Int32)), (.ref b127)])) rfl rfl (hb hby at_59)
    have V143 : Arv Z h143 b127 k127 .int (3 : Int32) [(.int p2), (.int p3), (.int p4)] (.int (0 : Int32)) := Arv.set Aro142 qo142 So142 No142 Ho142 Go142 rfl W143 2 rfl (Nat.le_of_ble_eq_true rfl)
    have K143 := K140.wr W143 (Or.inr sz_b127)
    have N143 := Fr.snoc X143 N140 g_b127
    have c144 := (V140.other W143 (Ne.symm ne_b127_b128))
    obtain ⟨clo145, Aro145, qo145, So145, No145, Ho145, Go145⟩ := id c144
    have hino145 : ¬ ((2 : Int32) < 0 ∨ clo145.slots.size ≤ ((2 : Int32)).toNatClampNeg) := inb_of So145 ⟨by decide, by decide⟩
    obtain ⟨T146, h146, X146, e146, W146, st146⟩ := stI X143 hx hZ e143 Aro145 (j := (2 : Int32)) hino145 (g := (mkF m 65 #[.val (.int p0), .val (.int p1), .val (.int p2), .val (.int p3), .val (.int p4), .val (.int p5), .val (.int (3 : Int32)), .val (.ref b127), .val (.ref b128), .unset, .unset, .unset] [(.int p4), (.int (2 : Int32)), (.ref b128)])) rfl rfl (hb hby at_65)
    have V146 : Arv Z h146 b128 k128 .int (3 : Int32) [(.int p2), (.int p3), (.int p4)] (.int (0 : Int32)) := Arv.set Aro145 qo145 So145 No145 Ho145 Go145 rfl W146 2 rfl (Nat.le_of_ble_eq_true rfl)
    have K146 := K143.wr W146 (Or.inr sz_b128)
    have N146 := Fr.snoc X146 N143 g_b128
    obtain ⟨pv147, hpv147⟩ : ∃ z, z = ((p1 &&& (2147483647 : Int32)) - (p1 &&& (2147483647 : Int32)) / (3 : Int32) * (3 : Int32)) := ⟨_, rfl⟩
    have pre148 : ∀ t, Steps p.tables e below (T146.setTop (mkF m 81 #[.val (.int p0), .val (.int p1), .val (.int p2), .val (.int p3), .val (.int p4), .val (.int p5), .val (.int (3 : Int32)), .val (.ref b127), .val (.ref b128), .val (.int (1 : Int32)), .unset, .unset] [(.int pv147)])) t → Steps p.tables e below (s₁.setTop (entryFrame m #[(.int p0), (.int p1), (.int p2), (.int p3), (.int p4), (.int p5)] maxLocals)) t := by
      intro t kt
      rw [hpv147] at kt
      refine pre3 _ ?_
      show Steps p.tables e below (s₁.setTop (mkF m 5 #[.val (.int p0), .val (.int p1), .val (.int p2), .val (.int p3), .val (.int p4), .val (.int p5), .val (.int (3 : Int32)), .unset, .unset, .unset, .unset, .unset] [])) _
      refine XS.iload X0.here hx rfl (hb hby at_5) rfl ?_
      show Steps p.tables e below (s₁.setTop (mkF m 7 #[.val (.int p0), .val (.int p1), .val (.int p2), .val (.int p3), .val (.int p4), .val (.int p5), .val (.int (3 : Int32)), .unset, .unset, .unset, .unset, .unset] [(.int (3 : Int32))])) _
      refine st127 _ ?_
      show Steps p.tables e below (T127.setTop (mkF m 9 #[.val (.int p0), .val (.int p1), .val (.int p2), .val (.int p3), .val (.int p4), .val (.int p5), .val (.int (3 : Int32)), .unset, .unset, .unset, .unset, .unset] [(.ref b127)])) _
      refine XS.astore X127.here hx rfl (hb hby at_9) rfl rfl (l' := #[.val (.int p0), .val (.int p1), .val (.int p2), .val (.int p3), .val (.int p4), .val (.int p5), .val (.int (3 : Int32)), .val (.ref b127), .unset, .unset, .unset, .unset]) rfl ?_
      show Steps p.tables e below (T127.setTop (mkF m 11 #[.val (.int p0), .val (.int p1), .val (.int p2), .val (.int p3), .val (.int p4), .val (.int p5), .val (.int (3 : Int32)), .val (.ref b127), .unset, .unset, .unset, .unset] [])) _
      refine XS.iload X127.here hx rfl (hb hby at_11) rfl ?_
      show Steps p.tables e below (T127.setTop (mkF m 13 #[.val (.int p0), .val (.int p1), .val (.int p2), .val (.int p3), .val (.int p4), .val (.int p5), .val (.int (3 : Int32)), .val (.ref b127), .unset, .unset, .unset, .unset] [(.int (3 : Int32))])) _
      refine st128 _ ?_
      show Steps p.tables e below (T128.setTop (mkF m 15 #[.val (.int p0), .val (.int p1), .val (.int p2), .val (.int p3), .val (.int p4), .val (.int p5), .val (.int (3 : Int32)), .val (.ref b127), .unset, .unset, .unset, .unset] [(.ref b128)])) _
      refine XS.astore X128.here hx rfl (hb hby at_15) rfl rfl (l' := #[.val (.int p0), .val (.int p1), .val (.int p2), .val (.int p3), .val (.int p4), .val (.int p5), .val (.int (3 : Int32)), .val (.ref b127), .val (.ref b128), .unset, .unset, .unset]) rfl ?_
      show Steps p.tables e below (T128.setTop (mkF m 17 #[.val (.int p0), .val (.int p1), .val (.int p2), .val (.int p3), .val (.int p4), .val (.int p5), .val (.int (3 : Int32)), .val (.ref b127), .val (.ref b128), .unset, .unset, .unset] [])) _
      refine XS.iload X128.here hx rfl (hb hby at_17) rfl ?_
      show Steps p.tables e below (T128.setTop (mkF m 19 #[.val (.int p0), .val (.int p1), .val (.int p2), .val (.int p3), .val (.int p4), .val (.int p5), .val (.int (3 : Int32)), .val (.ref b127), .val (.ref b128), .unset, .unset, .unset] [(.int (3 : Int32))])) _
      refine XS.ifNo X128.here hx rfl (hb hby at_19) rfl ((if0 _ _).trans (tlt (by decide : (0 : Int32) < (3 : Int32))).2.2.2) ?_
      show Steps p.tables e below (T128.setTop (mkF m 22 #[.val (.int p0), .val (.int p1), .val (.int p2), .val (.int p3), .val (.int p4), .val (.int p5), .val (.int (3 : Int32)), .val (.ref b127), .val (.ref b128), .unset, .unset, .unset] [])) _
      refine XS.aload X128.here hx rfl (hb hby at_22) rfl rfl ?_
      show Steps p.tables e below (T128.setTop (mkF m 24 #[.val (.int p0), .val (.int p1), .val (.int p2), .val (.int p3), .val (.int p4), .val (.int p5), .val (.int (3 : Int32)), .val (.ref b127), .val (.ref b128), .unset, .unset, .unset] [(.ref b127)])) _
      refine XS.iconst X128.here hx rfl (hb hby at_24) ?_
      show Steps p.tables e below (T128.setTop (mkF m 25 #[.val (.int p0), .val (.int p1), .val (.int p2), .val (.int p3), .val (.int p4), .val (.int p5), .val (.int (3 : Int32)), .val (.ref b127), .val (.ref b128), .unset, .unset, .unset] [(.int (0 : Int32)), (.ref b127)])) _
      refine XS.iloadN X128.here hx rfl (hb hby at_25) rfl ?_
      show Steps p.tables e below (T128.setTop (mkF m 26 #[.val (.int p0), .val (.int p1), .val (.int p2), .val (.int p3), .val (.int p4), .val (.int p5), .val (.int (3 : Int32)), .val (.ref b127), .val (.ref b128), .unset, .unset, .unset] [(.int p2), (.int (0 : Int32)), (.ref b127)])) _
      refine st131 _ ?_
      show Steps p.tables e below (T131.setTop (mkF m 27 #[.val (.int p0), .val (.int p1), .val (.int p2), .val (.int p3), .val (.int p4), .val (.int p5), .val (.int (3 : Int32)), .val (.ref b127), .val (.ref b128), .unset, .unset, .unset] [])) _
      refine XS.aload X131.here hx rfl (hb hby at_27) rfl rfl ?_
      show Steps p.tables e below (T131.setTop (mkF m 29 #[.val (.int p0), .val (.int p1), .val (.int p2), .val (.int p3), .val (.int p4), .val (.int p5), .val (.int (3 : Int32)), .val (.ref b127), .val (.ref b128), .unset, .unset, .unset] [(.ref b128)])) _
      refine XS.iconst X131.here hx rfl (hb hby at_29) ?_
      show Steps p.tables e below (T131.setTop (mkF m 30 #[.val (.int p0), .val (.int p1), .val (.int p2), .val (.int p3), .val (.int p4), .val (.int p5), .val (.int (3 : Int32)), .val (.ref b127), .val (.ref b128), .unset, .unset, .unset] [(.int (0 : Int32)), (.ref b128)])) _
      refine XS.iloadN X131.here hx rfl (hb hby at_30) rfl ?_
      show Steps p.tables e below (T131.setTop (mkF m 31 #[.val (.int p0), .val (.int p1), .val (.int p2), .val (.int p3), .val (.int p4), .val (.int p5), .val (.int (3 : Int32)), .val (.ref b127), .val (.ref b128), .unset, .unset, .unset] [(.int p2), (.int (0 : Int32)), (.ref b128)])) _
      refine st134 _ ?_
      show Steps p.tables e below (T134.setTop (mkF m 32 #[.val (.int p0), .val (.int p1), .val (.int p2), .val (.int p3), .val (.int p4), .val (.int p5), .val (.int (3 : Int32)), .val (.ref b127), .val (.ref b128), .unset, .unset, .unset] [])) _
      refine XS.iload X134.here hx rfl (hb hby at_32) rfl ?_
      show Steps p.tables e below (T134.setTop (mkF m 34 #[.val (.int p0), .val (.int p1), .val (.int p2), .val (.int p3), .val (.int p4), .val (.int p5), .val (.int (3 : Int32)), .val (.ref b127), .val (.ref b128), .unset, .unset, .unset] [(.int (3 : Int32))])) _
      refine XS.iconst X134.here hx rfl (hb hby at_34) ?_
      show Steps p.tables e below (T134.setTop (mkF m 35 #[.val (.int p0), .val (.int p1), .val (.int p2), .val (.int p3), .val (.int p4), .val (.int p5), .val (.int (3 : Int32)), .val (.ref b127), .val (.ref b128), .unset, .unset, .unset] [(.int (1 : Int32)), (.int (3 : Int32))])) _
      refine XS.icmpNo X134.here hx rfl (hb hby at_35) rfl (tlt (by decide : (1 : Int32) < (3 : Int32))).2.2.2 ?_
      show Steps p.tables e below (T134.setTop (mkF m 38 #[.val (.int p0), .val (.int p1), .val (.int p2), .val (.int p3), .val (.int p4), .val (.int p5), .val (.int (3 : Int32)), .val (.ref b127), .val (.ref b128), .unset, .unset, .unset] [])) _
      refine XS.aload X134.here hx rfl (hb hby at_38) rfl rfl ?_
      show Steps p.tables e below (T134.setTop (mkF m 40 #[.val (.int p0), .val (.int p1), .val (.int p2), .val (.int p3), .val (.int p4), .val (.int p5), .val (.int (3 : Int32)), .val (.ref b127), .val (.ref b128), .unset, .unset, .unset] [(.ref b127)])) _
      refine XS.iconst X134.here hx rfl (hb hby at_40) ?_
      show Steps p.tables e below (T134.setTop (mkF m 41 #[.val (.int p0), .val (.int p1), .val (.int p2), .val (.int p3), .val (.int p4), .val (.int p5), .val (.int (3 : Int32)), .val (.ref b127), .val (.ref b128), .unset, .unset, .unset] [(.int (1 : Int32)), (.ref b127)])) _
      refine XS.iloadN X134.here hx rfl (hb hby at_41) rfl ?_
      show Steps p.tables e below (T134.setTop (mkF m 42 #[.val (.int p0), .val (.int p1), .val (.int p2), .val (.int p3), .val (.int p4), .val (.int p5), .val (.int (3 : Int32)), .val (.ref b127), .val (.ref b128), .unset, .unset, .unset] [(.int p3), (.int (1 : Int32)), (.ref b127)])) _
      refine st137 _ ?_
      show Steps p.tables e below (T137.setTop (mkF m 43 #[.val (.int p0), .val (.int p1), .val (.int p2), .val (.int p3), .val (.int p4), .val (.int p5), .val (.int (3 : Int32)), .val (.ref b127), .val (.ref b128), .unset, .unset, .unset] [])) _
      refine XS.aload X137.here hx rfl (hb hby at_43) rfl rfl ?_
      show Steps p.tables e below (T137.setTop (mkF m 45 #[.val (.int p0), .val (.int p1), .val (.int p2), .val (.int p3), .val (.int p4), .val (.int p5), .val (.int (3 : Int32)), .val (.ref b127), .val (.ref b128), .unset, .unset, .unset] [(.ref b128)])) _
      refine XS.iconst X137.here hx rfl (hb hby at_45) ?_
      show Steps p.tables e below (T137.setTop (mkF m 46 #[.val (.int p0), .val (.int p1), .val (.int p2), .val (.int p3), .val (.int p4), .val (.int p5), .val (.int (3 : Int32)), .val (.ref b127), .val (.ref b128), .unset, .unset, .unset] [(.int (1 : Int32)), (.ref b128)])) _
      refine XS.iloadN X137.here hx rfl (hb hby at_46) rfl ?_
      show Steps p.tables e below (T137.setTop (mkF m 47 #[.val (.int p0), .val (.int p1), .val (.int p2), .val (.int p3), .val (.int p4), .val (.int p5), .val (.int (3 : Int32)), .val (.ref b127), .val (.ref b128), .unset, .unset, .unset] [(.int p3), (.int (1 : Int32)), (.ref b128)])) _
      refine st140 _ ?_
      show Steps p.tables e below (T140.setTop (mkF m 48 #[.val (.int p0), .val (.int p1), .val (.int p2), .val (.int p3), .val (.int p4), .val (.int p5), .val (.int (3 : Int32)), .val (.ref b127), .val (.ref b128), .unset, .unset, .unset] [])) _
      refine XS.iload X140.here hx rfl (hb hby at_48) rfl ?_
      show Steps p.tables e below (T140.setTop (mkF m 50 #[.val (.int p0), .val (.int p1), .val (.int p2), .val (.int p3), .val (.int p4), .val (.int p5), .val (.int (3 : Int32)), .val (.ref b127), .val (.ref b128), .unset, .unset, .unset] [(.int (3 : Int32))])) _
      refine XS.iconst X140.here hx rfl (hb hby at_50) ?_
      show Steps p.tables e below (T140.setTop (mkF m 51 #[.val (.int p0), .val (.int p1), .val (.int p2), .val (.int p3), .val (.int p4), .val (.int p5), .val (.int (3 : Int32)), .val (.ref b127), .val (.ref b128), .unset, .unset, .unset] [(.int (2 : Int32)), (.int (3 : Int32))])) _
      refine XS.icmpNo X140.here hx rfl (hb hby at_51) rfl (tlt (by decide : (2 : Int32) < (3 : Int32))).2.2.2 ?_
      show Steps p.tables e below (T140.setTop (mkF m 54 #[.val (.int p0), .val (.int p1), .val (.int p2), .val (.int p3), .val (.int p4), .val (.int p5), .val (.int (3 : Int32)), .val (.ref b127), .val (.ref b128), .unset, .unset, .unset] [])) _
      refine XS.aload X140.here hx rfl (hb hby at_54) rfl rfl ?_
      show Steps p.tables e below (T140.setTop (mkF m 56 #[.val (.int p0), .val (.int p1), .val (.int p2), .val (.int p3), .val (.int p4), .val (.int p5), .val (.int (3 : Int32)), .val (.ref b127), .val (.ref b128), .unset, .unset, .unset] [(.ref b127)])) _
      refine XS.iconst X140.here hx rfl (hb hby at_56) ?_
      show Steps p.tables e below (T140.setTop (mkF m 57 #[.val (.int p0), .val (.int p1), .val (.int p2), .val (.int p3), .val (.int p4), .val (.int p5), .val (.int (3 : Int32)), .val (.ref b127), .val (.ref b128), .unset, .unset, .unset] [(.int (2 : Int32)), (.ref b127)])) _
      refine XS.iload X140.here hx rfl (hb hby at_57) rfl ?_
      show Steps p.tables e below (T140.setTop (mkF m 59 #[.val (.int p0), .val (.int p1), .val (.int p2), .val (.int p3), .val (.int p4), .val (.int p5), .val (.int (3 : Int32)), .val (.ref b127), .val (.ref b128), .unset, .unset, .unset] [(.int p4), (.int (2 : Int32)), (.ref b127)])) _
      refine st143 _ ?_
      show Steps p.tables e below (T143.setTop (mkF m 60 #[.val (.int p0), .val (.int p1), .val (.int p2), .val (.int p3), .val (.int p4), .val (.int p5), .val (.int (3 : Int32)), .val (.ref b127), .val (.ref b128), .unset, .unset, .unset] [])) _
      refine XS.aload X143.here hx rfl (hb hby at_60) rfl rfl ?_
      show Steps p.tables e below (T143.setTop (mkF m 62 #[.val (.int p0), .val (.int p1), .val (.int p2), .val (.int p3), .val (.int p4), .val (.int p5), .val (.int (3 : Int32)), .val (.ref b127), .val (.ref b128), .unset, .unset, .unset] [(.ref b128)])) _
      refine XS.iconst X143.here hx rfl (hb hby at_62) ?_
      show Steps p.tables e below (T143.setTop (mkF m 63 #[.val (.int p0), .val (.int p1), .val (.int p2), .val (.int p3), .val (.int p4), .val (.int p5), .val (.int (3 : Int32)), .val (.ref b127), .val (.ref b128), .unset, .unset, .unset] [(.int (2 : Int32)), (.ref b128)])) _
      refine XS.iload X143.here hx rfl (hb hby at_63) rfl ?_
      show Steps p.tables e below (T143.setTop (mkF m 65 #[.val (.int p0), .val (.int p1), .val (.int p2), .val (.int p3), .val (.int p4), .val (.int p5), .val (.int (3 : Int32)), .val (.ref b127), .val (.ref b128), .unset, .unset, .unset] [(.int p4), (.int (2 : Int32)), (.ref b128)])) _
      refine st146 _ ?_
      show Steps p.tables e below (T146.setTop (mkF m 66 #[.val (.int p0), .val (.int p1), .val (.int p2), .val (.int p3), .val (.int p4), .val (.int p5), .val (.int (3 : Int32)), .val (.ref b127), .val (.ref b128), .unset, .unset, .unset] [])) _
      refine XS.iconst X146.here hx rfl (hb hby at_66) ?_
      show Steps p.tables e below (T146.setTop (mkF m 67 #[.val (.int p0), .val (.int p1), .val (.int p2), .val (.int p3), .val (.int p4), .val (.int p5), .val (.int (3 : Int32)), .val (.ref b127), .val (.ref b128), .unset, .unset, .unset] [(.int (1 : Int32))])) _
      refine XS.istore X146.here hx rfl (hb hby at_67) rfl (l' := #[.val (.int p0), .val (.int p1), .val (.int p2), .val (.int p3), .val (.int p4), .val (.int p5), .val (.int (3 : Int32)), .val (.ref b127), .val (.ref b128), .val (.int (1 : Int32)), .unset, .unset]) rfl ?_
      show Steps p.tables e below (T146.setTop (mkF m 69 #[.val (.int p0), .val (.int p1), .val (.int p2), .val (.int p3), .val (.int p4), .val (.int p5), .val (.int (3 : Int32)), .val (.ref b127), .val (.ref b128), .val (.int (1 : Int32)), .unset, .unset] [])) _
      refine XS.iload X146.here hx rfl (hb hby at_69) rfl ?_
      show Steps p.tables e below (T146.setTop (mkF m 71 #[.val (.int p0), .val (.int p1), .val (.int p2), .val (.int p3), .val (.int p4), .val (.int p5), .val (.int (3 : Int32)), .val (.ref b127), .val (.ref b128), .val (.int (1 : Int32)), .unset, .unset] [(.int (3 : Int32))])) _
      refine XS.ifNo X146.here hx rfl (hb hby at_71) rfl ((if0 _ _).trans (tlt (by decide : (0 : Int32) < (3 : Int32))).2.2.2) ?_
      show Steps p.tables e below (T146.setTop (mkF m 74 #[.val (.int p0), .val (.int p1), .val (.int p2), .val (.int p3), .val (.int p4), .val (.int p5), .val (.int (3 : Int32)), .val (.ref b127), .val (.ref b128), .val (.int (1 : Int32)), .unset, .unset] [])) _
      refine XS.iloadN X146.here hx rfl (hb hby at_74) rfl ?_
      show Steps p.tables e below (T146.setTop (mkF m 75 #[.val (.int p0), .val (.int p1), .val (.int p2), .val (.int p3), .val (.int p4), .val (.int p5), .val (.int (3 : Int32)), .val (.ref b127), .val (.ref b128), .val (.int (1 : Int32)), .unset, .unset] [(.int p1)])) _
      refine X146.ldcInt hx hown (mvT hZ (hw _ (List.mem_of_getElem? (i := 22) rfl))) (g := (mkF m 75 #[.val (.int p0), .val (.int p1), .val (.int p2), .val (.int p3), .val (.int p4), .val (.int p5), .val (.int (3 : Int32)), .val (.ref b127), .val (.ref b128), .val (.int (1 : Int32)), .unset, .unset] [(.int p1)])) rfl (hb hby at_75) _ ?_
      show Steps p.tables e below (T146.setTop (mkF m 77 #[.val (.int p0), .val (.int p1), .val (.int p2), .val (.int p3), .val (.int p4), .val (.int p5), .val (.int (3 : Int32)), .val (.ref b127), .val (.ref b128), .val (.int (1 : Int32)), .unset, .unset] [(.int (2147483647 : Int32)), (.int p1)])) _
      refine XS.iand X146.here hx rfl (hb hby at_77) rfl ?_
      show Steps p.tables e below (T146.setTop (mkF m 78 #[.val (.int p0), .val (.int p1), .val (.int p2), .val (.int p3), .val (.int p4), .val (.int p5), .val (.int (3 : Int32)), .val (.ref b127), .val (.ref b128), .val (.int (1 : Int32)), .unset, .unset] [(.int (p1 &&& (2147483647 : Int32)))])) _
      refine XS.iload X146.here hx rfl (hb hby at_78) rfl ?_
      show Steps p.tables e below (T146.setTop (mkF m 80 #[.val (.int p0), .val (.int p1), .val (.int p2), .val (.int p3), .val (.int p4), .val (.int p5), .val (.int (3 : Int32)), .val (.ref b127), .val (.ref b128), .val (.int (1 : Int32)), .unset, .unset] [(.int (3 : Int32)), (.int (p1 &&& (2147483647 : Int32)))])) _
      refine XS.irem X146.here hx rfl (hb hby at_80) rfl (by decide) ?_
      show Steps p.tables e below (T146.setTop (mkF m 81 #[.val (.int p0), .val (.int p1), .val (.int p2), .val (.int p3), .val (.int p4), .val (.int p5), .val (.int (3 : Int32)), .val (.ref b127), .val (.ref b128), .val (.int (1 : Int32)), .unset, .unset] [(.int ((p1 &&& (2147483647 : Int32)) - (p1 &&& (2147483647 : Int32)) / (3 : Int32) * (3 : Int32)))])) _
      exact kt
    have pre149 : ∀ t, Steps p.tables e below (T146.setTop (mkF m 83 #[.val (.int p0), .val (.int p1), .val (.int p2), .val (.int p3), .val (.int p4), .val (.int p5), .val (.int (3 : Int32)), .val (.ref b127), .val (.ref b128), .val (.int (1 : Int32)), .val (.int pv147), .unset] [])) t → Steps p.tables e below (s₁.setTop (entryFrame m #[(.int p0), (.int p1), (.int p2), (.int p3), (.int p4), (.int p5)] maxLocals)) t := by
      intro t kt
      refine pre148 _ ?_
      show Steps p.tables e below (T146.setTop (mkF m 81 #[.val (.int p0), .val (.int p1), .val (.int p2), .val (.int p3), .val (.int p4), .val (.int p5), .val (.int (3 : Int32)), .val (.ref b127), .val (.ref b128), .val (.int (1 : Int32)), .unset, .unset] [(.int pv147)])) _
      refine XS.istore X146.here hx rfl (hb hby at_81) rfl (l' := #[.val (.int p0), .val (.int p1), .val (.int p2), .val (.int p3), .val (.int p4), .val (.int p5), .val (.int (3 : Int32)), .val (.ref b127), .val (.ref b128), .val (.int (1 : Int32)), .val (.int pv147), .unset]) rfl ?_
      show Steps p.tables e below (T146.setTop (mkF m 83 #[.val (.int p0), .val (.int p1), .val (.int p2), .val (.int p3), .val (.int p4), .val (.int p5), .val (.int (3 : Int32)), .val (.ref b127), .val (.ref b128), .val (.int (1 : Int32)), .val (.int pv147), .unset] [])) _
      exact kt
    rcases own_p3 hpv147 with q | q | q
    ·
      subst q
      have c150 := (V143.other W146 ne_b127_b128)
      obtain ⟨clo151, Aro151, -, So151, No151, Ho151, -⟩ := id c150
      have hino151 : ¬ ((0 : Int32) < 0 ∨ clo151.slots.size ≤ ((0 : Int32)).toNatClampNeg) := inb_of So151 ⟨by decide, by decide⟩
      have hato151 : clo151.slots[((0 : Int32)).toNatClampNeg]? = some (.int p2) := Ho151.at hino151 rfl
      obtain ⟨v153, hv153⟩ : ∃ z : Int32, z = if p2 = p5 then (1 : Int32) else (0 : Int32) := ⟨_, rfl⟩
      have mg154 : ∀ t, Steps p.tables e below (T146.setTop (mkF m 98 #[.val (.int p0), .val (.int p1), .val (.int p2), .val (.int p3), .val (.int p4), .val (.int p5), .val (.int (3 : Int32)), .val (.ref b127), .val (.ref b128), .val (.int (1 : Int32)), .val (.int (0 : Int32)), .unset] [(.int v153)])) t → Steps p.tables e below (T146.setTop (mkF m 90 #[.val (.int p0), .val (.int p1), .val (.int p2), .val (.int p3), .val (.int p4), .val (.int p5), .val (.int (3 : Int32)), .val (.ref b127), .val (.ref b128), .val (.int (1 : Int32)), .val (.int (0 : Int32)), .unset] [(.int p5), (.int p2)])) t := by
        intro t kt
        by_cases hm152 : p2 = p5
        ·
          have ev153 : v153 = (1 : Int32) := by rw [hv153, if_pos hm152]
          rw [ev153] at kt
          refine (fun t (k : Steps p.tables e below (T146.setTop (mkF m 90 #[.val (.int p0), .val (.int p1), .val (.int p2), .val (.int p3), .val (.int p4), .val (.int p5), .val (.int (3 : Int32)), .val (.ref b127), .val (.ref b128), .val (.int (1 : Int32)), .val (.int (0 : Int32)), .unset] [(.int p5), (.int p2)])) t) => k) _ ?_
          refine XS.icmpNo X146.here hx rfl (hb hby at_90) rfl (teq hm152).2 ?_
          show Steps p.tables e below (T146.setTop (mkF m 93 #[.val (.int p0), .val (.int p1), .val (.int p2), .val (.int p3), .val (.int p4), .val (.int p5), .val (.int (3 : Int32)), .val (.ref b127), .val (.ref b128), .val (.int (1 : Int32)), .val (.int (0 : Int32)), .unset] [])) _
          refine XS.iconst X146.here hx rfl (hb hby at_93) ?_
          show Steps p.tables e below (T146.setTop (mkF m 94 #[.val (.int p0), .val (.int p1), .val (.int p2), .val (.int p3), .val (.int p4), .val (.int p5), .val (.int (3 : Int32)), .val (.ref b127), .val (.ref b128), .val (.int (1 : Int32)), .val (.int (0 : Int32)), .unset] [(.int (1 : Int32))])) _
          refine XS.goto X146.here hx rfl (pc0 := 94) (pc' := 98) rfl (hb hby at_94) (by decide) (by decide) ?_
          show Steps p.tables e below (T146.setTop (mkF m 98 #[.val (.int p0), .val (.int p1), .val (.int p2), .val (.int p3), .val (.int p4), .val (.int p5), .val (.int (3 : Int32)), .val (.ref b127), .val (.ref b128), .val (.int (1 : Int32)), .val (.int (0 : Int32)), .unset] [(.int (1 : Int32))])) _
          exact kt
        ·
          have ev153 : v153 = (0 : Int32) := by rw [hv153, if_neg hm152]
          rw [ev153] at kt
          refine (fun t (k : Steps p.tables e below (T146.setTop (mkF m 90 #[.val (.int p0), .val (.int p1), .val (.int p2), .val (.int p3), .val (.int p4), .val (.int p5), .val (.int (3 : Int32)), .val (.ref b127), .val (.ref b128), .val (.int (1 : Int32)), .val (.int (0 : Int32)), .unset] [(.int p5), (.int p2)])) t) => k) _ ?_
          refine XS.icmpYes X146.here hx rfl (pc0 := 90) (pc' := 97) rfl (hb hby at_90) rfl (feq hm152).2 (by decide) (by decide) ?_
          show Steps p.tables e below (T146.setTop (mkF m 97 #[.val (.int p0), .val (.int p1), .val (.int p2), .val (.int p3), .val (.int p4), .val (.int p5), .val (.int (3 : Int32)), .val (.ref b127), .val (.ref b128), .val (.int (1 : Int32)), .val (.int (0 : Int32)), .unset] [])) _
          refine XS.iconst X146.here hx rfl (hb hby at_97) ?_
          show Steps p.tables e below (T146.setTop (mkF m 98 #[.val (.int p0), .val (.int p1), .val (.int p2), .val (.int p3), .val (.int p4), .val (.int p5), .val (.int (3 : Int32)), .val (.ref b127), .val (.ref b128), .val (.int (1 : Int32)), .val (.int (0 : Int32)), .unset] [(.int (0 : Int32))])) _
          exact kt
      obtain ⟨clo155, Aro155, qo155, So155, No155, Ho155, Go155⟩ := id V146
      have hino155 : ¬ ((0 : Int32) < 0 ∨ clo155.slots.size ≤ ((0 : Int32)).toNatClampNeg) := inb_of So155 ⟨by decide, by decide⟩
      obtain ⟨T156, h156, X156, e156, W156, st156⟩ := stI X146 hx hZ e146 Aro155 (j := (0 : Int32)) hino155 (g := (mkF m 106 #[.val (.int p0), .val (.int p1), .val (.int p2), .val (.int p3), .val (.int p4), .val (.int p5), .val (.int (3 : Int32)), .val (.ref b127), .val (.ref b128), .val (.int v153), .val (.int (0 : Int32)), .unset] [(.int p5), (.int (0 : Int32)), (.ref b128)])) rfl rfl (hb hby at_106)
      have V156 : Arv Z h156 b128 k128 .int (3 : Int32) [(.int p5), (.int p3), (.int p4)] (.int (0 : Int32)) := Arv.set Aro155 qo155 So155 No155 Ho155 Go155 rfl W156 0 rfl (Nat.le_of_ble_eq_true rfl)
      have K156 := K146.wr W156 (Or.inr sz_b128)
      have N156 := Fr.snoc X156 N146 g_b128
      have c157 := (c150.other W156 ne_b127_b128)
      obtain ⟨T158, h158, X158, e158, E158, A158, D158, -, st158⟩ := newO X156 hx hZ hown (hw _ (List.mem_of_getElem? (i := 1) rfl)) (hw _ (List.mem_of_getElem? (i := 2) rfl)) (hw _ (List.mem_of_getElem? (i := 3) rfl)) e156 (g := (mkF m 107 #[.val (.int p0), .val (.int p1), .val (.int p2), .val (.int p3), .val (.int p4), .val (.int p5), .val (.int (3 : Int32)), .val (.ref b127), .val (.ref b128), .val (.int v153), .val (.int (0 : Int32)), .unset] [])) rfl (hb hby at_107) (by decide) (by decide)
      obtain ⟨b158, g158⟩ : ∃ z, z = h156.size := ⟨_, rfl⟩
      rw [← g158] at A158 D158 st158
      have g_b158 : n0 ≤ b158 := Nat.le_trans (Nat.le_trans Z0 K156.1) (Nat.le_of_eq g158.symm)
      have sz_b158 : h0.size ≤ b158 := Nat.le_trans K156.1 (Nat.le_of_eq g158.symm)
      have ne_b127_b158 : b127 ≠ b158 := Nat.ne_of_lt (Nat.lt_of_lt_of_le c157.lt (Nat.le_of_eq g158.symm))
      have ne_b128_b158 : b128 ≠ b158 := Nat.ne_of_lt (Nat.lt_of_lt_of_le V156.lt (Nat.le_of_eq g158.symm))
      have K158 := K156.ext E158
      have F_values_b158 : Fld Z h158 b158 "com/example/hedge/hedge/analysis/IntArrayKey" "values" "[I" .null := D158 (Or.inr (hw _ (List.mem_of_getElem? (i := 16) rfl))) (ty := (.array .int)) (by decide)
      obtain ⟨_, _, ⟨T159, L159, k159, n159⟩, -, X159, ⟨Lc159, hQ159, l159, y159, z159⟩, st159⟩ := X158.specialBack hx (y := (⟨"com/example/hedge/hedge/analysis/IntArrayKey", "<init>", "([I)V"⟩ : MethodName)) rfl hown (mvT hZ (hw _ (List.mem_of_getElem? (i := 4) rfl))) (mvT hZ (hw _ (List.mem_of_getElem? (i := 5) rfl))) (mvT hZ (hw _ (List.mem_of_getElem? (i := 6) rfl))) (by decide) (backOf (W := 1) (rm1 l Z a0 hw [] b158 b127 h158 n0 (Nat.le_trans Z0 K158.1) A158 F_values_b158 g_b158) hZ (hw _ (List.mem_of_getElem? (i := 6) rfl)) (hw _ (List.mem_of_getElem? (i := 3) rfl)) (by decide) (by decide)) (g := (mkF m 113 #[.val (.int p0), .val (.int p1), .val (.int p2), .val (.int p3), .val (.int p4), .val (.int p5), .val (.int (3 : Int32)), .val (.ref b127), .val (.ref b128), .val (.int v153), .val (.int (0 : Int32)), .unset] [(.ref b127), (.ref b158), (.ref b158)])) rfl (by rw [hml]; rfl) (Steps.refl _) (a := b158) (argsL := [(.ref b127)]) (rest := [(.ref b158)]) (lenOf pd___I_V rfl) rfl (by show 2 * 0 + _ ≤ _; exact Nat.le_of_eq rfl) (hb hby at_113) (fun _ _ => ⟨rfl, e158, (by decide : 3 + 0 ≤ _), (by decide : 7 + 0 ≤ _)⟩)
      dsimp only [Pt.U, Pt.locs, Pt.cells, Pt.slots] at X159 l159 y159 z159 st159 hQ159
      subst l159 y159 z159
      obtain ⟨rfl, N159q, kq159, fq159⟩ := hQ159
      have N159 := Fr.app N156 N159q
      have K159 := K158.trans kq159 (allS (Or.inr sz_b158) all0)
      have c161 := (A158.keep kq159)
      have c162 := ((c157.ext E158).keep kq159 (ninS ne_b127_b158 nin0))
      obtain ⟨cq160, kq160, q160a, q160b, q160c⟩ := isOf hZ rfl c161
      obtain ⟨_, _, ⟨T160, L160, k160, n160⟩, -, X160, ⟨Lc160, hQ160, l160, y160, z160⟩, st160⟩ := X159.virtualBack hx (y := (⟨"com/example/hedge/hedge/analysis/IntArrayKey", "hashCode", "()I"⟩ : MethodName)) (z := (⟨"com/example/hedge/hedge/analysis/IntArrayKey", "hashCode", "()I"⟩ : MethodName)) hown (mvT hZ (hw _ (List.mem_of_getElem? (i := 17) rfl))) (mvT hZ (hw _ (List.mem_of_getElem? (i := 18) rfl))) (notFace_of_selects (args := #[]) (mvT hZ (hw _ (List.mem_of_getElem? (i := 20) rfl)))) (mvT hZ (hw _ (List.mem_of_getElem? (i := 20) rfl))) (mvT hZ (hw _ (List.mem_of_getElem? (i := 19) rfl))) (by decide) (backOf (W := 0) (hc3 l Z a0 hw [] b158 b127 k127 p2 p3 p4 T159.heap n0 (Nat.le_trans Z0 K159.1) fq159 c162) hZ (hw _ (List.mem_of_getElem? (i := 21) rfl)) (hw _ (List.mem_of_getElem? (i := 3) rfl)) (by decide) (by decide)) q160a q160c (g := (mkF m 116 #[.val (.int p0), .val (.int p1), .val (.int p2), .val (.int p3), .val (.int p4), .val (.int p5), .val (.int (3 : Int32)), .val (.ref b127), .val (.ref b128), .val (.int v153), .val (.int (0 : Int32)), .unset] [(.ref b158)])) rfl (by rw [hml]; rfl) (Steps.refl _) (argsL := []) (rest := []) (lenOf pd___I rfl) rfl (by show 2 * 0 + _ ≤ _; exact Nat.le_of_eq rfl) (hb hby at_116) (fun _ _ => ⟨rfl, rfl, (by decide : 3 + 0 ≤ _), (by decide : 7 + 0 ≤ _)⟩)
      dsimp only [Pt.U, Pt.locs, Pt.cells, Pt.slots] at X160 l160 y160 z160 st160 hQ160
      subst l160 y160 z160
      obtain ⟨rfl, N160q, hq160⟩ := hQ160
      have N160 := Fr.app N159 N160q
      have E160 : Ext T159.heap T160.heap := by rw [hq160]; exact ⟨Nat.le_refl _, fun _ _ q => q⟩
      have K160 := K159.ext E160
      have c163 := (c162.ext E160)
      have c164 := (((V156.ext E158).keep kq159 (ninS ne_b128_b158 nin0)).ext E160)
      have c165 := (c161.ext E160)
      obtain ⟨T166, h166, X166, e166, E166, A166, D166, -, st166⟩ := newO X160 hx hZ hown (hw _ (List.mem_of_getElem? (i := 1) rfl)) (hw _ (List.mem_of_getElem? (i := 2) rfl)) (hw _ (List.mem_of_getElem? (i := 3) rfl)) rfl (g := (mkF m 121 #[.val (.int p0), .val (.int p1), .val (.int p2), .val (.int p3), .val (.int p4), .val (.int p5), .val (.int (3 : Int32)), .val (.ref b127), .val (.ref b128), .val (.int v153), .val (.int (own_h3 p2 p3 p4)), .unset] [])) rfl (hb hby at_121) (by decide) (by decide)
      obtain ⟨b166, g166⟩ : ∃ z, z = T160.heap.size := ⟨_, rfl⟩
      rw [← g166] at A166 D166 st166
      have g_b166 : n0 ≤ b166 := Nat.le_trans (Nat.le_trans Z0 K160.1) (Nat.le_of_eq g166.symm)
      have sz_b166 : h0.size ≤ b166 := Nat.le_trans K160.1 (Nat.le_of_eq g166.symm)
      have ne_b127_b166 : b127 ≠ b166 := Nat.ne_of_lt (Nat.lt_of_lt_of_le c163.lt (Nat.le_of_eq g166.symm))
      have ne_b128_b166 : b128 ≠ b166 := Nat.ne_of_lt (Nat.lt_of_lt_of_le c164.lt (Nat.le_of_eq g166.symm))
      have ne_b158_b166 : b158 ≠ b166 := Nat.ne_of_lt (Nat.lt_of_lt_of_le c165.lt (Nat.le_of_eq g166.symm))
      have K166 := K160.ext E166
      have F_values_b166 : Fld Z h166 b166 "com/example/hedge/hedge/analysis/IntArrayKey" "values" "[I" .null := D166 (Or.inr (hw _ (List.mem_of_getElem? (i := 16) rfl))) (ty := (.array .int)) (by decide)
      obtain ⟨_, _, ⟨T167, L167, k167, n167⟩, -, X167, ⟨Lc167, hQ167, l167, y167, z167⟩, st167⟩ := X166.specialBack hx (y := (⟨"com/example/hedge/hedge/analysis/IntArrayKey", "<init>", "([I)V"⟩ : MethodName)) rfl hown (mvT hZ (hw _ (List.mem_of_getElem? (i := 4) rfl))) (mvT hZ (hw _ (List.mem_of_getElem? (i := 5) rfl))) (mvT hZ (hw _ (List.mem_of_getElem? (i := 6) rfl))) (by decide) (backOf (W := 1) (rm1 l Z a0 hw [] b166 b128 h166 n0 (Nat.le_trans Z0 K166.1) A166 F_values_b166 g_b166) hZ (hw _ (List.mem_of_getElem? (i := 6) rfl)) (hw _ (List.mem_of_getElem? (i := 3) rfl)) (by decide) (by decide)) (g := (mkF m 127 #[.val (.int p0), .val (.int p1), .val (.int p2), .val (.int p3), .val (.int p4), .val (.int p5), .val (.int (3 : Int32)), .val (.ref b127), .val (.ref b128), .val (.int v153), .val (.int (own_h3 p2 p3 p4)), .unset] [(.ref b128), (.ref b166), (.ref b166)])) rfl (by rw [hml]; rfl) (Steps.refl _) (a := b166) (argsL := [(.ref b128)]) (rest := [(.ref b166)]) (lenOf pd___I_V rfl) rfl (by show 2 * 0 + _ ≤ _; exact Nat.le_of_eq rfl) (hb hby at_127) (fun _ _ => ⟨rfl, e166, (by decide : 4 + 0 ≤ _), (by decide : 8 + 0 ≤ _)⟩)
      dsimp only [Pt.U, Pt.locs, Pt.cells, Pt.slots] at X167 l167 y167 z167 st167 hQ167
      subst l167 y167 z167
      obtain ⟨rfl, N167q, kq167, fq167⟩ := hQ167
      have N167 := Fr.app N160 N167q
      have K167 := K166.trans kq167 (allS (Or.inr sz_b166) all0)
      have c169 := (A166.keep kq167)
      have c170 := ((c164.ext E166).keep kq167 (ninS ne_b128_b166 nin0))
      obtain ⟨cq168, kq168, q168a, q168b, q168c⟩ := isOf hZ rfl c169
      obtain ⟨_, _, ⟨T168, L168, k168, n168⟩, -, X168, ⟨Lc168, hQ168, l168, y168, z168⟩, st168⟩ := X167.virtualBack hx (y := (⟨"com/example/hedge/hedge/analysis/IntArrayKey", "hashCode", "()I"⟩ : MethodName)) (z := (⟨"com/example/hedge/hedge/analysis/IntArrayKey", "hashCode", "()I"⟩ : MethodName)) hown (mvT hZ (hw _ (List.mem_of_getElem? (i := 17) rfl))) (mvT hZ (hw _ (List.mem_of_getElem? (i := 18) rfl))) (notFace_of_selects (args := #[]) (mvT hZ (hw _ (List.mem_of_getElem? (i := 20) rfl)))) (mvT hZ (hw _ (List.mem_of_getElem? (i := 20) rfl))) (mvT hZ (hw _ (List.mem_of_getElem? (i := 19) rfl))) (by decide) (backOf (W := 0) (hc3 l Z a0 hw [] b166 b128 k128 p5 p3 p4 T167.heap n0 (Nat.le_trans Z0 K167.1) fq167 c170) hZ (hw _ (List.mem_of_getElem? (i := 21) rfl)) (hw _ (List.mem_of_getElem? (i := 3) rfl)) (by decide) (by decide)) q168a q168c (g := (mkF m 130 #[.val (.int p0), .val (.int p1), .val (.int p2), .val (.int p3), .val (.int p4), .val (.int p5), .val (.int (3 : Int32)), .val (.ref b127), .val (.ref b128), .val (.int v153), .val (.int (own_h3 p2 p3 p4)), .unset] [(.ref b166)])) rfl (by rw [hml]; rfl) (Steps.refl _) (argsL := []) (rest := []) (lenOf pd___I rfl) rfl (by show 2 * 0 + _ ≤ _; exact Nat.le_of_eq rfl) (hb hby at_130) (fun _ _ => ⟨rfl, rfl, (by decide : 4 + 0 ≤ _), (by decide : 8 + 0 ≤ _)⟩)
      dsimp only [Pt.U, Pt.locs, Pt.cells, Pt.slots] at X168 l168 y168 z168 st168 hQ168
      subst l168 y168 z168
      obtain ⟨rfl, N168q, hq168⟩ := hQ168
      have N168 := Fr.app N167 N168q
      have E168 : Ext T167.heap T168.heap := by rw [hq168]; exact ⟨Nat.le_refl _, fun _ _ q => q⟩
      have K168 := K167.ext E168
      obtain ⟨v172, hv172⟩ : ∃ z : Int32, z = if (own_h3 p2 p3 p4) = (own_h3 p5 p3 p4) then (1 : Int32) else (0 : Int32) := ⟨_, rfl⟩
      have mg173 : ∀ t, Steps p.tables e below (T168.setTop (mkF m 147 #[.val (.int p0), .val (.int p1), .val (.int p2), .val (.int p3), .val (.int p4), .val (.int p5), .val (.int (3 : Int32)), .val (.ref b127), .val (.ref b128), .val (.int v153), .val (.int (own_h3 p2 p3 p4)), .val (.int (own_h3 p5 p3 p4))] [(.int v172)])) t → Steps p.tables e below (T168.setTop (mkF m 139 #[.val (.int p0), .val (.int p1), .val (.int p2), .val (.int p3), .val (.int p4), .val (.int p5), .val (.int (3 : Int32)), .val (.ref b127), .val (.ref b128), .val (.int v153), .val (.int (own_h3 p2 p3 p4)), .val (.int (own_h3 p5 p3 p4))] [(.int (own_h3 p5 p3 p4)), (.int (own_h3 p2 p3 p4))])) t := by
        intro t kt
        by_cases hm171 : (own_h3 p2 p3 p4) = (own_h3 p5 p3 p4)
        ·
          have ev172 : v172 = (1 : Int32) := by rw [hv172, if_pos hm171]
          rw [ev172] at kt
          refine (fun t (k : Steps p.tables e below (T168.setTop (mkF m 139 #[.val (.int p0), .val (.int p1), .val (.int p2), .val (.int p3), .val (.int p4), .val (.int p5), .val (.int (3 : Int32)), .val (.ref b127), .val (.ref b128), .val (.int v153), .val (.int (own_h3 p2 p3 p4)), .val (.int (own_h3 p5 p3 p4))] [(.int (own_h3 p5 p3 p4)), (.int (own_h3 p2 p3 p4))])) t) => k) _ ?_
          refine XS.icmpNo X168.here hx rfl (hb hby at_139) rfl (teq hm171).2 ?_
          show Steps p.tables e below (T168.setTop (mkF m 142 #[.val (.int p0), .val (.int p1), .val (.int p2), .val (.int p3), .val (.int p4), .val (.int p5), .val (.int (3 : Int32)), .val (.ref b127), .val (.ref b128), .val (.int v153), .val (.int (own_h3 p2 p3 p4)), .val (.int (own_h3 p5 p3 p4))] [])) _
          refine XS.iconst X168.here hx rfl (hb hby at_142) ?_
          show Steps p.tables e below (T168.setTop (mkF m 143 #[.val (.int p0), .val (.int p1), .val (.int p2), .val (.int p3), .val (.int p4), .val (.int p5), .val (.int (3 : Int32)), .val (.ref b127), .val (.ref b128), .val (.int v153), .val (.int (own_h3 p2 p3 p4)), .val (.int (own_h3 p5 p3 p4))] [(.int (1 : Int32))])) _
          refine XS.goto X168.here hx rfl (pc0 := 143) (pc' := 147) rfl (hb hby at_143) (by decide) (by decide) ?_
          show Steps p.tables e below (T168.setTop (mkF m 147 #[.val (.int p0), .val (.int p1), .val (.int p2), .val (.int p3), .val (.int p4), .val (.int p5), .val (.int (3 : Int32)), .val (.ref b127), .val (.ref b128), .val (.int v153), .val (.int (own_h3 p2 p3 p4)), .val (.int (own_h3 p5 p3 p4))] [(.int (1 : Int32))])) _
          exact kt
        ·
          have ev172 : v172 = (0 : Int32) := by rw [hv172, if_neg hm171]
          rw [ev172] at kt
          refine (fun t (k : Steps p.tables e below (T168.setTop (mkF m 139 #[.val (.int p0), .val (.int p1), .val (.int p2), .val (.int p3), .val (.int p4), .val (.int p5), .val (.int (3 : Int32)), .val (.ref b127), .val (.ref b128), .val (.int v153), .val (.int (own_h3 p2 p3 p4)), .val (.int (own_h3 p5 p3 p4))] [(.int (own_h3 p5 p3 p4)), (.int (own_h3 p2 p3 p4))])) t) => k) _ ?_
          refine XS.icmpYes X168.here hx rfl (pc0 := 139) (pc' := 146) rfl (hb hby at_139) rfl (feq hm171).2 (by decide) (by decide) ?_
          show Steps p.tables e below (T168.setTop (mkF m 146 #[.val (.int p0), .val (.int p1), .val (.int p2), .val (.int p3), .val (.int p4), .val (.int p5), .val (.int (3 : Int32)), .val (.ref b127), .val (.ref b128), .val (.int v153), .val (.int (own_h3 p2 p3 p4)), .val (.int (own_h3 p5 p3 p4))] [])) _
          refine XS.iconst X168.here hx rfl (hb hby at_146) ?_
          show Steps p.tables e below (T168.setTop (mkF m 147 #[.val (.int p0), .val (.int p1), .val (.int p2), .val (.int p3), .val (.int p4), .val (.int p5), .val (.int (3 : Int32)), .val (.ref b127), .val (.ref b128), .val (.int v153), .val (.int (own_h3 p2 p3 p4)), .val (.int (own_h3 p5 p3 p4))] [(.int (0 : Int32))])) _
          exact kt
      have hk174 : v172 = v153 := by rw [hv172, hv153]; exact own_law_3_0 _ _ _ _
      obtain ⟨fs, hr, hrun, hended, hW, hsame⟩ := X168.leave (v := some (.int (1 : Int32))) (fun h => by rw [Bd.returns] at h; cases h)
      refine ⟨_, _, pre149 _ ?_, hrun, hended, _, _, rfl, ?_, ⟨_, rfl⟩, hW, hsame.mono (by decide) (by decide)⟩
      ·
        show Steps p.tables e below (T146.setTop (mkF m 83 #[.val (.int p0), .val (.int p1), .val (.int p2), .val (.int p3), .val (.int p4), .val (.int p5), .val (.int (3 : Int32)), .val (.ref b127), .val (.ref b128), .val (.int (1 : Int32)), .val (.int (0 : Int32)), .unset] [])) _
        refine XS.aload X146.here hx rfl (hb hby at_83) rfl rfl ?_
        show Steps p.tables e below (T146.setTop (mkF m 85 #[.val (.int p0), .val (.int p1), .val (.int p2), .val (.int p3), .val (.int p4), .val (.int p5), .val (.int (3 : Int32)), .val (.ref b127), .val (.ref b128), .val (.int (1 : Int32)), .val (.int (0 : Int32)), .unset] [(.ref b127)])) _
        refine XS.iload X146.here hx rfl (hb hby at_85) rfl ?_
        show Steps p.tables e below (T146.setTop (mkF m 87 #[.val (.int p0), .val (.int p1), .val (.int p2), .val (.int p3), .val (.int p4), .val (.int p5), .val (.int (3 : Int32)), .val (.ref b127), .val (.ref b128), .val (.int (1 : Int32)), .val (.int (0 : Int32)), .unset] [(.int (0 : Int32)), (.ref b127)])) _
        refine X146.iaload hx (j := (0 : Int32)) (v := (.int p2)) (by rw [e146]; exact Aro151.1) (State.isArrayOf_alike hZ.alike Aro151.2.1) Aro151.2.2 hino151 hato151 (g := (mkF m 87 #[.val (.int p0), .val (.int p1), .val (.int p2), .val (.int p3), .val (.int p4), .val (.int p5), .val (.int (3 : Int32)), .val (.ref b127), .val (.ref b128), .val (.int (1 : Int32)), .val (.int (0 : Int32)), .unset] [(.int (0 : Int32)), (.ref b127)])) rfl rfl (hb hby at_87) _ ?_
        show Steps p.tables e below (T146.setTop (mkF m 88 #[.val (.int p0), .val (.int p1), .val (.int p2), .val (.int p3), .val (.int p4), .val (.int p5), .val (.int (3 : Int32)), .val (.ref b127), .val (.ref b128), .val (.int (1 : Int32)), .val (.int (0 : Int32)), .unset] [(.int p2)])) _
        refine XS.iload X146.here hx rfl (hb hby at_88) rfl ?_
        show Steps p.tables e below (T146.setTop (mkF m 90 #[.val (.int p0), .val (.int p1), .val (.int p2), .val (.int p3), .val (.int p4), .val (.int p5), .val (.int (3 : Int32)), .val (.ref b127), .val (.ref b128), .val (.int (1 : Int32)), .val (.int (0 : Int32)), .unset] [(.int p5), (.int p2)])) _
        refine mg154 _ ?_
        show Steps p.tables e below (T146.setTop (mkF m 98 #[.val (.int p0), .val (.int p1), .val (.int p2), .val (.int p3), .val (.int p4), .val (.int p5), .val (.int (3 : Int32)), .val (.ref b127), .val (.ref b128), .val (.int (1 : Int32)), .val (.int (0 : Int32)), .unset] [(.int v153)])) _
        refine XS.istore X146.here hx rfl (hb hby at_98) rfl (l' := #[.val (.int p0), .val (.int p1), .val (.int p2), .val (.int p3), .val (.int p4), .val (.int p5), .val (.int (3 : Int32)), .val (.ref b127), .val (.ref b128), .val (.int v153), .val (.int (0 : Int32)), .unset]) rfl ?_
        show Steps p.tables e below (T146.setTop (mkF m 100 #[.val (.int p0), .val (.int p1), .val (.int p2), .val (.int p3), .val (.int p4), .val (.int p5), .val (.int (3 : Int32)), .val (.ref b127), .val (.ref b128), .val (.int v153), .val (.int (0 : Int32)), .unset] [])) _
        refine XS.aload X146.here hx rfl (hb hby at_100) rfl rfl ?_
        show Steps p.tables e below (T146.setTop (mkF m 102 #[.val (.int p0), .val (.int p1), .val (.int p2), .val (.int p3), .val (.int p4), .val (.int p5), .val (.int (3 : Int32)), .val (.ref b127), .val (.ref b128), .val (.int v153), .val (.int (0 : Int32)), .unset] [(.ref b128)])) _
        refine XS.iload X146.here hx rfl (hb hby at_102) rfl ?_
        show Steps p.tables e below (T146.setTop (mkF m 104 #[.val (.int p0), .val (.int p1), .val (.int p2), .val (.int p3), .val (.int p4), .val (.int p5), .val (.int (3 : Int32)), .val (.ref b127), .val (.ref b128), .val (.int v153), .val (.int (0 : Int32)), .unset] [(.int (0 : Int32)), (.ref b128)])) _
        refine XS.iload X146.here hx rfl (hb hby at_104) rfl ?_
        show Steps p.tables e below (T146.setTop (mkF m 106 #[.val (.int p0), .val (.int p1), .val (.int p2), .val (.int p3), .val (.int p4), .val (.int p5), .val (.int (3 : Int32)), .val (.ref b127), .val (.ref b128), .val (.int v153), .val (.int (0 : Int32)), .unset] [(.int p5), (.int (0 : Int32)), (.ref b128)])) _
        refine st156 _ ?_
        show Steps p.tables e below (T156.setTop (mkF m 107 #[.val (.int p0), .val (.int p1), .val (.int p2), .val (.int p3), .val (.int p4), .val (.int p5), .val (.int (3 : Int32)), .val (.ref b127), .val (.ref b128), .val (.int v153), .val (.int (0 : Int32)), .unset] [])) _
        refine st158 _ ?_
        show Steps p.tables e below (T158.setTop (mkF m 110 #[.val (.int p0), .val (.int p1), .val (.int p2), .val (.int p3), .val (.int p4), .val (.int p5), .val (.int (3 : Int32)), .val (.ref b127), .val (.ref b128), .val (.int v153), .val (.int (0 : Int32)), .unset] [(.ref b158)])) _
        refine XS.dup X158.here hx rfl (hb hby at_110) rfl rfl ?_
        show Steps p.tables e below (T158.setTop (mkF m 111 #[.val (.int p0), .val (.int p1), .val (.int p2), .val (.int p3), .val (.int p4), .val (.int p5), .val (.int (3 : Int32)), .val (.ref b127), .val (.ref b128), .val (.int v153), .val (.int (0 : Int32)), .unset] [(.ref b158), (.ref b158)])) _
        refine XS.aload X158.here hx rfl (hb hby at_111) rfl rfl ?_
        show Steps p.tables e below (T158.setTop (mkF m 113 #[.val (.int p0), .val (.int p1), .val (.int p2), .val (.int p3), .val (.int p4), .val (.int p5), .val (.int (3 : Int32)), .val (.ref b127), .val (.ref b128), .val (.int v153), .val (.int (0 : Int32)), .unset] [(.ref b127), (.ref b158), (.ref b158)])) _
        refine st159.trans ?_
        show Steps p.tables e below (T159.setTop (mkF m 116 #[.val (.int p0), .val (.int p1), .val (.int p2), .val (.int p3), .val (.int p4), .val (.int p5), .val (.int (3 : Int32)), .val (.ref b127), .val (.ref b128), .val (.int v153), .val (.int (0 : Int32)), .unset] [(.ref b158)])) _
        refine st160.trans ?_
        show Steps p.tables e below (T160.setTop (mkF m 119 #[.val (.int p0), .val (.int p1), .val (.int p2), .val (.int p3), .val (.int p4), .val (.int p5), .val (.int (3 : Int32)), .val (.ref b127), .val (.ref b128), .val (.int v153), .val (.int (0 : Int32)), .unset] [(.int (own_h3 p2 p3 p4))])) _
        refine XS.istore X160.here hx rfl (hb hby at_119) rfl (l' := #[.val (.int p0), .val (.int p1), .val (.int p2), .val (.int p3), .val (.int p4), .val (.int p5), .val (.int (3 : Int32)), .val (.ref b127), .val (.ref b128), .val (.int v153), .val (.int (own_h3 p2 p3 p4)), .unset]) rfl ?_
        show Steps p.tables e below (T160.setTop (mkF m 121 #[.val (.int p0), .val (.int p1), .val (.int p2), .val (.int p3), .val (.int p4), .val (.int p5), .val (.int (3 : Int32)), .val (.ref b127), .val (.ref b128), .val (.int v153), .val (.int (own_h3 p2 p3 p4)), .unset] [])) _
        refine st166 _ ?_
        show Steps p.tables e below (T166.setTop (mkF m 124 #[.val (.int p0), .val (.int p1), .val (.int p2), .val (.int p3), .val (.int p4), .val (.int p5), .val (.int (3 : Int32)), .val (.ref b127), .val (.ref b128), .val (.int v153), .val (.int (own_h3 p2 p3 p4)), .unset] [(.ref b166)])) _
        refine XS.dup X166.here hx rfl (hb hby at_124) rfl rfl ?_
        show Steps p.tables e below (T166.setTop (mkF m 125 #[.val (.int p0), .val (.int p1), .val (.int p2), .val (.int p3), .val (.int p4), .val (.int p5), .val (.int (3 : Int32)), .val (.ref b127), .val (.ref b128), .val (.int v153), .val (.int (own_h3 p2 p3 p4)), .unset] [(.ref b166), (.ref b166)])) _
        refine XS.aload X166.here hx rfl (hb hby at_125) rfl rfl ?_
        show Steps p.tables e below (T166.setTop (mkF m 127 #[.val (.int p0), .val (.int p1), .val (.int p2), .val (.int p3), .val (.int p4), .val (.int p5), .val (.int (3 : Int32)), .val (.ref b127), .val (.ref b128), .val (.int v153), .val (.int (own_h3 p2 p3 p4)), .unset] [(.ref b128), (.ref b166), (.ref b166)])) _
        refine st167.trans ?_
        show Steps p.tables e below (T167.setTop (mkF m 130 #[.val (.int p0), .val (.int p1), .val (.int p2), .val (.int p3), .val (.int p4), .val (.int p5), .val (.int (3 : Int32)), .val (.ref b127), .val (.ref b128), .val (.int v153), .val (.int (own_h3 p2 p3 p4)), .unset] [(.ref b166)])) _
        refine st168.trans ?_
        show Steps p.tables e below (T168.setTop (mkF m 133 #[.val (.int p0), .val (.int p1), .val (.int p2), .val (.int p3), .val (.int p4), .val (.int p5), .val (.int (3 : Int32)), .val (.ref b127), .val (.ref b128), .val (.int v153), .val (.int (own_h3 p2 p3 p4)), .unset] [(.int (own_h3 p5 p3 p4))])) _
        refine XS.istore X168.here hx rfl (hb hby at_133) rfl (l' := #[.val (.int p0), .val (.int p1), .val (.int p2), .val (.int p3), .val (.int p4), .val (.int p5), .val (.int (3 : Int32)), .val (.ref b127), .val (.ref b128), .val (.int v153), .val (.int (own_h3 p2 p3 p4)), .val (.int (own_h3 p5 p3 p4))]) rfl ?_
        show Steps p.tables e below (T168.setTop (mkF m 135 #[.val (.int p0), .val (.int p1), .val (.int p2), .val (.int p3), .val (.int p4), .val (.int p5), .val (.int (3 : Int32)), .val (.ref b127), .val (.ref b128), .val (.int v153), .val (.int (own_h3 p2 p3 p4)), .val (.int (own_h3 p5 p3 p4))] [])) _
        refine XS.iload X168.here hx rfl (hb hby at_135) rfl ?_
        show Steps p.tables e below (T168.setTop (mkF m 137 #[.val (.int p0), .val (.int p1), .val (.int p2), .val (.int p3), .val (.int p4), .val (.int p5), .val (.int (3 : Int32)), .val (.ref b127), .val (.ref b128), .val (.int v153), .val (.int (own_h3 p2 p3 p4)), .val (.int (own_h3 p5 p3 p4))] [(.int (own_h3 p2 p3 p4))])) _
        refine XS.iload X168.here hx rfl (hb hby at_137) rfl ?_
        show Steps p.tables e below (T168.setTop (mkF m 139 #[.val (.int p0), .val (.int p1), .val (.int p2), .val (.int p3), .val (.int p4), .val (.int p5), .val (.int (3 : Int32)), .val (.ref b127), .val (.ref b128), .val (.int v153), .val (.int (own_h3 p2 p3 p4)), .val (.int (own_h3 p5 p3 p4))] [(.int (own_h3 p5 p3 p4)), (.int (own_h3 p2 p3 p4))])) _
        refine mg173 _ ?_
        show Steps p.tables e below (T168.setTop (mkF m 147 #[.val (.int p0), .val (.int p1), .val (.int p2), .val (.int p3), .val (.int p4), .val (.int p5), .val (.int (3 : Int32)), .val (.ref b127), .val (.ref b128), .val (.int v153), .val (.int (own_h3 p2 p3 p4)), .val (.int (own_h3 p5 p3 p4))] [(.int v172)])) _
        refine XS.iload X168.here hx rfl (hb hby at_147) rfl ?_
        show Steps p.tables e below (T168.setTop (mkF m 149 #[.val (.int p0), .val (.int p1), .val (.int p2), .val (.int p3), .val (.int p4), .val (.int p5), .val (.int (3 : Int32)), .val (.ref b127), .val (.ref b128), .val (.int v153), .val (.int (own_h3 p2 p3 p4)), .val (.int (own_h3 p5 p3 p4))] [(.int v153), (.int v172)])) _
        refine XS.icmpNo X168.here hx rfl (hb hby at_149) rfl (teq hk174).2 ?_
        show Steps p.tables e below (T168.setTop (mkF m 152 #[.val (.int p0), .val (.int p1), .val (.int p2), .val (.int p3), .val (.int p4), .val (.int p5), .val (.int (3 : Int32)), .val (.ref b127), .val (.ref b128), .val (.int v153), .val (.int (own_h3 p2 p3 p4)), .val (.int (own_h3 p5 p3 p4))] [])) _
        refine XS.iconst X168.here hx rfl (hb hby at_152) ?_
        show Steps p.tables e below (T168.setTop (mkF m 153 #[.val (.int p0), .val (.int p1), .val (.int p2), .val (.int p3), .val (.int p4), .val (.int p5), .val (.int (3 : Int32)), .val (.ref b127), .val (.ref b128), .val (.int v153), .val (.int (own_h3 p2 p3 p4)), .val (.int (own_h3 p5 p3 p4))] [(.int (1 : Int32))])) _
        refine XS.goto X168.here hx rfl (pc0 := 153) (pc' := 157) rfl (hb hby at_153) (by decide) (by decide) ?_
        show Steps p.tables e below (T168.setTop (mkF m 157 #[.val (.int p0), .val (.int p1), .val (.int p2), .val (.int p3), .val (.int p4), .val (.int p5), .val (.int (3 : Int32)), .val (.ref b127), .val (.ref b128), .val (.int v153), .val (.int (own_h3 p2 p3 p4)), .val (.int (own_h3 p5 p3 p4))] [(.int (1 : Int32))])) _
        exact retN X168 hx (t := .boolean) Bd.returns (by simp) (hb hby at_157) hr
      ·
        show Q0 Z p0 p1 p2 p3 p4 p5 h0 n0 _ T168.heap _
        exact ⟨rfl, N168⟩
    ·
      subst q
      have c175 := (V143.other W146 ne_b127_b128)
      obtain ⟨clo176, Aro176, -, So176, No176, Ho176, -⟩ := id c175
      have hino176 : ¬ ((1 : Int32) < 0 ∨ clo176.slots.size ≤ ((1 : Int32)).toNatClampNeg) := inb_of So176 ⟨by decide, by decide⟩
      have hato176 : clo176.slots[((1 : Int32)).toNatClampNeg]? = some (.int p3) := Ho176.at hino176 rfl
      obtain ⟨v178, hv178⟩ : ∃ z : Int32, z = if p3 = p5 then (1 : Int32) else (0 : Int32) := ⟨_, rfl⟩
      have mg179 : ∀ t, Steps p.tables e below (T146.setTop (mkF m 98 #[.val (.int p0), .val (.int p1), .val (.int p2), .val (.int p3), .val (.int p4), .val (.int p5), .val (.int (3 : Int32)), .val (.ref b127), .val (.ref b128), .val (.int (1 : Int32)), .val (.int (1 : Int32)), .unset] [(.int v178)])) t → Steps p.tables e below (T146.setTop (mkF m 90 #[.val (.int p0), .val (.int p1), .val (.int p2), .val (.int p3), .val (.int p4), .val (.int p5), .val (.int (3 : Int32)), .val (.ref b127), .val (.ref b128), .val (.int (1 : Int32)), .val (.int (1 : Int32)), .unset] [(.int p5), (.int p3)])) t := by
        intro t kt
        by_cases hm177 : p3 = p5
        ·
          have ev178 : v178 = (1 : Int32) := by rw [hv178, if_pos hm177]
          rw [ev178] at kt
          refine (fun t (k : Steps p.tables e below (T146.setTop (mkF m 90 #[.val (.int p0), .val (.int p1), .val (.int p2), .val (.int p3), .val (.int p4), .val (.int p5), .val (.int (3 : Int32)), .val (.ref b127), .val (.ref b128), .val (.int (1 : Int32)), .val (.int (1 : Int32)), .unset] [(.int p5), (.int p3)])) t) => k) _ ?_
          refine XS.icmpNo X146.here hx rfl (hb hby at_90) rfl (teq hm177).2 ?_
          show Steps p.tables e below (T146.setTop (mkF m 93 #[.val (.int p0), .val (.int p1), .val (.int p2), .val (.int p3), .val (.int p4), .val (.int p5), .val (.int (3 : Int32)), .val (.ref b127), .val (.ref b128), .val (.int (1 : Int32)), .val (.int (1 : Int32)), .unset] [])) _
          refine XS.iconst X146.here hx rfl (hb hby at_93) ?_
          show Steps p.tables e below (T146.setTop (mkF m 94 #[.val (.int p0), .val (.int p1), .val (.int p2), .val (.int p3), .val (.int p4), .val (.int p5), .val (.int (3 : Int32)), .val (.ref b127), .val (.ref b128), .val (.int (1 : Int32)), .val (.int (1 : Int32)), .unset] [(.int (1 : Int32))])) _
          refine XS.goto X146.here hx rfl (pc0 := 94) (pc' := 98) rfl (hb hby at_94) (by decide) (by decide) ?_
          show Steps p.tables e below (T146.setTop (mkF m 98 #[.val (.int p0), .val (.int p1), .val (.int p2), .val (.int p3), .val (.int p4), .val (.int p5), .val (.int (3 : Int32)), .val (.ref b127), .val (.ref b128), .val (.int (1 : Int32)), .val (.int (1 : Int32)), .unset] [(.int (1 : Int32))])) _
          exact kt
        ·
          have ev178 : v178 = (0 : Int32) := by rw [hv178, if_neg hm177]
          rw [ev178] at kt
          refine (fun t (k : Steps p.tables e below (T146.setTop (mkF m 90 #[.val (.int p0), .val (.int p1), .val (.int p2), .val (.int p3), .val (.int p4), .val (.int p5), .val (.int (3 : Int32)), .val (.ref b127), .val (.ref b128), .val (.int (1 : Int32)), .val (.int (1 : Int32)), .unset] [(.int p5), (.int p3)])) t) => k) _ ?_
          refine XS.icmpYes X146.here hx rfl (pc0 := 90) (pc' := 97) rfl (hb hby at_90) rfl (feq hm177).2 (by decide) (by decide) ?_
          show Steps p.tables e below (T146.setTop (mkF m 97 #[.val (.int p0), .val (.int p1), .val (.int p2), .val (.int p3), .val (.int p4), .val (.int p5), .val (.int (3 : Int32)), .val (.ref b127), .val (.ref b128), .val (.int (1 : Int32)), .val (.int (1 : Int32)), .unset] [])) _
          refine XS.iconst X146.here hx rfl (hb hby at_97) ?_
          show Steps p.tables e below (T146.setTop (mkF m 98 #[.val (.int p0), .val (.int p1), .val (.int p2), .val (.int p3), .val (.int p4), .val (.int p5), .val (.int (3 : Int32)), .val (.ref b127), .val (.ref b128), .val (.int (1 : Int32)), .val (.int (1 : Int32)), .unset] [(.int (0 : Int32))])) _
          exact kt
      obtain ⟨clo180, Aro180, qo180, So180, No180, Ho180, Go180⟩ := id V146
      have hino180 : ¬ ((1 : Int32) < 0 ∨ clo180.slots.size ≤ ((1 : Int32)).toNatClampNeg) := inb_of So180 ⟨by decide, by decide⟩
      obtain ⟨T181, h181, X181, e181, W181, st181⟩ := stI X146 hx hZ e146 Aro180 (j := (1 : Int32)) hino180 (g := (mkF m 106 #[.val (.int p0), .val (.int p1), .val (.int p2), .val (.int p3), .val (.int p4), .val (.int p5), .val (.int (3 : Int32)), .val (.ref b127), .val (.ref b128), .val (.int v178), .val (.int (1 : Int32)), .unset] [(.int p5), (.int (1 : Int32)), (.ref b128)])) rfl rfl (hb hby at_106)
      have V181 : Arv Z h181 b128 k128 .int (3 : Int32) [(.int p2), (.int p5), (.int p4)] (.int (0 : Int32)) := Arv.set Aro180 qo180 So180 No180 Ho180 Go180 rfl W181 1 rfl (Nat.le_of_ble_eq_true rfl)
      have K181 := K146.wr W181 (Or.inr sz_b128)
      have N181 := Fr.snoc X181 N146 g_b128
      have c182 := (c175.other W181 ne_b127_b128)
      obtain ⟨T183, h183, X183, e183, E183, A183, D183, -, st183⟩ := newO X181 hx hZ hown (hw _ (List.mem_of_getElem? (i := 1) rfl)) (hw _ (List.mem_of_getElem? (i := 2) rfl)) (hw _ (List.mem_of_getElem? (i := 3) rfl)) e181 (g := (mkF m 107 #[.val (.int p0), .val (.int p1), .val (.int p2), .val (.int p3), .val (.int p4), .val (.int p5), .val (.int (3 : Int32)), .val (.ref b127), .val (.ref b128), .val (.int v178), .val (.int (1 : Int32)), .unset] [])) rfl (hb hby at_107) (by decide) (by decide)
      obtain ⟨b183, g183⟩ : ∃ z, z = h181.size := ⟨_, rfl⟩
      rw [← g183] at A183 D183 st183
      have g_b183 : n0 ≤ b183 := Nat.le_trans (Nat.le_trans Z0 K181.1) (Nat.le_of_eq g183.symm)
      have sz_b183 : h0.size ≤ b183 := Nat.le_trans K181.1 (Nat.le_of_eq g183.symm)
      have ne_b127_b183 : b127 ≠ b183 := Nat.ne_of_lt (Nat.lt_of_lt_of_le c182.lt (Nat.le_of_eq g183.symm))
      have ne_b128_b183 : b128 ≠ b183 := Nat.ne_of_lt (Nat.lt_of_lt_of_le V181.lt (Nat.le_of_eq g183.symm))
      have K183 := K181.ext E183
      have F_values_b183 : Fld Z h183 b183 "com/example/hedge/hedge/analysis/IntArrayKey" "values" "[I" .null := D183 (Or.inr (hw _ (List.mem_of_getElem? (i := 16) rfl))) (ty := (.array .int)) (by decide)
      obtain ⟨_, _, ⟨T184, L184, k184, n184⟩, -, X184, ⟨Lc184, hQ184, l184, y184, z184⟩, st184⟩ := X183.specialBack hx (y := (⟨"com/example/hedge/hedge/analysis/IntArrayKey", "<init>", "([I)V"⟩ : MethodName)) rfl hown (mvT hZ (hw _ (List.mem_of_getElem? (i := 4) rfl))) (mvT hZ (hw _ (List.mem_of_getElem? (i := 5) rfl))) (mvT hZ (hw _ (List.mem_of_getElem? (i := 6) rfl))) (by decide) (backOf (W := 1) (rm1 l Z a0 hw [] b183 b127 h183 n0 (Nat.le_trans Z0 K183.1) A183 F_values_b183 g_b183) hZ (hw _ (List.mem_of_getElem? (i := 6) rfl)) (hw _ (List.mem_of_getElem? (i := 3) rfl)) (by decide) (by decide)) (g := (mkF m 113 #[.val (.int p0), .val (.int p1), .val (.int p2), .val (.int p3), .val (.int p4), .val (.int p5), .val (.int (3 : Int32)), .val (.ref b127), .val (.ref b128), .val (.int v178), .val (.int (1 : Int32)), .unset] [(.ref b127), (.ref b183), (.ref b183)])) rfl (by rw [hml]; rfl) (Steps.refl _) (a := b183) (argsL := [(.ref b127)]) (rest := [(.ref b183)]) (lenOf pd___I_V rfl) rfl (by show 2 * 0 + _ ≤ _; exact Nat.le_of_eq rfl) (hb hby at_113) (fun _ _ => ⟨rfl, e183, (by decide : 3 + 0 ≤ _), (by decide : 7 + 0 ≤ _)⟩)
      dsimp only [Pt.U, Pt.locs, Pt.cells, Pt.slots] at X184 l184 y184 z184 st184 hQ184
      subst l184 y184 z184
      obtain ⟨rfl, N184q, kq184, fq184⟩ := hQ184
      have N184 := Fr.app N181 N184q
      have K184 := K183.trans kq184 (allS (Or.inr sz_b183) all0)
      have c186 := (A183.keep kq184)
      have c187 := ((c182.ext E183).keep kq184 (ninS ne_b127_b183 nin0))
      obtain ⟨cq185, kq185, q185a, q185b, q185c⟩ := isOf hZ rfl c186
      obtain ⟨_, _, ⟨T185, L185, k185, n185⟩, -, X185, ⟨Lc185, hQ185, l185, y185, z185⟩, st185⟩ := X184.virtualBack hx (y := (⟨"com/example/hedge/hedge/analysis/IntArrayKey", "hashCode", "()I"⟩ : MethodName)) (z := (⟨"com/example/hedge/hedge/analysis/IntArrayKey", "hashCode", "()I"⟩ : MethodName)) hown (mvT hZ (hw _ (List.mem_of_getElem? (i := 17) rfl))) (mvT hZ (hw _ (List.mem_of_getElem? (i := 18) rfl))) (notFace_of_selects (args := #[]) (mvT hZ (hw _ (List.mem_of_getElem? (i := 20) rfl)))) (mvT hZ (hw _ (List.mem_of_getElem? (i := 20) rfl))) (mvT hZ (hw _ (List.mem_of_getElem? (i := 19) rfl))) (by decide) (backOf (W := 0) (hc3 l Z a0 hw [] b183 b127 k127 p2 p3 p4 T184.heap n0 (Nat.le_trans Z0 K184.1) fq184 c187) hZ (hw _ (List.mem_of_getElem? (i := 21) rfl)) (hw _ (List.mem_of_getElem? (i := 3) rfl)) (by decide) (by decide)) q185a q185c (g := (mkF m 116 #[.val (.int p0), .val (.int p1), .val (.int p2), .val (.int p3), .val (.int p4), .val (.int p5), .val (.int (3 : Int32)), .val (.ref b127), .val (.ref b128), .val (.int v178), .val (.int (1 : Int32)), .unset] [(.ref b183)])) rfl (by rw [hml]; rfl) (Steps.refl _) (argsL := []) (rest := []) (lenOf pd___I rfl) rfl (by show 2 * 0 + _ ≤ _; exact Nat.le_of_eq rfl) (hb hby at_116) (fun _ _ => ⟨rfl, rfl, (by decide : 3 + 0 ≤ _), (by decide : 7 + 0 ≤ _)⟩)
      dsimp only [Pt.U, Pt.locs, Pt.cells, Pt.slots] at X185 l185 y185 z185 st185 hQ185
      subst l185 y185 z185
      obtain ⟨rfl, N185q, hq185⟩ := hQ185
      have N185 := Fr.app N184 N185q
      have E185 : Ext T184.heap T185.heap := by rw [hq185]; exact ⟨Nat.le_refl _, fun _ _ q => q⟩
      have K185 := K184.ext E185
      have c188 := (c187.ext E185)
      have c189 := (((V181.ext E183).keep kq184 (ninS ne_b128_b183 nin0)).ext E185)
      have c190 := (c186.ext E185)
      obtain ⟨T191, h191, X191, e191, E191, A191, D191, -, st191⟩ := newO X185 hx hZ hown (hw _ (List.mem_of_getElem? (i := 1) rfl)) (hw _ (List.mem_of_getElem? (i := 2) rfl)) (hw _ (List.mem_of_getElem? (i := 3) rfl)) rfl (g := (mkF m 121 #[.val (.int p0), .val (.int p1), .val (.int p2), .val (.int p3), .val (.int p4), .val (.int p5), .val (.int (3 : Int32)), .val (.ref b127), .val (.ref b128), .val (.int v178), .val (.int (own_h3 p2 p3 p4)), .unset] [])) rfl (hb hby at_121) (by decide) (by decide)
      obtain ⟨b191, g191⟩ : ∃ z, z = T185.heap.size := ⟨_, rfl⟩
      rw [← g191] at A191 D191 st191
      have g_b191 : n0 ≤ b191 := Nat.le_trans (Nat.le_trans Z0 K185.1) (Nat.le_of_eq g191.symm)
      have sz_b191 : h0.size ≤ b191 := Nat.le_trans K185.1 (Nat.le_of_eq g191.symm)
      have ne_b127_b191 : b127 ≠ b191 := Nat.ne_of_lt (Nat.lt_of_lt_of_le c188.lt (Nat.le_of_eq g191.symm))
      have ne_b128_b191 : b128 ≠ b191 := Nat.ne_of_lt (Nat.lt_of_lt_of_le c189.lt (Nat.le_of_eq g191.symm))
      have ne_b183_b191 : b183 ≠ b191 := Nat.ne_of_lt (Nat.lt_of_lt_of_le c190.lt (Nat.le_of_eq g191.symm))
      have K191 := K185.ext E191
      have F_values_b191 : Fld Z h191 b191 "com/example/hedge/hedge/analysis/IntArrayKey" "values" "[I" .null := D191 (Or.inr (hw _ (List.mem_of_getElem? (i := 16) rfl))) (ty := (.array .int)) (by decide)
      obtain ⟨_, _, ⟨T192, L192, k192, n192⟩, -, X192, ⟨Lc192, hQ192, l192, y192, z192⟩, st192⟩ := X191.specialBack hx (y := (⟨"com/example/hedge/hedge/analysis/IntArrayKey", "<init>", "([I)V"⟩ : MethodName)) rfl hown (mvT hZ (hw _ (List.mem_of_getElem? (i := 4) rfl))) (mvT hZ (hw _ (List.mem_of_getElem? (i := 5) rfl))) (mvT hZ (hw _ (List.mem_of_getElem? (i := 6) rfl))) (by decide) (backOf (W := 1) (rm1 l Z a0 hw [] b191 b128 h191 n0 (Nat.le_trans Z0 K191.1) A191 F_values_b191 g_b191) hZ (hw _ (List.mem_of_getElem? (i := 6) rfl)) (hw _ (List.mem_of_getElem? (i := 3) rfl)) (by decide) (by decide)) (g := (mkF m 127 #[.val (.int p0), .val (.int p1), .val (.int p2), .val (.int p3), .val (.int p4), .val (.int p5), .val (.int (3 : Int32)), .val (.ref b127), .val (.ref b128), .val (.int v178), .val (.int (own_h3 p2 p3 p4)), .unset] [(.ref b128), (.ref b191), (.ref b191)])) rfl (by rw [hml]; rfl) (Steps.refl _) (a := b191) (argsL := [(.ref b128)]) (rest := [(.ref b191)]) (lenOf pd___I_V rfl) rfl (by show 2 * 0 + _ ≤ _; exact Nat.le_of_eq rfl) (hb hby at_127) (fun _ _ => ⟨rfl, e191, (by decide : 4 + 0 ≤ _), (by decide : 8 + 0 ≤ _)⟩)
      dsimp only [Pt.U, Pt.locs, Pt.cells, Pt.slots] at X192 l192 y192 z192 st192 hQ192
      subst l192 y192 z192
      obtain ⟨rfl, N192q, kq192, fq192⟩ := hQ192
      have N192 := Fr.app N185 N192q
      have K192 := K191.trans kq192 (allS (Or.inr sz_b191) all0)
      have c194 := (A191.keep kq192)
      have c195 := ((c189.ext E191).keep kq192 (ninS ne_b128_b191 nin0))
      obtain ⟨cq193, kq193, q193a, q193b, q193c⟩ := isOf hZ rfl c194
      obtain ⟨_, _, ⟨T193, L193, k193, n193⟩, -, X193, ⟨Lc193, hQ193, l193, y193, z193⟩, st193⟩ := X192.virtualBack hx (y := (⟨"com/example/hedge/hedge/analysis/IntArrayKey", "hashCode", "()I"⟩ : MethodName)) (z := (⟨"com/example/hedge/hedge/analysis/IntArrayKey", "hashCode", "()I"⟩ : MethodName)) hown (mvT hZ (hw _ (List.mem_of_getElem? (i := 17) rfl))) (mvT hZ (hw _ (List.mem_of_getElem? (i := 18) rfl))) (notFace_of_selects (args := #[]) (mvT hZ (hw _ (List.mem_of_getElem? (i := 20) rfl)))) (mvT hZ (hw _ (List.mem_of_getElem? (i := 20) rfl))) (mvT hZ (hw _ (List.mem_of_getElem? (i := 19) rfl))) (by decide) (backOf (W := 0) (hc3 l Z a0 hw [] b191 b128 k128 p2 p5 p4 T192.heap n0 (Nat.le_trans Z0 K192.1) fq192 c195) hZ (hw _ (List.mem_of_getElem? (i := 21) rfl)) (hw _ (List.mem_of_getElem? (i := 3) rfl)) (by decide) (by decide)) q193a q193c (g := (mkF m 130 #[.val (.int p0), .val (.int p1), .val (.int p2), .val (.int p3), .val (.int p4), .val (.int p5), .val (.int (3 : Int32)), .val (.ref b127), .val (.ref b128), .val (.int v178), .val (.int (own_h3 p2 p3 p4)), .unset] [(.ref b191)])) rfl (by rw [hml]; rfl) (Steps.refl _) (argsL := []) (rest := []) (lenOf pd___I rfl) rfl (by show 2 * 0 + _ ≤ _; exact Nat.le_of_eq rfl) (hb hby at_130) (fun _ _ => ⟨rfl, rfl, (by decide : 4 + 0 ≤ _), (by decide : 8 + 0 ≤ _)⟩)
      dsimp only [Pt.U, Pt.locs, Pt.cells, Pt.slots] at X193 l193 y193 z193 st193 hQ193
      subst l193 y193 z193
      obtain ⟨rfl, N193q, hq193⟩ := hQ193
      have N193 := Fr.app N192 N193q
      have E193 : Ext T192.heap T193.heap := by rw [hq193]; exact ⟨Nat.le_refl _, fun _ _ q => q⟩
      have K193 := K192.ext E193
      obtain ⟨v197, hv197⟩ : ∃ z : Int32, z = if (own_h3 p2 p3 p4) = (own_h3 p2 p5 p4) then (1 : Int32) else (0 : Int32) := ⟨_, rfl⟩
      have mg198 : ∀ t, Steps p.tables e below (T193.setTop (mkF m 147 #[.val (.int p0), .val (.int p1), .val (.int p2), .val (.int p3), .val (.int p4), .val (.int p5), .val (.int (3 : Int32)), .val (.ref b127), .val (.ref b128), .val (.int v178), .val (.int (own_h3 p2 p3 p4)), .val (.int (own_h3 p2 p5 p4))] [(.int v197)])) t → Steps p.tables e below (T193.setTop (mkF m 139 #[.val (.int p0), .val (.int p1), .val (.int p2), .val (.int p3), .val (.int p4), .val (.int p5), .val (.int (3 : Int32)), .val (.ref b127), .val (.ref b128), .val (.int v178), .val (.int (own_h3 p2 p3 p4)), .val (.int (own_h3 p2 p5 p4))] [(.int (own_h3 p2 p5 p4)), (.int (own_h3 p2 p3 p4))])) t := by
        intro t kt
        by_cases hm196 : (own_h3 p2 p3 p4) = (own_h3 p2 p5 p4)
        ·
          have ev197 : v197 = (1 : Int32) := by rw [hv197, if_pos hm196]
          rw [ev197] at kt
          refine (fun t (k : Steps p.tables e below (T193.setTop (mkF m 139 #[.val (.int p0), .val (.int p1), .val (.int p2), .val (.int p3), .val (.int p4), .val (.int p5), .val (.int (3 : Int32)), .val (.ref b127), .val (.ref b128), .val (.int v178), .val (.int (own_h3 p2 p3 p4)), .val (.int (own_h3 p2 p5 p4))] [(.int (own_h3 p2 p5 p4)), (.int (own_h3 p2 p3 p4))])) t) => k) _ ?_
          refine XS.icmpNo X193.here hx rfl (hb hby at_139) rfl (teq hm196).2 ?_
          show Steps p.tables e below (T193.setTop (mkF m 142 #[.val (.int p0), .val (.int p1), .val (.int p2), .val (.int p3), .val (.int p4), .val (.int p5), .val (.int (3 : Int32)), .val (.ref b127), .val (.ref b128), .val (.int v178), .val (.int (own_h3 p2 p3 p4)), .val (.int (own_h3 p2 p5 p4))] [])) _
          refine XS.iconst X193.here hx rfl (hb hby at_142) ?_
          show Steps p.tables e below (T193.setTop (mkF m 143 #[.val (.int p0), .val (.int p1), .val (.int p2), .val (.int p3), .val (.int p4), .val (.int p5), .val (.int (3 : Int32)), .val (.ref b127), .val (.ref b128), .val (.int v178), .val (.int (own_h3 p2 p3 p4)), .val (.int (own_h3 p2 p5 p4))] [(.int (1 : Int32))])) _
          refine XS.goto X193.here hx rfl (pc0 := 143) (pc' := 147) rfl (hb hby at_143) (by decide) (by decide) ?_
          show Steps p.tables e below (T193.setTop (mkF m 147 #[.val (.int p0), .val (.int p1), .val (.int p2), .val (.int p3), .val (.int p4), .val (.int p5), .val (.int (3 : Int32)), .val (.ref b127), .val (.ref b128), .val (.int v178), .val (.int (own_h3 p2 p3 p4)), .val (.int (own_h3 p2 p5 p4))] [(.int (1 : Int32))])) _
          exact kt
        ·
          have ev197 : v197 = (0 : Int32) := by rw [hv197, if_neg hm196]
          rw [ev197] at kt
          refine (fun t (k : Steps p.tables e below (T193.setTop (mkF m 139 #[.val (.int p0), .val (.int p1), .val (.int p2), .val (.int p3), .val (.int p4), .val (.int p5), .val (.int (3 : Int32)), .val (.ref b127), .val (.ref b128), .val (.int v178), .val (.int (own_h3 p2 p3 p4)), .val (.int (own_h3 p2 p5 p4))] [(.int (own_h3 p2 p5 p4)), (.int (own_h3 p2 p3 p4))])) t) => k) _ ?_
          refine XS.icmpYes X193.here hx rfl (pc0 := 139) (pc' := 146) rfl (hb hby at_139) rfl (feq hm196).2 (by decide) (by decide) ?_
          show Steps p.tables e below (T193.setTop (mkF m 146 #[.val (.int p0), .val (.int p1), .val (.int p2), .val (.int p3), .val (.int p4), .val (.int p5), .val (.int (3 : Int32)), .val (.ref b127), .val (.ref b128), .val (.int v178), .val (.int (own_h3 p2 p3 p4)), .val (.int (own_h3 p2 p5 p4))] [])) _
          refine XS.iconst X193.here hx rfl (hb hby at_146) ?_
          show Steps p.tables e below (T193.setTop (mkF m 147 #[.val (.int p0), .val (.int p1), .val (.int p2), .val (.int p3), .val (.int p4), .val (.int p5), .val (.int (3 : Int32)), .val (.ref b127), .val (.ref b128), .val (.int v178), .val (.int (own_h3 p2 p3 p4)), .val (.int (own_h3 p2 p5 p4))] [(.int (0 : Int32))])) _
          exact kt
      have hk199 : v197 = v178 := by rw [hv197, hv178]; exact own_law_3_1 _ _ _ _
      obtain ⟨fs, hr, hrun, hended, hW, hsame⟩ := X193.leave (v := some (.int (1 : Int32))) (fun h => by rw [Bd.returns] at h; cases h)
      refine ⟨_, _, pre149 _ ?_, hrun, hended, _, _, rfl, ?_, ⟨_, rfl⟩, hW, hsame.mono (by decide) (by decide)⟩
      ·
        show Steps p.tables e below (T146.setTop (mkF m 83 #[.val (.int p0), .val (.int p1), .val (.int p2), .val (.int p3), .val (.int p4), .val (.int p5), .val (.int (3 : Int32)), .val (.ref b127), .val (.ref b128), .val (.int (1 : Int32)), .val (.int (1 : Int32)), .unset] [])) _
        refine XS.aload X146.here hx rfl (hb hby at_83) rfl rfl ?_
        show Steps p.tables e below (T146.setTop (mkF m 85 #[.val (.int p0), .val (.int p1), .val (.int p2), .val (.int p3), .val (.int p4), .val (.int p5), .val (.int (3 : Int32)), .val (.ref b127), .val (.ref b128), .val (.int (1 : Int32)), .val (.int (1 : Int32)), .unset] [(.ref b127)])) _
        refine XS.iload X146.here hx rfl (hb hby at_85) rfl ?_
        show Steps p.tables e below (T146.setTop (mkF m 87 #[.val (.int p0), .val (.int p1), .val (.int p2), .val (.int p3), .val (.int p4), .val (.int p5), .val (.int (3 : Int32)), .val (.ref b127), .val (.ref b128), .val (.int (1 : Int32)), .val (.int (1 : Int32)), .unset] [(.int (1 : Int32)), (.ref b127)])) _
        refine X146.iaload hx (j := (1 : Int32)) (v := (.int p3)) (by rw [e146]; exact Aro176.1) (State.isArrayOf_alike hZ.alike Aro176.2.1) Aro176.2.2 hino176 hato176 (g := (mkF m 87 #[.val (.int p0), .val (.int p1), .val (.int p2), .val (.int p3), .val (.int p4), .val (.int p5), .val (.int (3 : Int32)), .val (.ref b127), .val (.ref b128), .val (.int (1 : Int32)), .val (.int (1 : Int32)), .unset] [(.int (1 : Int32)), (.ref b127)])) rfl rfl (hb hby at_87) _ ?_
        show Steps p.tables e below (T146.setTop (mkF m 88 #[.val (.int p0), .val (.int p1), .val (.int p2), .val (.int p3), .val (.int p4), .val (.int p5), .val (.int (3 : Int32)), .val (.ref b127), .val (.ref b128), .val (.int (1 : Int32)), .val (.int (1 : Int32)), .unset] [(.int p3)])) _
        refine XS.iload X146.here hx rfl (hb hby at_88) rfl ?_
        show Steps p.tables e below (T146.setTop (mkF m 90 #[.val (.int p0), .val (.int p1), .val (.int p2), .val (.int p3), .val (.int p4), .val (.int p5), .val (.int (3 : Int32)), .val (.ref b127), .val (.ref b128), .val (.int (1 : Int32)), .val (.int (1 : Int32)), .unset] [(.int p5), (.int p3)])) _
        refine mg179 _ ?_
        show Steps p.tables e below (T146.setTop (mkF m 98 #[.val (.int p0), .val (.int p1), .val (.int p2), .val (.int p3), .val (.int p4), .val (.int p5), .val (.int (3 : Int32)), .val (.ref b127), .val (.ref b128), .val (.int (1 : Int32)), .val (.int (1 : Int32)), .unset] [(.int v178)])) _
        refine XS.istore X146.here hx rfl (hb hby at_98) rfl (l' := #[.val (.int p0), .val (.int p1), .val (.int p2), .val (.int p3), .val (.int p4), .val (.int p5), .val (.int (3 : Int32)), .val (.ref b127), .val (.ref b128), .val (.int v178), .val (.int (1 : Int32)), .unset]) rfl ?_
        show Steps p.tables e below (T146.setTop (mkF m 100 #[.val (.int p0), .val (.int p1), .val (.int p2), .val (.int p3), .val (.int p4), .val (.int p5), .val (.int (3 : Int32)), .val (.ref b127), .val (.ref b128), .val (.int v178), .val (.int (1 : Int32)), .unset] [])) _
        refine XS.aload X146.here hx rfl (hb hby at_100) rfl rfl ?_
        show Steps p.tables e below (T146.setTop (mkF m 102 #[.val (.int p0), .val (.int p1), .val (.int p2), .val (.int p3), .val (.int p4), .val (.int p5), .val (.int (3 : Int32)), .val (.ref b127), .val (.ref b128), .val (.int v178), .val (.int (1 : Int32)), .unset] [(.ref b128)])) _
        refine XS.iload X146.here hx rfl (hb hby at_102) rfl ?_
        show Steps p.tables e below (T146.setTop (mkF m 104 #[.val (.int p0), .val (.int p1), .val (.int p2), .val (.int p3), .val (.int p4), .val (.int p5), .val (.int (3 : Int32)), .val (.ref b127), .val (.ref b128), .val (.int v178), .val (.int (1 : Int32)), .unset] [(.int (1 : Int32)), (.ref b128)])) _
        refine XS.iload X146.here hx rfl (hb hby at_104) rfl ?_
        show Steps p.tables e below (T146.setTop (mkF m 106 #[.val (.int p0), .val (.int p1), .val (.int p2), .val (.int p3), .val (.int p4), .val (.int p5), .val (.int (3 : Int32)), .val (.ref b127), .val (.ref b128), .val (.int v178), .val (.int (1 : Int32)), .unset] [(.int p5), (.int (1 : Int32)), (.ref b128)])) _
        refine st181 _ ?_
        show Steps p.tables e below (T181.setTop (mkF m 107 #[.val (.int p0), .val (.int p1), .val (.int p2), .val (.int p3), .val (.int p4), .val (.int p5), .val (.int (3 : Int32)), .val (.ref b127), .val (.ref b128), .val (.int v178), .val (.int (1 : Int32)), .unset] [])) _
        refine st183 _ ?_
        show Steps p.tables e below (T183.setTop (mkF m 110 #[.val (.int p0), .val (.int p1), .val (.int p2), .val (.int p3), .val (.int p4), .val (.int p5), .val (.int (3 : Int32)), .val (.ref b127), .val (.ref b128), .val (.int v178), .val (.int (1 : Int32)), .unset] [(.ref b183)])) _
        refine XS.dup X183.here hx rfl (hb hby at_110) rfl rfl ?_
        show Steps p.tables e below (T183.setTop (mkF m 111 #[.val (.int p0), .val (.int p1), .val (.int p2), .val (.int p3), .val (.int p4), .val (.int p5), .val (.int (3 : Int32)), .val (.ref b127), .val (.ref b128), .val (.int v178), .val (.int (1 : Int32)), .unset] [(.ref b183), (.ref b183)])) _
        refine XS.aload X183.here hx rfl (hb hby at_111) rfl rfl ?_
        show Steps p.tables e below (T183.setTop (mkF m 113 #[.val (.int p0), .val (.int p1), .val (.int p2), .val (.int p3), .val (.int p4), .val (.int p5), .val (.int (3 : Int32)), .val (.ref b127), .val (.ref b128), .val (.int v178), .val (.int (1 : Int32)), .unset] [(.ref b127), (.ref b183), (.ref b183)])) _
        refine st184.trans ?_
        show Steps p.tables e below (T184.setTop (mkF m 116 #[.val (.int p0), .val (.int p1), .val (.int p2), .val (.int p3), .val (.int p4), .val (.int p5), .val (.int (3 : Int32)), .val (.ref b127), .val (.ref b128), .val (.int v178), .val (.int (1 : Int32)), .unset] [(.ref b183)])) _
        refine st185.trans ?_
        show Steps p.tables e below (T185.setTop (mkF m 119 #[.val (.int p0), .val (.int p1), .val (.int p2), .val (.int p3), .val (.int p4), .val (.int p5), .val (.int (3 : Int32)), .val (.ref b127), .val (.ref b128), .val (.int v178), .val (.int (1 : Int32)), .unset] [(.int (own_h3 p2 p3 p4))])) _
        refine XS.istore X185.here hx rfl (hb hby at_119) rfl (l' := #[.val (.int p0), .val (.int p1), .val (.int p2), .val (.int p3), .val (.int p4), .val (.int p5), .val (.int (3 : Int32)), .val (.ref b127), .val (.ref b128), .val (.int v178), .val (.int (own_h3 p2 p3 p4)), .unset]) rfl ?_
        show Steps p.tables e below (T185.setTop (mkF m 121 #[.val (.int p0), .val (.int p1), .val (.int p2), .val (.int p3), .val (.int p4), .val (.int p5), .val (.int (3 : Int32)), .val (.ref b127), .val (.ref b128), .val (.int v178), .val (.int (own_h3 p2 p3 p4)), .unset] [])) _
        refine st191 _ ?_
        show Steps p.tables e below (T191.setTop (mkF m 124 #[.val (.int p0), .val (.int p1), .val (.int p2), .val (.int p3), .val (.int p4), .val (.int p5), .val (.int (3 : Int32)), .val (.ref b127), .val (.ref b128), .val (.int v178), .val (.int (own_h3 p2 p3 p4)), .unset] [(.ref b191)])) _
        refine XS.dup X191.here hx rfl (hb hby at_124) rfl rfl ?_
        show Steps p.tables e below (T191.setTop (mkF m 125 #[.val (.int p0), .val (.int p1), .val (.int p2), .val (.int p3), .val (.int p4), .val (.int p5), .val (.int (3 : Int32)), .val (.ref b127), .val (.ref b128), .val (.int v178), .val (.int (own_h3 p2 p3 p4)), .unset] [(.ref b191), (.ref b191)])) _
        refine XS.aload X191.here hx rfl (hb hby at_125) rfl rfl ?_
        show Steps p.tables e below (T191.setTop (mkF m 127 #[.val (.int p0), .val (.int p1), .val (.int p2), .val (.int p3), .val (.int p4), .val (.int p5), .val (.int (3 : Int32)), .val (.ref b127), .val (.ref b128), .val (.int v178), .val (.int (own_h3 p2 p3 p4)), .unset] [(.ref b128), (.ref b191), (.ref b191)])) _
        refine st192.trans ?_
        show Steps p.tables e below (T192.setTop (mkF m 130 #[.val (.int p0), .val (.int p1), .val (.int p2), .val (.int p3), .val (.int p4), .val (.int p5), .val (.int (3 : Int32)), .val (.ref b127), .val (.ref b128), .val (.int v178), .val (.int (own_h3 p2 p3 p4)), .unset] [(.ref b191)])) _
        refine st193.trans ?_
        show Steps p.tables e below (T193.setTop (mkF m 133 #[.val (.int p0), .val (.int p1), .val (.int p2), .val (.int p3), .val (.int p4), .val (.int p5), .val (.int (3 : Int32)), .val (.ref b127), .val (.ref b128), .val (.int v178), .val (.int (own_h3 p2 p3 p4)), .unset] [(.int (own_h3 p2 p5 p4))])) _
        refine XS.istore X193.here hx rfl (hb hby at_133) rfl (l' := #[.val (.int p0), .val (.int p1), .val (.int p2), .val (.int p3), .val (.int p4), .val (.int p5), .val (.int (3 : Int32)), .val (.ref b127), .val (.ref b128), .val (.int v178), .val (.int (own_h3 p2 p3 p4)), .val (.int (own_h3 p2 p5 p4))]) rfl ?_
        show Steps p.tables e below (T193.setTop (mkF m 135 #[.val (.int p0), .val (.int p1), .val (.int p2), .val (.int p3), .val (.int p4), .val (.int p5), .val (.int (3 : Int32)), .val (.ref b127), .val (.ref b128), .val (.int v178), .val (.int (own_h3 p2 p3 p4)), .val (.int (own_h3 p2 p5 p4))] [])) _
        refine XS.iload X193.here hx rfl (hb hby at_135) rfl ?_
        show Steps p.tables e below (T193.setTop (mkF m 137 #[.val (.int p0), .val (.int p1), .val (.int p2), .val (.int p3), .val (.int p4), .val (.int p5), .val (.int (3 : Int32)), .val (.ref b127), .val (.ref b128), .val (.int v178), .val (.int (own_h3 p2 p3 p4)), .val (.int (own_h3 p2 p5 p4))] [(.int (own_h3 p2 p3 p4))])) _
        refine XS.iload X193.here hx rfl (hb hby at_137) rfl ?_
        show Steps p.tables e below (T193.setTop (mkF m 139 #[.val (.int p0), .val (.int p1), .val (.int p2), .val (.int p3), .val (.int p4), .val (.int p5), .val (.int (3 : Int32)), .val (.ref b127), .val (.ref b128), .val (.int v178), .val (.int (own_h3 p2 p3 p4)), .val (.int (own_h3 p2 p5 p4))] [(.int (own_h3 p2 p5 p4)), (.int (own_h3 p2 p3 p4))])) _
        refine mg198 _ ?_
        show Steps p.tables e below (T193.setTop (mkF m 147 #[.val (.int p0), .val (.int p1), .val (.int p2), .val (.int p3), .val (.int p4), .val (.int p5), .val (.int (3 : Int32)), .val (.ref b127), .val (.ref b128), .val (.int v178), .val (.int (own_h3 p2 p3 p4)), .val (.int (own_h3 p2 p5 p4))] [(.int v197)])) _
        refine XS.iload X193.here hx rfl (hb hby at_147) rfl ?_
        show Steps p.tables e below (T193.setTop (mkF m 149 #[.val (.int p0), .val (.int p1), .val (.int p2), .val (.int p3), .val (.int p4), .val (.int p5), .val (.int (3 : Int32)), .val (.ref b127), .val (.ref b128), .val (.int v178), .val (.int (own_h3 p2 p3 p4)), .val (.int (own_h3 p2 p5 p4))] [(.int v178), (.int v197)])) _
        refine XS.icmpNo X193.here hx rfl (hb hby at_149) rfl (teq hk199).2 ?_
        show Steps p.tables e below (T193.setTop (mkF m 152 #[.val (.int p0), .val (.int p1), .val (.int p2), .val (.int p3), .val (.int p4), .val (.int p5), .val (.int (3 : Int32)), .val (.ref b127), .val (.ref b128), .val (.int v178), .val (.int (own_h3 p2 p3 p4)), .val (.int (own_h3 p2 p5 p4))] [])) _
        refine XS.iconst X193.here hx rfl (hb hby at_152) ?_
        show Steps p.tables e below (T193.setTop (mkF m 153 #[.val (.int p0), .val (.int p1), .val (.int p2), .val (.int p3), .val (.int p4), .val (.int p5), .val (.int (3 : Int32)), .val (.ref b127), .val (.ref b128), .val (.int v178), .val (.int (own_h3 p2 p3 p4)), .val (.int (own_h3 p2 p5 p4))] [(.int (1 : Int32))])) _
        refine XS.goto X193.here hx rfl (pc0 := 153) (pc' := 157) rfl (hb hby at_153) (by decide) (by decide) ?_
        show Steps p.tables e below (T193.setTop (mkF m 157 #[.val (.int p0), .val (.int p1), .val (.int p2), .val (.int p3), .val (.int p4), .val (.int p5), .val (.int (3 : Int32)), .val (.ref b127), .val (.ref b128), .val (.int v178), .val (.int (own_h3 p2 p3 p4)), .val (.int (own_h3 p2 p5 p4))] [(.int (1 : Int32))])) _
        exact retN X193 hx (t := .boolean) Bd.returns (by simp) (hb hby at_157) hr
      ·
        show Q0 Z p0 p1 p2 p3 p4 p5 h0 n0 _ T193.heap _
        exact ⟨rfl, N193⟩
    ·
      subst q
      have c200 := (V143.other W146 ne_b127_b128)
      obtain ⟨clo201, Aro201, -, So201, No201, Ho201, -⟩ := id c200
      have hino201 : ¬ ((2 : Int32) < 0 ∨ clo201.slots.size ≤ ((2 : Int32)).toNatClampNeg) := inb_of So201 ⟨by decide, by decide⟩
      have hato201 : clo201.slots[((2 : Int32)).toNatClampNeg]? = some (.int p4) := Ho201.at hino201 rfl
      obtain ⟨v203, hv203⟩ : ∃ z : Int32, z = if p4 = p5 then (1 : Int32) else (0 : Int32) := ⟨_, rfl⟩
      have mg204 : ∀ t, Steps p.tables e below (T146.setTop (mkF m 98 #[.val (.int p0), .val (.int p1), .val (.int p2), .val (.int p3), .val (.int p4), .val (.int p5), .val (.int (3 : Int32)), .val (.ref b127), .val (.ref b128), .val (.int (1 : Int32)), .val (.int (2 : Int32)), .unset] [(.int v203)])) t → Steps p.tables e below (T146.setTop (mkF m 90 #[.val (.int p0), .val (.int p1), .val (.int p2), .val (.int p3), .val (.int p4), .val (.int p5), .val (.int (3 : Int32)), .val (.ref b127), .val (.ref b128), .val (.int (1 : Int32)), .val (.int (2 : Int32)), .unset] [(.int p5), (.int p4)])) t := by
        intro t kt
        by_cases hm202 : p4 = p5
        ·
          have ev203 : v203 = (1 : Int32) := by rw [hv203, if_pos hm202]
          rw [ev203] at kt
          refine (fun t (k : Steps p.tables e below (T146.setTop (mkF m 90 #[.val (.int p0), .val (.int p1), .val (.int p2), .val (.int p3), .val (.int p4), .val (.int p5), .val (.int (3 : Int32)), .val (.ref b127), .val (.ref b128), .val (.int (1 : Int32)), .val (.int (2 : Int32)), .unset] [(.int p5), (.int p4)])) t) => k) _ ?_
          refine XS.icmpNo X146.here hx rfl (hb hby at_90) rfl (teq hm202).2 ?_
          show Steps p.tables e below (T146.setTop (mkF m 93 #[.val (.int p0), .val (.int p1), .val (.int p2), .val (.int p3), .val (.int p4), .val (.int p5), .val (.int (3 : Int32)), .val (.ref b127), .val (.ref b128), .val (.int (1 : Int32)), .val (.int (2 : Int32)), .unset] [])) _
          refine XS.iconst X146.here hx rfl (hb hby at_93) ?_
          show Steps p.tables e below (T146.setTop (mkF m 94 #[.val (.int p0), .val (.int p1), .val (.int p2), .val (.int p3), .val (.int p4), .val (.int p5), .val (.int (3 : Int32)), .val (.ref b127), .val (.ref b128), .val (.int (1 : Int32)), .val (.int (2 : Int32)), .unset] [(.int (1 : Int32))])) _
          refine XS.goto X146.here hx rfl (pc0 := 94) (pc' := 98) rfl (hb hby at_94) (by decide) (by decide) ?_
          show Steps p.tables e below (T146.setTop (mkF m 98 #[.val (.int p0), .val (.int p1), .val (.int p2), .val (.int p3), .val (.int p4), .val (.int p5), .val (.int (3 : Int32)), .val (.ref b127), .val (.ref b128), .val (.int (1 : Int32)), .val (.int (2 : Int32)), .unset] [(.int (1 : Int32))])) _
          exact kt
        ·
          have ev203 : v203 = (0 : Int32) := by rw [hv203, if_neg hm202]
          rw [ev203] at kt
          refine (fun t (k : Steps p.tables e below (T146.setTop (mkF m 90 #[.val (.int p0), .val (.int p1), .val (.int p2), .val (.int p3), .val (.int p4), .val (.int p5), .val (.int (3 : Int32)), .val (.ref b127), .val (.ref b128), .val (.int (1 : Int32)), .val (.int (2 : Int32)), .unset] [(.int p5), (.int p4)])) t) => k) _ ?_
          refine XS.icmpYes X146.here hx rfl (pc0 := 90) (pc' := 97) rfl (hb hby at_90) rfl (feq hm202).2 (by decide) (by decide) ?_
          show Steps p.tables e below (T146.setTop (mkF m 97 #[.val (.int p0), .val (.int p1), .val (.int p2), .val (.int p3), .val (.int p4), .val (.int p5), .val (.int (3 : Int32)), .val (.ref b127), .val (.ref b128), .val (.int (1 : Int32)), .val (.int (2 : Int32)), .unset] [])) _
          refine XS.iconst X146.here hx rfl (hb hby at_97) ?_
          show Steps p.tables e below (T146.setTop (mkF m 98 #[.val (.int p0), .val (.int p1), .val (.int p2), .val (.int p3), .val (.int p4), .val (.int p5), .val (.int (3 : Int32)), .val (.ref b127), .val (.ref b128), .val (.int (1 : Int32)), .val (.int (2 : Int32)), .unset] [(.int (0 : Int32))])) _
          exact kt
      obtain ⟨clo205, Aro205, qo205, So205, No205, Ho205, Go205⟩ := id V146
      have hino205 : ¬ ((2 : Int32) < 0 ∨ clo205.slots.size ≤ ((2 : Int32)).toNatClampNeg) := inb_of So205 ⟨by decide, by decide⟩
      obtain ⟨T206, h206, X206, e206, W206, st206⟩ := stI X146 hx hZ e146 Aro205 (j := (2 : Int32)) hino205 (g := (mkF m 106 #[.val (.int p0), .val (.int p1), .val (.int p2), .val (.int p3), .val (.int p4), .val (.int p5), .val (.int (3 : Int32)), .val (.ref b127), .val (.ref b128), .val (.int v203), .val (.int (2 : Int32)), .unset] [(.int p5), (.int (2 : Int32)), (.ref b128)])) rfl rfl (hb hby at_106)
      have V206 : Arv Z h206 b128 k128 .int (3 : Int32) [(.int p2), (.int p3), (.int p5)] (.int (0 : Int32)) := Arv.set Aro205 qo205 So205 No205 Ho205 Go205 rfl W206 2 rfl (Nat.le_of_ble_eq_true rfl)
      have K206 := K146.wr W206 (Or.inr sz_b128)
      have N206 := Fr.snoc X206 N146 g_b128
      have c207 := (c200.other W206 ne_b127_b128)
      obtain ⟨T208, h208, X208, e208, E208, A208, D208, -, st208⟩ := newO X206 hx hZ hown (hw _ (List.mem_of_getElem? (i := 1) rfl)) (hw _ (List.mem_of_getElem? (i := 2) rfl)) (hw _ (List.mem_of_getElem? (i := 3) rfl)) e206 (g := (mkF m 107 #[.val (.int p0), .val (.int p1), .val (.int p2), .val (.int p3), .val (.int p4), .val (.int p5), .val (.int (3 : Int32)), .val (.ref b127), .val (.ref b128), .val (.int v203), .val (.int (2 : Int32)), .unset] [])) rfl (hb hby at_107) (by decide) (by decide)
      obtain ⟨b208, g208⟩ : ∃ z, z = h206.size := ⟨_, rfl⟩
      rw [← g208] at A208 D208 st208
      have g_b208 : n0 ≤ b208 := Nat.le_trans (Nat.le_trans Z0 K206.1) (Nat.le_of_eq g208.symm)
      have sz_b208 : h0.size ≤ b208 := Nat.le_trans K206.1 (Nat.le_of_eq g208.symm)
      have ne_b127_b208 : b127 ≠ b208 := Nat.ne_of_lt (Nat.lt_of_lt_of_le c207.lt (Nat.le_of_eq g208.symm))
      have ne_b128_b208 : b128 ≠ b208 := Nat.ne_of_lt (Nat.lt_of_lt_of_le V206.lt (Nat.le_of_eq g208.symm))
      have K208 := K206.ext E208
      have F_values_b208 : Fld Z h208 b208 "com/example/hedge/hedge/analysis/IntArrayKey" "values" "[I" .null := D208 (Or.inr (hw _ (List.mem_of_getElem? (i := 16) rfl))) (ty := (.array .int)) (by decide)
      obtain ⟨_, _, ⟨T209, L209, k209, n209⟩, -, X209, ⟨Lc209, hQ209, l209, y209, z209⟩, st209⟩ := X208.specialBack hx (y := (⟨"com/example/hedge/hedge/analysis/IntArrayKey", "<init>", "([I)V"⟩ : MethodName)) rfl hown (mvT hZ (hw _ (List.mem_of_getElem? (i := 4) rfl))) (mvT hZ (hw _ (List.mem_of_getElem? (i := 5) rfl))) (mvT hZ (hw _ (List.mem_of_getElem? (i := 6) rfl))) (by decide) (backOf (W := 1) (rm1 l Z a0 hw [] b208 b127 h208 n0 (Nat.le_trans Z0 K208.1) A208 F_values_b208 g_b208) hZ (hw _ (List.mem_of_getElem? (i := 6) rfl)) (hw _ (List.mem_of_getElem? (i := 3) rfl)) (by decide) (by decide)) (g := (mkF m 113 #[.val (.int p0), .val (.int p1), .val (.int p2), .val (.int p3), .val (.int p4), .val (.int p5), .val (.int (3 : Int32)), .val (.ref b127), .val (.ref b128), .val (.int v203), .val (.int (2 : Int32)), .unset] [(.ref b127), (.ref b208), (.ref b208)])) rfl (by rw [hml]; rfl) (Steps.refl _) (a := b208) (argsL := [(.ref b127)]) (rest := [(.ref b208)]) (lenOf pd___I_V rfl) rfl (by show 2 * 0 + _ ≤ _; exact Nat.le_of_eq rfl) (hb hby at_113) (fun _ _ => ⟨rfl, e208, (by decide : 3 + 0 ≤ _), (by decide : 7 + 0 ≤ _)⟩)
      dsimp only [Pt.U, Pt.locs, Pt.cells, Pt.slots] at X209 l209 y209 z209 st209 hQ209
      subst l209 y209 z209
      obtain ⟨rfl, N209q, kq209, fq209⟩ := hQ209
      have N209 := Fr.app N206 N209q
      have K209 := K208.trans kq209 (allS (Or.inr sz_b208) all0)
      have c211 := (A208.keep kq209)
      have c212 := ((c207.ext E208).keep kq209 (ninS ne_b127_b208 nin0))
      obtain ⟨cq210, kq210, q210a, q210b, q210c⟩ := isOf hZ rfl c211
      obtain ⟨_, _, ⟨T210, L210, k210, n210⟩, -, X210, ⟨Lc210, hQ210, l210, y210, z210⟩, st210⟩ := X209.virtualBack hx (y := (⟨"com/example/hedge/hedge/analysis/IntArrayKey", "hashCode", "()I"⟩ : MethodName)) (z := (⟨"com/example/hedge/hedge/analysis/IntArrayKey", "hashCode", "()I"⟩ : MethodName)) hown (mvT hZ (hw _ (List.mem_of_getElem? (i := 17) rfl))) (mvT hZ (hw _ (List.mem_of_getElem? (i := 18) rfl))) (notFace_of_selects (args := #[]) (mvT hZ (hw _ (List.mem_of_getElem? (i := 20) rfl)))) (mvT hZ (hw _ (List.mem_of_getElem? (i := 20) rfl))) (mvT hZ (hw _ (List.mem_of_getElem? (i := 19) rfl))) (by decide) (backOf (W := 0) (hc3 l Z a0 hw [] b208 b127 k127 p2 p3 p4 T209.heap n0 (Nat.le_trans Z0 K209.1) fq209 c212) hZ (hw _ (List.mem_of_getElem? (i := 21) rfl)) (hw _ (List.mem_of_getElem? (i := 3) rfl)) (by decide) (by decide)) q210a q210c (g := (mkF m 116 #[.val (.int p0), .val (.int p1), .val (.int p2), .val (.int p3), .val (.int p4), .val (.int p5), .val (.int (3 : Int32)), .val (.ref b127), .val (.ref b128), .val (.int v203), .val (.int (2 : Int32)), .unset] [(.ref b208)])) rfl (by rw [hml]; rfl) (Steps.refl _) (argsL := []) (rest := []) (lenOf pd___I rfl) rfl (by show 2 * 0 + _ ≤ _; exact Nat.le_of_eq rfl) (hb hby at_116) (fun _ _ => ⟨rfl, rfl, (by decide : 3 + 0 ≤ _), (by decide : 7 + 0 ≤ _)⟩)
      dsimp only [Pt.U, Pt.locs, Pt.cells, Pt.slots] at X210 l210 y210 z210 st210 hQ210
      subst l210 y210 z210
      obtain ⟨rfl, N210q, hq210⟩ := hQ210
      have N210 := Fr.app N209 N210q
      have E210 : Ext T209.heap T210.heap := by rw [hq210]; exact ⟨Nat.le_refl _, fun _ _ q => q⟩
      have K210 := K209.ext E210
      have c213 := (c212.ext E210)
      have c214 := (((V206.ext E208).keep kq209 (ninS ne_b128_b208 nin0)).ext E210)
      have c215 := (c211.ext E210)
      obtain ⟨T216, h216, X216, e216, E216, A216, D216, -, st216⟩ := newO X210 hx hZ hown (hw _ (List.mem_of_getElem? (i := 1) rfl)) (hw _ (List.mem_of_getElem? (i := 2) rfl)) (hw _ (List.mem_of_getElem? (i := 3) rfl)) rfl (g := (mkF m 121 #[.val (.int p0), .val (.int p1), .val (.int p2), .val (.int p3), .val (.int p4), .val (.int p5), .val (.int (3 : Int32)), .val (.ref b127), .val (.ref b128), .val (.int v203), .val (.int (own_h3 p2 p3 p4)), .unset] [])) rfl (hb hby at_121) (by decide) (by decide)
      obtain ⟨b216, g216⟩ : ∃ z, z = T210.heap.size := ⟨_, rfl⟩
      rw [← g216] at A216 D216 st216
      have g_b216 : n0 ≤ b216 := Nat.le_trans (Nat.le_trans Z0 K210.1) (Nat.le_of_eq g216.symm)
      have sz_b216 : h0.size ≤ b216 := Nat.le_trans K210.1 (Nat.le_of_eq g216.symm)
      have ne_b127_b216 : b127 ≠ b216 := Nat.ne_of_lt (Nat.lt_of_lt_of_le c213.lt (Nat.le_of_eq g216.symm))
      have ne_b128_b216 : b128 ≠ b216 := Nat.ne_of_lt (Nat.lt_of_lt_of_le c214.lt (Nat.le_of_eq g216.symm))
      have ne_b208_b216 : b208 ≠ b216 := Nat.ne_of_lt (Nat.lt_of_lt_of_le c215.lt (Nat.le_of_eq g216.symm))
      have K216 := K210.ext E216
      have F_values_b216 : Fld Z h216 b216 "com/example/hedge/hedge/analysis/IntArrayKey" "values" "[I" .null := D216 (Or.inr (hw _ (List.mem_of_getElem? (i := 16) rfl))) (ty := (.array .int)) (by decide)
      obtain ⟨_, _, ⟨T217, L217, k217, n217⟩, -, X217, ⟨Lc217, hQ217, l217, y217, z217⟩, st217⟩ := X216.specialBack hx (y := (⟨"com/example/hedge/hedge/analysis/IntArrayKey", "<init>", "([I)V"⟩ : MethodName)) rfl hown (mvT hZ (hw _ (List.mem_of_getElem? (i := 4) rfl))) (mvT hZ (hw _ (List.mem_of_getElem? (i := 5) rfl))) (mvT hZ (hw _ (List.mem_of_getElem? (i := 6) rfl))) (by decide) (backOf (W := 1) (rm1 l Z a0 hw [] b216 b128 h216 n0 (Nat.le_trans Z0 K216.1) A216 F_values_b216 g_b216) hZ (hw _ (List.mem_of_getElem? (i := 6) rfl)) (hw _ (List.mem_of_getElem? (i := 3) rfl)) (by decide) (by decide)) (g := (mkF m 127 #[.val (.int p0), .val (.int p1), .val (.int p2), .val (.int p3), .val (.int p4), .val (.int p5), .val (.int (3 : Int32)), .val (.ref b127), .val (.ref b128), .val (.int v203), .val (.int (own_h3 p2 p3 p4)), .unset] [(.ref b128), (.ref b216), (.ref b216)])) rfl (by rw [hml]; rfl) (Steps.refl _) (a := b216) (argsL := [(.ref b128)]) (rest := [(.ref b216)]) (lenOf pd___I_V rfl) rfl (by show 2 * 0 + _ ≤ _; exact Nat.le_of_eq rfl) (hb hby at_127) (fun _ _ => ⟨rfl, e216, (by decide : 4 + 0 ≤ _), (by decide : 8 + 0 ≤ _)⟩)
      dsimp only [Pt.U, Pt.locs, Pt.cells, Pt.slots] at X217 l217 y217 z217 st217 hQ217
      subst l217 y217 z217
      obtain ⟨rfl, N217q, kq217, fq217⟩ := hQ217
      have N217 := Fr.app N210 N217q
      have K217 := K216.trans kq217 (allS (Or.inr sz_b216) all0)
      have c219 := (A216.keep kq217)
      have c220 := ((c214.ext E216).keep kq217 (ninS ne_b128_b216 nin0))
      obtain ⟨cq218, kq218, q218a, q218b, q218c⟩ := isOf hZ rfl c219
      obtain ⟨_, _, ⟨T218, L218, k218, n218⟩, -, X218, ⟨Lc218, hQ218, l218, y218, z218⟩, st218⟩ := X217.virtualBack hx (y := (⟨"com/example/hedge/hedge/analysis/IntArrayKey", "hashCode", "()I"⟩ : MethodName)) (z := (⟨"com/example/hedge/hedge/analysis/IntArrayKey", "hashCode", "()I"⟩ : MethodName)) hown (mvT hZ (hw _ (List.mem_of_getElem? (i := 17) rfl))) (mvT hZ (hw _ (List.mem_of_getElem? (i := 18) rfl))) (notFace_of_selects (args := #[]) (mvT hZ (hw _ (List.mem_of_getElem? (i := 20) rfl)))) (mvT hZ (hw _ (List.mem_of_getElem? (i := 20) rfl))) (mvT hZ (hw _ (List.mem_of_getElem? (i := 19) rfl))) (by decide) (backOf (W := 0) (hc3 l Z a0 hw [] b216 b128 k128 p2 p3 p5 T217.heap n0 (Nat.le_trans Z0 K217.1) fq217 c220) hZ (hw _ (List.mem_of_getElem? (i := 21) rfl)) (hw _ (List.mem_of_getElem? (i := 3) rfl)) (by decide) (by decide)) q218a q218c (g := (mkF m 130 #[.val (.int p0), .val (.int p1), .val (.int p2), .val (.int p3), .val (.int p4), .val (.int p5), .val (.int (3 : Int32)), .val (.ref b127), .val (.ref b128), .val (.int v203), .val (.int (own_h3 p2 p3 p4)), .unset] [(.ref b216)])) rfl (by rw [hml]; rfl) (Steps.refl _) (argsL := []) (rest := []) (lenOf pd___I rfl) rfl (by show 2 * 0 + _ ≤ _; exact Nat.le_of_eq rfl) (hb hby at_130) (fun _ _ => ⟨rfl, rfl, (by decide : 4 + 0 ≤ _), (by decide : 8 + 0 ≤ _)⟩)
      dsimp only [Pt.U, Pt.locs, Pt.cells, Pt.slots] at X218 l218 y218 z218 st218 hQ218
      subst l218 y218 z218
      obtain ⟨rfl, N218q, hq218⟩ := hQ218
      have N218 := Fr.app N217 N218q
      have E218 : Ext T217.heap T218.heap := by rw [hq218]; exact ⟨Nat.le_refl _, fun _ _ q => q⟩
      have K218 := K217.ext E218
      obtain ⟨v222, hv222⟩ : ∃ z : Int32, z = if (own_h3 p2 p3 p4) = (own_h3 p2 p3 p5) then (1 : Int32) else (0 : Int32) := ⟨_, rfl⟩
      have mg223 : ∀ t, Steps p.tables e below (T218.setTop (mkF m 147 #[.val (.int p0), .val (.int p1), .val (.int p2), .val (.int p3), .val (.int p4), .val (.int p5), .val (.int (3 : Int32)), .val (.ref b127), .val (.ref b128), .val (.int v203), .val (.int (own_h3 p2 p3 p4)), .val (.int (own_h3 p2 p3 p5))] [(.int v222)])) t → Steps p.tables e below (T218.setTop (mkF m 139 #[.val (.int p0), .val (.int p1), .val (.int p2), .val (.int p3), .val (.int p4), .val (.int p5), .val (.int (3 : Int32)), .val (.ref b127), .val (.ref b128), .val (.int v203), .val (.int (own_h3 p2 p3 p4)), .val (.int (own_h3 p2 p3 p5))] [(.int (own_h3 p2 p3 p5)), (.int (own_h3 p2 p3 p4))])) t := by
        intro t kt
        by_cases hm221 : (own_h3 p2 p3 p4) = (own_h3 p2 p3 p5)
        ·
          have ev222 : v222 = (1 : Int32) := by rw [hv222, if_pos hm221]
          rw [ev222] at kt
          refine (fun t (k : Steps p.tables e below (T218.setTop (mkF m 139 #[.val (.int p0), .val (.int p1), .val (.int p2), .val (.int p3), .val (.int p4), .val (.int p5), .val (.int (3 : Int32)), .val (.ref b127), .val (.ref b128), .val (.int v203), .val (.int (own_h3 p2 p3 p4)), .val (.int (own_h3 p2 p3 p5))] [(.int (own_h3 p2 p3 p5)), (.int (own_h3 p2 p3 p4))])) t) => k) _ ?_
          refine XS.icmpNo X218.here hx rfl (hb hby at_139) rfl (teq hm221).2 ?_
          show Steps p.tables e below (T218.setTop (mkF m 142 #[.val (.int p0), .val (.int p1), .val (.int p2), .val (.int p3), .val (.int p4), .val (.int p5), .val (.int (3 : Int32)), .val (.ref b127), .val (.ref b128), .val (.int v203), .val (.int (own_h3 p2 p3 p4)), .val (.int (own_h3 p2 p3 p5))] [])) _
          refine XS.iconst X218.here hx rfl (hb hby at_142) ?_
          show Steps p.tables e below (T218.setTop (mkF m 143 #[.val (.int p0), .val (.int p1), .val (.int p2), .val (.int p3), .val (.int p4), .val (.int p5), .val (.int (3 : Int32)), .val (.ref b127), .val (.ref b128), .val (.int v203), .val (.int (own_h3 p2 p3 p4)), .val (.int (own_h3 p2 p3 p5))] [(.int (1 : Int32))])) _
          refine XS.goto X218.here hx rfl (pc0 := 143) (pc' := 147) rfl (hb hby at_143) (by decide) (by decide) ?_
          show Steps p.tables e below (T218.setTop (mkF m 147 #[.val (.int p0), .val (.int p1), .val (.int p2), .val (.int p3), .val (.int p4), .val (.int p5), .val (.int (3 : Int32)), .val (.ref b127), .val (.ref b128), .val (.int v203), .val (.int (own_h3 p2 p3 p4)), .val (.int (own_h3 p2 p3 p5))] [(.int (1 : Int32))])) _
          exact kt
        ·
          have ev222 : v222 = (0 : Int32) := by rw [hv222, if_neg hm221]
          rw [ev222] at kt
          refine (fun t (k : Steps p.tables e below (T218.setTop (mkF m 139 #[.val (.int p0), .val (.int p1), .val (.int p2), .val (.int p3), .val (.int p4), .val (.int p5), .val (.int (3 : Int32)), .val (.ref b127), .val (.ref b128), .val (.int v203), .val (.int (own_h3 p2 p3 p4)), .val (.int (own_h3 p2 p3 p5))] [(.int (own_h3 p2 p3 p5)), (.int (own_h3 p2 p3 p4))])) t) => k) _ ?_
          refine XS.icmpYes X218.here hx rfl (pc0 := 139) (pc' := 146) rfl (hb hby at_139) rfl (feq hm221).2 (by decide) (by decide) ?_
          show Steps p.tables e below (T218.setTop (mkF m 146 #[.val (.int p0), .val (.int p1), .val (.int p2), .val (.int p3), .val (.int p4), .val (.int p5), .val (.int (3 : Int32)), .val (.ref b127), .val (.ref b128), .val (.int v203), .val (.int (own_h3 p2 p3 p4)), .val (.int (own_h3 p2 p3 p5))] [])) _
          refine XS.iconst X218.here hx rfl (hb hby at_146) ?_
          show Steps p.tables e below (T218.setTop (mkF m 147 #[.val (.int p0), .val (.int p1), .val (.int p2), .val (.int p3), .val (.int p4), .val (.int p5), .val (.int (3 : Int32)), .val (.ref b127), .val (.ref b128), .val (.int v203), .val (.int (own_h3 p2 p3 p4)), .val (.int (own_h3 p2 p3 p5))] [(.int (0 : Int32))])) _
          exact kt
      have hk224 : v222 = v203 := by rw [hv222, hv203]; exact own_law_3_2 _ _ _ _
      obtain ⟨fs, hr, hrun, hended, hW, hsame⟩ := X218.leave (v := some (.int (1 : Int32))) (fun h => by rw [Bd.returns] at h; cases h)
      refine ⟨_, _, pre149 _ ?_, hrun, hended, _, _, rfl, ?_, ⟨_, rfl⟩, hW, hsame.mono (by decide) (by decide)⟩
      ·
        show Steps p.tables e below (T146.setTop (mkF m 83 #[.val (.int p0), .val (.int p1), .val (.int p2), .val (.int p3), .val (.int p4), .val (.int p5), .val (.int (3 : Int32)), .val (.ref b127), .val (.ref b128), .val (.int (1 : Int32)), .val (.int (2 : Int32)), .unset] [])) _
        refine XS.aload X146.here hx rfl (hb hby at_83) rfl rfl ?_
        show Steps p.tables e below (T146.setTop (mkF m 85 #[.val (.int p0), .val (.int p1), .val (.int p2), .val (.int p3), .val (.int p4), .val (.int p5), .val (.int (3 : Int32)), .val (.ref b127), .val (.ref b128), .val (.int (1 : Int32)), .val (.int (2 : Int32)), .unset] [(.ref b127)])) _
        refine XS.iload X146.here hx rfl (hb hby at_85) rfl ?_
        show Steps p.tables e below (T146.setTop (mkF m 87 #[.val (.int p0), .val (.int p1), .val (.int p2), .val (.int p3), .val (.int p4), .val (.int p5), .val (.int (3 : Int32)), .val (.ref b127), .val (.ref b128), .val (.int (1 : Int32)), .val (.int (2 : Int32)), .unset] [(.int (2 : Int32)), (.ref b127)])) _
        refine X146.iaload hx (j := (2 : Int32)) (v := (.int p4)) (by rw [e146]; exact Aro201.1) (State.isArrayOf_alike hZ.alike Aro201.2.1) Aro201.2.2 hino201 hato201 (g := (mkF m 87 #[.val (.int p0), .val (.int p1), .val (.int p2), .val (.int p3), .val (.int p4), .val (.int p5), .val (.int (3 : Int32)), .val (.ref b127), .val (.ref b128), .val (.int (1 : Int32)), .val (.int (2 : Int32)), .unset] [(.int (2 : Int32)), (.ref b127)])) rfl rfl (hb hby at_87) _ ?_
        show Steps p.tables e below (T146.setTop (mkF m 88 #[.val (.int p0), .val (.int p1), .val (.int p2), .val (.int p3), .val (.int p4), .val (.int p5), .val (.int (3 : Int32)), .val (.ref b127), .val (.ref b128), .val (.int (1 : Int32)), .val (.int (2 : Int32)), .unset] [(.int p4)])) _
        refine XS.iload X146.here hx rfl (hb hby at_88) rfl ?_
        show Steps p.tables e below (T146.setTop (mkF m 90 #[.val (.int p0), .val (.int p1), .val (.int p2), .val (.int p3), .val (.int p4), .val (.int p5), .val (.int (3 : Int32)), .val (.ref b127), .val (.ref b128), .val (.int (1 : Int32)), .val (.int (2 : Int32)), .unset] [(.int p5), (.int p4)])) _
        refine mg204 _ ?_
        show Steps p.tables e below (T146.setTop (mkF m 98 #[.val (.int p0), .val (.int p1), .val (.int p2), .val (.int p3), .val (.int p4), .val (.int p5), .val (.int (3 : Int32)), .val (.ref b127), .val (.ref b128), .val (.int (1 : Int32)), .val (.int (2 : Int32)), .unset] [(.int v203)])) _
        refine XS.istore X146.here hx rfl (hb hby at_98) rfl (l' := #[.val (.int p0), .val (.int p1), .val (.int p2), .val (.int p3), .val (.int p4), .val (.int p5), .val (.int (3 : Int32)), .val (.ref b127), .val (.ref b128), .val (.int v203), .val (.int (2 : Int32)), .unset]) rfl ?_
        show Steps p.tables e below (T146.setTop (mkF m 100 #[.val (.int p0), .val (.int p1), .val (.int p2), .val (.int p3), .val (.int p4), .val (.int p5), .val (.int (3 : Int32)), .val (.ref b127), .val (.ref b128), .val (.int v203), .val (.int (2 : Int32)), .unset] [])) _
        refine XS.aload X146.here hx rfl (hb hby at_100) rfl rfl ?_
        show Steps p.tables e below (T146.setTop (mkF m 102 #[.val (.int p0), .val (.int p1), .val (.int p2), .val (.int p3), .val (.int p4), .val (.int p5), .val (.int (3 : Int32)), .val (.ref b127), .val (.ref b128), .val (.int v203), .val (.int (2 : Int32)), .unset] [(.ref b128)])) _
        refine XS.iload X146.here hx rfl (hb hby at_102) rfl ?_
        show Steps p.tables e below (T146.setTop (mkF m 104 #[.val (.int p0), .val (.int p1), .val (.int p2), .val (.int p3), .val (.int p4), .val (.int p5), .val (.int (3 : Int32)), .val (.ref b127), .val (.ref b128), .val (.int v203), .val (.int (2 : Int32)), .unset] [(.int (2 : Int32)), (.ref b128)])) _
        refine XS.iload X146.here hx rfl (hb hby at_104) rfl ?_
        show Steps p.tables e below (T146.setTop (mkF m 106 #[.val (.int p0), .val (.int p1), .val (.int p2), .val (.int p3), .val (.int p4), .val (.int p5), .val (.int (3 : Int32)), .val (.ref b127), .val (.ref b128), .val (.int v203), .val (.int (2 : Int32)), .unset] [(.int p5), (.int (2 : Int32)), (.ref b128)])) _
        refine st206 _ ?_
        show Steps p.tables e below (T206.setTop (mkF m 107 #[.val (.int p0), .val (.int p1), .val (.int p2), .val (.int p3), .val (.int p4), .val (.int p5), .val (.int (3 : Int32)), .val (.ref b127), .val (.ref b128), .val (.int v203), .val (.int (2 : Int32)), .unset] [])) _
        refine st208 _ ?_
        show Steps p.tables e below (T208.setTop (mkF m 110 #[.val (.int p0), .val (.int p1), .val (.int p2), .val (.int p3), .val (.int p4), .val (.int p5), .val (.int (3 : Int32)), .val (.ref b127), .val (.ref b128), .val (.int v203), .val (.int (2 : Int32)), .unset] [(.ref b208)])) _
        refine XS.dup X208.here hx rfl (hb hby at_110) rfl rfl ?_
        show Steps p.tables e below (T208.setTop (mkF m 111 #[.val (.int p0), .val (.int p1), .val (.int p2), .val (.int p3), .val (.int p4), .val (.int p5), .val (.int (3 : Int32)), .val (.ref b127), .val (.ref b128), .val (.int v203), .val (.int (2 : Int32)), .unset] [(.ref b208), (.ref b208)])) _
        refine XS.aload X208.here hx rfl (hb hby at_111) rfl rfl ?_
        show Steps p.tables e below (T208.setTop (mkF m 113 #[.val (.int p0), .val (.int p1), .val (.int p2), .val (.int p3), .val (.int p4), .val (.int p5), .val (.int (3 : Int32)), .val (.ref b127), .val (.ref b128), .val (.int v203), .val (.int (2 : Int32)), .unset] [(.ref b127), (.ref b208), (.ref b208)])) _
        refine st209.trans ?_
        show Steps p.tables e below (T209.setTop (mkF m 116 #[.val (.int p0), .val (.int p1), .val (.int p2), .val (.int p3), .val (.int p4), .val (.int p5), .val (.int (3 : Int32)), .val (.ref b127), .val (.ref b128), .val (.int v203), .val (.int (2 : Int32)), .unset] [(.ref b208)])) _
        refine st210.trans ?_
        show Steps p.tables e below (T210.setTop (mkF m 119 #[.val (.int p0), .val (.int p1), .val (.int p2), .val (.int p3), .val (.int p4), .val (.int p5), .val (.int (3 : Int32)), .val (.ref b127), .val (.ref b128), .val (.int v203), .val (.int (2 : Int32)), .unset] [(.int (own_h3 p2 p3 p4))])) _
        refine XS.istore X210.here hx rfl (hb hby at_119) rfl (l' := #[.val (.int p0), .val (.int p1), .val (.int p2), .val (.int p3), .val (.int p4), .val (.int p5), .val (.int (3 : Int32)), .val (.ref b127), .val (.ref b128), .val (.int v203), .val (.int (own_h3 p2 p3 p4)), .unset]) rfl ?_
        show Steps p.tables e below (T210.setTop (mkF m 121 #[.val (.int p0), .val (.int p1), .val (.int p2), .val (.int p3), .val (.int p4), .val (.int p5), .val (.int (3 : Int32)), .val (.ref b127), .val (.ref b128), .val (.int v203), .val (.int (own_h3 p2 p3 p4)), .unset] [])) _
        refine st216 _ ?_
        show Steps p.tables e below (T216.setTop (mkF m 124 #[.val (.int p0), .val (.int p1), .val (.int p2), .val (.int p3), .val (.int p4), .val (.int p5), .val (.int (3 : Int32)), .val (.ref b127), .val (.ref b128), .val (.int v203), .val (.int (own_h3 p2 p3 p4)), .unset] [(.ref b216)])) _
        refine XS.dup X216.here hx rfl (hb hby at_124) rfl rfl ?_
        show Steps p.tables e below (T216.setTop (mkF m 125 #[.val (.int p0), .val (.int p1), .val (.int p2), .val (.int p3), .val (.int p4), .val (.int p5), .val (.int (3 : Int32)), .val (.ref b127), .val (.ref b128), .val (.int v203), .val (.int (own_h3 p2 p3 p4)), .unset] [(.ref b216), (.ref b216)])) _
        refine XS.aload X216.here hx rfl (hb hby at_125) rfl rfl ?_
        show Steps p.tables e below (T216.setTop (mkF m 127 #[.val (.int p0), .val (.int p1), .val (.int p2), .val (.int p3), .val (.int p4), .val (.int p5), .val (.int (3 : Int32)), .val (.ref b127), .val (.ref b128), .val (.int v203), .val (.int (own_h3 p2 p3 p4)), .unset] [(.ref b128), (.ref b216), (.ref b216)])) _
        refine st217.trans ?_
        show Steps p.tables e below (T217.setTop (mkF m 130 #[.val (.int p0), .val (.int p1), .val (.int p2), .val (.int p3), .val (.int p4), .val (.int p5), .val (.int (3 : Int32)), .val (.ref b127), .val (.ref b128), .val (.int v203), .val (.int (own_h3 p2 p3 p4)), .unset] [(.ref b216)])) _
        refine st218.trans ?_
        show Steps p.tables e below (T218.setTop (mkF m 133 #[.val (.int p0), .val (.int p1), .val (.int p2), .val (.int p3), .val (.int p4), .val (.int p5), .val (.int (3 : Int32)), .val (.ref b127), .val (.ref b128), .val (.int v203), .val (.int (own_h3 p2 p3 p4)), .unset] [(.int (own_h3 p2 p3 p5))])) _
        refine XS.istore X218.here hx rfl (hb hby at_133) rfl (l' := #[.val (.int p0), .val (.int p1), .val (.int p2), .val (.int p3), .val (.int p4), .val (.int p5), .val (.int (3 : Int32)), .val (.ref b127), .val (.ref b128), .val (.int v203), .val (.int (own_h3 p2 p3 p4)), .val (.int (own_h3 p2 p3 p5))]) rfl ?_
        show Steps p.tables e below (T218.setTop (mkF m 135 #[.val (.int p0), .val (.int p1), .val (.int p2), .val (.int p3), .val (.int p4), .val (.int p5), .val (.int (3 : Int32)), .val (.ref b127), .val (.ref b128), .val (.int v203), .val (.int (own_h3 p2 p3 p4)), .val (.int (own_h3 p2 p3 p5))] [])) _
        refine XS.iload X218.here hx rfl (hb hby at_135) rfl ?_
        show Steps p.tables e below (T218.setTop (mkF m 137 #[.val (.int p0), .val (.int p1), .val (.int p2), .val (.int p3), .val (.int p4), .val (.int p5), .val (.int (3 : Int32)), .val (.ref b127), .val (.ref b128), .val (.int v203), .val (.int (own_h3 p2 p3 p4)), .val (.int (own_h3 p2 p3 p5))] [(.int (own_h3 p2 p3 p4))])) _
        refine XS.iload X218.here hx rfl (hb hby at_137) rfl ?_
        show Steps p.tables e below (T218.setTop (mkF m 139 #[.val (.int p0), .val (.int p1), .val (.int p2), .val (.int p3), .val (.int p4), .val (.int p5), .val (.int (3 : Int32)), .val (.ref b127), .val (.ref b128), .val (.int v203), .val (.int (own_h3 p2 p3 p4)), .val (.int (own_h3 p2 p3 p5))] [(.int (own_h3 p2 p3 p5)), (.int (own_h3 p2 p3 p4))])) _
        refine mg223 _ ?_
        show Steps p.tables e below (T218.setTop (mkF m 147 #[.val (.int p0), .val (.int p1), .val (.int p2), .val (.int p3), .val (.int p4), .val (.int p5), .val (.int (3 : Int32)), .val (.ref b127), .val (.ref b128), .val (.int v203), .val (.int (own_h3 p2 p3 p4)), .val (.int (own_h3 p2 p3 p5))] [(.int v222)])) _
        refine XS.iload X218.here hx rfl (hb hby at_147) rfl ?_
        show Steps p.tables e below (T218.setTop (mkF m 149 #[.val (.int p0), .val (.int p1), .val (.int p2), .val (.int p3), .val (.int p4), .val (.int p5), .val (.int (3 : Int32)), .val (.ref b127), .val (.ref b128), .val (.int v203), .val (.int (own_h3 p2 p3 p4)), .val (.int (own_h3 p2 p3 p5))] [(.int v203), (.int v222)])) _
        refine XS.icmpNo X218.here hx rfl (hb hby at_149) rfl (teq hk224).2 ?_
        show Steps p.tables e below (T218.setTop (mkF m 152 #[.val (.int p0), .val (.int p1), .val (.int p2), .val (.int p3), .val (.int p4), .val (.int p5), .val (.int (3 : Int32)), .val (.ref b127), .val (.ref b128), .val (.int v203), .val (.int (own_h3 p2 p3 p4)), .val (.int (own_h3 p2 p3 p5))] [])) _
        refine XS.iconst X218.here hx rfl (hb hby at_152) ?_
        show Steps p.tables e below (T218.setTop (mkF m 153 #[.val (.int p0), .val (.int p1), .val (.int p2), .val (.int p3), .val (.int p4), .val (.int p5), .val (.int (3 : Int32)), .val (.ref b127), .val (.ref b128), .val (.int v203), .val (.int (own_h3 p2 p3 p4)), .val (.int (own_h3 p2 p3 p5))] [(.int (1 : Int32))])) _
        refine XS.goto X218.here hx rfl (pc0 := 153) (pc' := 157) rfl (hb hby at_153) (by decide) (by decide) ?_
        show Steps p.tables e below (T218.setTop (mkF m 157 #[.val (.int p0), .val (.int p1), .val (.int p2), .val (.int p3), .val (.int p4), .val (.int p5), .val (.int (3 : Int32)), .val (.ref b127), .val (.ref b128), .val (.int v203), .val (.int (own_h3 p2 p3 p4)), .val (.int (own_h3 p2 p3 p5))] [(.int (1 : Int32))])) _
        exact retN X218 hx (t := .boolean) Bd.returns (by simp) (hb hby at_157) hr
      ·
        show Q0 Z p0 p1 p2 p3 p4 p5 h0 n0 _ T218.heap _
        exact ⟨rfl, N218⟩
set_option maxRecDepth 65536 in
set_option maxHeartbeats 40000000 in
theorem comes_1 {Post : Tables → Env → Array Value → State → Outcome → State → Prop} (hpost : ∀ tb e args s v u, (limb_1_1.after args s (.returned v) u = true ∧ limb_1_2.after args s (.returned v) u = true ∧ True) → FrameEnd s (.returned v) u (Jvm.fieldLocs frame_1_writes args s ++ Jvm.arrayLocs frame_1_arrays args s ++ Jvm.staticLocs frame_1_statics s) 16 128 → Post tb e args s (.returned v) u) :
    ArmFor flags0 classFile x code maxLocals ret World_1 tables_1 room_1 Calls_1 rest_1 Pre_1 Post := by
  intro l hfl _ _ p e ha hc hk s m args below hf hA hF happ hP
  obtain ⟨hcalls, hrest, hpre⟩ := hP
  obtain ⟨-, -, -, hnamed, -, -, -, hat⟩ := (Spec.applies_iff hf).mp happ
  obtain ⟨hg, hn⟩ := and_e (Cond.before_iff.mp (show (Jvm.Cond.and given_1 narrow_1).before args s = true from hpre))
  obtain ⟨g1, g2⟩ := and_e hg
  obtain ⟨g3, g4⟩ := and_e g2
  obtain ⟨g5, g6⟩ := and_e g4
  obtain ⟨g7, g8⟩ := and_e g6
  obtain ⟨g9, g10⟩ := and_e g8
  obtain ⟨g11, g12⟩ := and_e g10
  obtain ⟨w0, w1, w2, w3, w4, w5, rfl⟩ : ∃ w0 w1 w2 w3 w4 w5 : Value, args = #[w0, w1, w2, w3, w4, w5] := by
    have hs : args.size = 6 := by simpa [Cond.value, given_1] using g1
    obtain ⟨L⟩ := args
    match L, hs with
    | [w0, w1, w2, w3, w4, w5], _ => exact ⟨w0, w1, w2, w3, w4, w5, rfl⟩
  have hw := fun d (hd : d ∈ tables_1) => atoms_spec (ws := Jvm.Cond.code x code maxLocals ret :: tables_1) hat d (List.mem_cons_of_mem _ hd)
  have hfit : Fit s := fun {y c} hc i hi => by
    obtain ⟨ha, rfl⟩ := Array.getElem?_eq_some_iff.mp hc
    have q := List.all_eq_true.mp ((Array.all_eq_true_iff_forall_mem.mp hF) _ (Array.getElem_mem ha)) i (List.mem_range.mpr hi)
    simpa [Array.getElem?_eq_getElem hi] using q
  obtain ⟨i0, ei0⟩ := is_v g3
  obtain rfl : w0 = (.int i0) := Option.some.inj ei0
  obtain ⟨i1, ei1⟩ := is_v g5
  obtain rfl : w1 = (.int i1) := Option.some.inj ei1
  obtain ⟨i2, ei2⟩ := is_v g7
  obtain rfl : w2 = (.int i2) := Option.some.inj ei2
  obtain ⟨i3, ei3⟩ := is_v g9
  obtain rfl : w3 = (.int i3) := Option.some.inj ei3
  obtain ⟨i4, ei4⟩ := is_v g11
  obtain rfl : w4 = (.int i4) := Option.some.inj ei4
  obtain ⟨i5, ei5⟩ := is_v g12
  obtain rfl : w5 = (.int i5) := Option.some.inj ei5
  obtain ⟨n, o, h1, h2, h3, _, L, rfl, ⟨rfl, N⟩, hq⟩ := rm0 l s _ hw tables_1 i0 i1 i2 i3 i4 i5 s.heap s.heap.size (Nat.le_refl _) p e ha hc hk s m _ below hf ((Spec.applies_iff_loose hf).mp happ).1 ⟨rfl, State.Warmed39.refl s, rfl⟩ trivial
  refine ⟨n, _, h1, h2, h3, hpost _ _ _ _ _ _ ⟨Cond.after_iff.mpr rfl, Cond.after_iff.mpr (eq_i res_at (Term.int_eval (1)) rfl), trivial⟩ ⟨hq.1, hq.2.1, (hq.2.2.sift fun y hy => Or.inr (N y hy)).mono (by decide) (by decide)⟩⟩
theorem main_1_1 : Claimed_1_1 := comes_1 fun _ _ _ _ _ _ h hF => ⟨h.1, hF⟩
theorem main_1_2 : Claimed_1_2 := comes_1 fun _ _ _ _ _ _ h hF => ⟨h.2.1, hF⟩
end Jvm.Pilot.@@N@@
namespace Jvm.Pilot.@@N@@
open Jvm Jvm.ClassFile Sem Op Lib Jvm.Free Jvm.Stand Jvm.Pilot.@@N@@.Jvm.D
/-! MADE BY PROGRAM (witnessworld.py) out of the Statement's table words and the real class files: 10 classes; the members and pool entries that the words name. The judged class is class 1, her method 1. -/
namespace start1
open Jvm.ClassFile
def u (s : String) : CpInfo := .utf8 (stringToUtf16 s)
/-- a pool by its gaps: so many unusable entries, then the entry; so many at the end -/
def gap : Nat → List CpInfo → List CpInfo
  | 0, r => r
  | n + 1, r => .unusable :: gap n r
def poolList (es : List (Nat × CpInfo)) (last : Nat) : List CpInfo := es.foldr (fun e r => gap e.1 (e.2 :: r)) (gap last [])
def pool (es : List (Nat × CpInfo)) (last : Nat) : Array CpInfo := ⟨poolList es last⟩
def fileOf (pool : Array CpInfo) (this : Nat) (attrs : Array Attribute := #[]) (ms : Array MethodInfo := #[]) (fl : Nat := 33) (sup : Nat := 0) (ifs : Array Nat := #[]) (fds : Array FieldInfo := #[]) : ClassFile where
  minorVersion := 0
  majorVersion := 65
  constantPool := pool
  accessFlags := fl
  thisClass := this
  superClass := sup
  interfaces := ifs
  fields := fds
  methods := ms
  attributes := attrs
def plain (name : String) (sup : Option ClassId) : Class where
  name := name
  kind := .ordinary
  loader := none
  accessFlags := 33
  super := sup
  interfaces := #[]
  cf := none
  fields := #[]
  methods := #[]
  instanceTypes := #[]
  staticTypes := #[]
  resolved := #[]
  callSites := []
  init := .initialized
  statics := none
  mirror := none

def pool0 : Array CpInfo := pool [(5, u "<init>"), (0, u "()V"), (1, .class_ 10), (1, u "java/lang/Object")] 113

def k0c0 : Code := { maxStack := 0, maxLocals := 1, code := object_method_1_code, exceptionTable := #[], attributes := #[] }
def k0m0 : Method := { name := "<init>", desc := "()V", sig := { parameters := [], returnType := none }, accessFlags := 1, code := some k0c0 }
/-- java/lang/Object -/
def k0 : Class := { plain "java/lang/Object" none with
  accessFlags := 33
  interfaces := #[]
  cf := some (fileOf pool0 8 #[] #[{ accessFlags := 1, nameIndex := 5, descriptorIndex := 6, attributes := #[] }] 33 0 #[] #[])
  fields := #[]
  methods := #[k0m0]
  instanceTypes := #[]
  staticTypes := #[]
  resolved := Array.replicate 124 none
  statics := none }

def pool1 : Array CpInfo := pool [(2, .class_ 4), (1, u "java/lang/Object"), (0, u "<init>"), (0, u "()V"), (0, .integer 2147483647), (0, .class_ 9), (0, u "com/example/hedge/hedge/analysis/IntArrayKey"), (0, .methodref 8 11), (0, .nameAndType 5 12), (0, u "([I)V"), (0, .methodref 8 14), (0, .nameAndType 15 16), (0, u "hashCode"), (0, u "()I"), (0, .class_ 18), (0, u "com/example/hedge/hedge/analysis/IntArrayKeyHashCodePinLaw"), (2, u "law"), (0, u "(IIIIII)Z")] 5

def k1m0 : Method := { name := "<init>", desc := "()V", sig := { parameters := [], returnType := none }, accessFlags := 1, code := none }
def k1c1 : Code := { maxStack := 3, maxLocals := 12, code := code, exceptionTable := #[], attributes := #[] }
def k1m1 : Method := { name := "law", desc := "(IIIIII)Z", sig := { parameters := [.int, .int, .int, .int, .int, .int], returnType := some .boolean }, accessFlags := 9, code := some k1c1 }
/-- com/example/hedge/hedge/analysis/IntArrayKeyHashCodePinLaw -/
def k1 : Class := { plain "com/example/hedge/hedge/analysis/IntArrayKeyHashCodePinLaw" (some 0) with
  accessFlags := 49
  interfaces := #[]
  cf := some (fileOf pool1 17 #[] #[{ accessFlags := 1, nameIndex := 5, descriptorIndex := 6, attributes := #[] }, { accessFlags := 9, nameIndex := 21, descriptorIndex := 22, attributes := #[] }] 49 2 #[] #[])
  fields := #[]
  methods := #[k1m0, k1m1]
  instanceTypes := #[]
  staticTypes := #[]
  resolved := Array.replicate 28 none
  statics := none }

def pool2 : Array CpInfo := pool [(1, .methodref 2 3), (0, .class_ 4), (0, .nameAndType 5 6), (0, u "java/lang/Object"), (0, u "<init>"), (0, u "()V"), (0, .class_ 8), (0, u "java/lang/Record")] 13

def k2c0 : Code := { maxStack := 1, maxLocals := 1, code := jdk_30_method_1_code, exceptionTable := #[], attributes := #[] }
def k2m0 : Method := { name := "<init>", desc := "()V", sig := { parameters := [], returnType := none }, accessFlags := 4, code := some k2c0 }
/-- java/lang/Record -/
def k2 : Class := { plain "java/lang/Record" (some 0) with
  accessFlags := 1057
  interfaces := #[]
  cf := some (fileOf pool2 7 #[] #[{ accessFlags := 4, nameIndex := 5, descriptorIndex := 6, attributes := #[] }] 1057 2 #[] #[])
  fields := #[]
  methods := #[k2m0]
  instanceTypes := #[]
  staticTypes := #[]
  resolved := Array.replicate 22 none
  statics := none }

def pool3 : Array CpInfo := pool [(1, .methodref 2 3), (0, .class_ 4), (0, .nameAndType 5 6), (0, u "java/lang/Record"), (0, u "<init>"), (0, u "()V"), (0, .fieldref 8 9), (0, .class_ 10), (0, .nameAndType 11 12), (0, u "com/example/hedge/hedge/analysis/IntArrayKey"), (0, u "values"), (0, u "[I"), (6, .integer 2654435769), (4, u "([I)V"), (5, u "hashCode"), (0, u "()I")] 22

def k3c0 : Code := { maxStack := 2, maxLocals := 2, code := prog_49_method_1_code, exceptionTable := #[], attributes := #[] }
def k3m0 : Method := { name := "<init>", desc := "([I)V", sig := { parameters := [(.array .int)], returnType := none }, accessFlags := 0, code := some k3c0 }
def k3c1 : Code := { maxStack := 3, maxLocals := 6, code := prog_49_method_3_code, exceptionTable := #[], attributes := #[] }
def k3m1 : Method := { name := "hashCode", desc := "()I", sig := { parameters := [], returnType := some .int }, accessFlags := 1, code := some k3c1 }
/-- com/example/hedge/hedge/analysis/IntArrayKey -/
def k3 : Class := { plain "com/example/hedge/hedge/analysis/IntArrayKey" (some 2) with
  accessFlags := 48
  interfaces := #[]
  cf := some (fileOf pool3 8 #[] #[{ accessFlags := 0, nameIndex := 5, descriptorIndex := 24, attributes := #[] }, { accessFlags := 1, nameIndex := 30, descriptorIndex := 31, attributes := #[] }] 48 2 #[] #[{ accessFlags := 18, nameIndex := 11, descriptorIndex := 12, attributes := #[] }])
  fields := #[{ name := "values", type := (.array .int), accessFlags := 18, slot := 0, constantValue := 0 }]
  methods := #[k3m0, k3m1]
  instanceTypes := #[(.array .int)]
  staticTypes := #[]
  resolved := Array.replicate 54 none
  statics := none }

def pool4 : Array CpInfo := pool [(1, u "java/lang/Cloneable"), (0, .class_ 1), (0, u "java/lang/Object"), (0, .class_ 3)] 3

/-- java/lang/Cloneable -/
def k4 : Class := { plain "java/lang/Cloneable" (some 0) with
  accessFlags := 1537
  interfaces := #[]
  cf := some (fileOf pool4 2 #[] #[] 1537 4 #[] #[])
  fields := #[]
  methods := #[]
  instanceTypes := #[]
  staticTypes := #[]
  resolved := Array.replicate 8 none
  statics := none }

def pool5 : Array CpInfo := pool [(1, u "java/io/Serializable"), (0, .class_ 1), (0, u "java/lang/Object"), (0, .class_ 3)] 3

/-- java/io/Serializable -/
def k5 : Class := { plain "java/io/Serializable" (some 0) with
  accessFlags := 1537
  interfaces := #[]
  cf := some (fileOf pool5 2 #[] #[] 1537 4 #[] #[])
  fields := #[]
  methods := #[]
  instanceTypes := #[]
  staticTypes := #[]
  resolved := Array.replicate 8 none
  statics := none }

/-- the primitive byte -/
def k6 : Class := { plain "byte" none with kind := .primitive 'B', accessFlags := 0x411 }
/-- [B -/
def k7 : Class := { plain "[B" (some 0) with kind := .array 6 .byte, interfaces := #[4, 5], accessFlags := 1041 }

/-- the primitive int -/
def k8 : Class := { plain "int" none with kind := .primitive 'I', accessFlags := 0x411 }
/-- [I -/
def k9 : Class := { plain "[I" (some 0) with kind := .array 8 .int, interfaces := #[4, 5], accessFlags := 1041 }

def heap : Heap := #[]
def classes : Array Class := #[k0, k1, k2, k3, k4, k5, k6, k7, k8, k9]
def interned : List (Array UInt16 × Addr) := []
def slotsUsed : Nat := 0
def theMethod : MethodId := ⟨1, 1⟩
def args0 : Array Value := #[.int 2, .int 1, .int 3, .int 4, .int 5, .int 6]
def aboutOver (below : List Frame) : State where
  vm := { classes := classes, interned := interned.toArray }
  heap := heap
  slotsUsed := slotsUsed
  threads := #[{ frames := .invoking theMethod args0 :: below }]
def below0 : List Frame := [.native { method := ⟨0, 0⟩, args := #[] }]
def about1 : State := aboutOver below0
def p0 : Program := .bare "" "" ""
def e0 : Env := launch0.env 0 0 0
theorem w_frames : about1.frames = Frame.invoking theMethod args0 :: below0 := rfl
set_option maxRecDepth 65536 in
theorem w_args : argsFit about1.vm theMethod args0 = true := by decide +kernel
set_option maxRecDepth 65536 in
theorem w_heap : heapFits about1 = true := by decide +kernel
set_option maxRecDepth 65536 in
theorem w_runnable : about1.curStatus? = some .runnable := by decide +kernel
set_option maxRecDepth 65536 in
theorem w_alone : about1.alone = true := by decide +kernel
set_option maxRecDepth 65536 in
theorem w_named : about1.methodNamed? x = some theMethod := by decide +kernel
set_option maxRecDepth 65536 in
theorem w_hears : about1.hears theMethod below0 = true := by decide +kernel
set_option maxRecDepth 65536 in
theorem w_ripe : about1.ripe theMethod args0 below0 = true := by decide +kernel
theorem w_running : about1.status = .running := rfl
set_option maxRecDepth 65536 in
theorem w_room : about1.hasRoom e0.platform room_1 = true :=
  launch0.hasRoom_least _ room_1 (by decide +kernel) (by decide +kernel) (by decide +kernel) (by decide +kernel) (by decide +kernel) (by decide +kernel)
theorem allAtoms_all (ts : List Jvm.Cond) (a : Array Jvm.Value) (st : Jvm.State) : (allAtoms ts).before a st = ts.all (fun c => c.before a st) := by
  induction ts with
  | nil => rfl
  | cons c t ih =>
    show (Jvm.Cond.and c (allAtoms t)).before a st = _
    rw [Jvm.Cond.before_and, ih, List.all_cons]
def words1 : List Jvm.Cond := Jvm.Cond.code x code maxLocals ret :: tables_1
/-- a 'code' word, met by the world's own term for the bytes: nothing is compared byte by byte -/
theorem code_word {y : MethodName} {bytes : ByteArray} {mx : Nat} {rt : Option FieldType} {a : Array Value} {s : State} {m : MethodId} {meth : Method} {c : Code} (h1 : s.methodNamed? y = some m) (h2 : s.vm.method? m = some meth) (h3 : meth.code = some c) (h4 : c.code = bytes)
    (h5 : (c.maxLocals == mx && c.exceptionTable.isEmpty && decide (c.maxStack ≤ mostOperands) && decide (meth.sig.returnType = rt) && !meth.locks && decide (parseMethodDescriptor y.desc = some meth.sig)) = true) : (Jvm.Cond.code y bytes mx rt).before a s = true := by
  simp only [Bool.and_eq_true, beq_iff_eq, Bool.not_eq_true', decide_eq_true_eq] at h5
  obtain ⟨⟨⟨⟨⟨g1, g2⟩, g3⟩, g4⟩, g5⟩, g6⟩ := h5
  simp [Cond.before, Cond.holds, Cond.value, h1, h2, h3, h4, g1, g2, g3, g4, g5, g6]
def isCode : Jvm.Cond → Bool
  | .code _ _ _ _ => true
  | _ => false
theorem all_split {L : List Jvm.Cond} {P : Jvm.Cond → Bool} (h1 : L.all (fun c => isCode c || P c) = true) (h2 : ∀ c ∈ L.filter isCode, P c = true) : L.all P = true := by
  refine List.all_eq_true.mpr fun c hc => ?_
  have h := List.all_eq_true.mp h1 c hc
  rcases Bool.eq_false_or_eq_true (isCode c) with hi | hi
  · exact h2 c (List.mem_filter.mpr ⟨hc, hi⟩)
  · simpa [hi] using h
set_option maxRecDepth 65536 in
theorem w_c0 : (Jvm.Cond.code x code maxLocals ret).before args0 about1 = true := code_word (m := ⟨1, 1⟩) (meth := k1m1) (c := k1c1) (by decide +kernel) rfl rfl rfl (by decide +kernel)
set_option maxRecDepth 65536 in
theorem w_c1 : (Jvm.Cond.code ({ cls := "com/example/hedge/hedge/analysis/IntArrayKey", name := "<init>", desc := "([I)V" } : Jvm.MethodName) prog_49_method_1_code (2 : Nat) (Option.none : Option Jvm.ClassFile.FieldType)).before args0 about1 = true := code_word (m := ⟨3, 0⟩) (meth := k3m0) (c := k3c0) (by decide +kernel) rfl rfl rfl (by decide +kernel)
set_option maxRecDepth 65536 in
theorem w_c2 : (Jvm.Cond.code ({ cls := "java/lang/Record", name := "<init>", desc := "()V" } : Jvm.MethodName) jdk_30_method_1_code (1 : Nat) (Option.none : Option Jvm.ClassFile.FieldType)).before args0 about1 = true := code_word (m := ⟨2, 0⟩) (meth := k2m0) (c := k2c0) (by decide +kernel) rfl rfl rfl (by decide +kernel)
set_option maxRecDepth 65536 in
theorem w_c3 : (Jvm.Cond.code ({ cls := "java/lang/Object", name := "<init>", desc := "()V" } : Jvm.MethodName) object_method_1_code (1 : Nat) (Option.none : Option Jvm.ClassFile.FieldType)).before args0 about1 = true := code_word (m := ⟨0, 0⟩) (meth := k0m0) (c := k0c0) (by decide +kernel) rfl rfl rfl (by decide +kernel)
set_option maxRecDepth 65536 in
theorem w_c4 : (Jvm.Cond.code ({ cls := "com/example/hedge/hedge/analysis/IntArrayKey", name := "hashCode", desc := "()I" } : Jvm.MethodName) prog_49_method_3_code (6 : Nat) (Option.some Jvm.ClassFile.FieldType.int)).before args0 about1 = true := code_word (m := ⟨3, 1⟩) (meth := k3m1) (c := k3c1) (by decide +kernel) rfl rfl rfl (by decide +kernel)
def codes1 : List Jvm.Cond := [Jvm.Cond.code x code maxLocals ret, Jvm.Cond.code ({ cls := "com/example/hedge/hedge/analysis/IntArrayKey", name := "<init>", desc := "([I)V" } : Jvm.MethodName) prog_49_method_1_code (2 : Nat) (Option.none : Option Jvm.ClassFile.FieldType), Jvm.Cond.code ({ cls := "java/lang/Record", name := "<init>", desc := "()V" } : Jvm.MethodName) jdk_30_method_1_code (1 : Nat) (Option.none : Option Jvm.ClassFile.FieldType), Jvm.Cond.code ({ cls := "java/lang/Object", name := "<init>", desc := "()V" } : Jvm.MethodName) object_method_1_code (1 : Nat) (Option.none : Option Jvm.ClassFile.FieldType), Jvm.Cond.code ({ cls := "com/example/hedge/hedge/analysis/IntArrayKey", name := "hashCode", desc := "()I" } : Jvm.MethodName) prog_49_method_3_code (6 : Nat) (Option.some Jvm.ClassFile.FieldType.int)]
set_option maxRecDepth 65536 in
theorem codes_eq : words1.filter isCode = codes1 := rfl
theorem w_codes : ∀ c ∈ words1.filter isCode, c.before args0 about1 = true := by
  rw [codes_eq]
  intro c hc
  simp only [codes1, List.mem_cons, List.not_mem_nil, or_false] at hc
  rcases hc with rfl | rfl | rfl | rfl | rfl
  · exact w_c0
  · exact w_c1
  · exact w_c2
  · exact w_c3
  · exact w_c4
set_option maxRecDepth 65536 in
theorem w_t1 : (words1.take 24).all (fun c => isCode c || c.before args0 about1) = true := by decide +kernel
set_option maxRecDepth 65536 in
theorem w_t2 : (words1.drop 24).all (fun c => isCode c || c.before args0 about1) = true := by decide +kernel
theorem w_tables : (allAtoms (Jvm.Cond.code x code maxLocals ret :: tables_1)).before args0 about1 = true := by
  rw [allAtoms_all]
  show words1.all (fun c => c.before args0 about1) = true
  refine all_split ?_ w_codes
  rw [← List.take_append_drop 24 words1, List.all_append, w_t1, w_t2]
  rfl
set_option maxRecDepth 65536 in
theorem w_case : (Jvm.Cond.and given_1 narrow_1).before args0 about1 = true := by decide +kernel
theorem w_applies : (headSpec (Jvm.Cond.code x code maxLocals ret :: tables_1) room_1).applies x e0.platform about1 = true :=
  (Spec.applies_iff w_frames).mpr ⟨w_running, w_runnable, w_alone, w_named, w_hears, w_ripe, w_room, w_tables⟩
theorem atStart : AtStart classFile x code maxLocals ret World_1 tables_1 room_1 Calls_1 rest_1 Pre_1 launch0 p0 e0 about1 theMethod args0 below0 :=
  ⟨lists_1, trivial, launch0.admits_env _ _ _, launch0.least_env, fairChoices_fair.cas, fairChoices_fair.clock, w_frames, w_args, w_heap, w_applies, trivial, trivial, w_case⟩
end start1
theorem witness_1 : WitnessClaimed_1 := ⟨start1.p0, start1.e0, start1.about1, start1.theMethod, start1.args0, start1.below0, start1.atStart⟩
end Jvm.Pilot.@@N@@
