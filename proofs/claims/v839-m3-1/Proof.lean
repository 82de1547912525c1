import JvmDerived
import JvmDerived.Pilot.@@N@@Statement
import JvmDerived.Pilot.@@N@@Code
set_option linter.unusedVariables false
set_option linter.unusedSimpArgs false
namespace Jvm.RoadKit
open Sem ClassFile Op Lib Jvm.Stand Jvm.Free Jvm.LawKit
section New
variable {p : Program} {l : Launch} {e : Env} {R : Room} {s : State} {m : MethodId} {args : Array Value} {below : List Frame} {meth : Method} {c : Code} {T : State} {locs : List Loc} {cells slots : Nat}
theorem retI (X : Stand p l e R s m args below meth c T locs cells slots) (hx : p.tables.exec = Jvm.exec) {pc : Nat} {Ls : Array Slot} {z : Int32} {rest : List Value} (hret : meth.sig.returnType = some .int) (hd : decode c.code pc = .ok (.ireturn, 1)) {fs : List Frame}
    (hl : ∀ (f : JFrame) (acts : List Action), f.method = m → f.locked = none → f.entered = [] → (doReturn e (T.setTop f) acts (some (.int z))).1 = T.setFrames fs) : Steps p.tables e below (T.setTop (mkF m pc Ls (.int z :: rest))) (T.setFrames fs) := by
  have hm' : T.vm.method? m = some meth := X.method'
  have hn : narrow .int (.int z) = .int z := rfl
  show Steps p.tables e below (T.setTop { method := m, pc := pc, locals := Ls, stack := _ :: rest, locked := none }) _
  jvm_step X.here [X.here.top, hx, hd, hm', hret, hn]
  first | (intro acts; rw [hl _ acts rfl rfl rfl]) | rw [hl _ _ rfl rfl rfl]
  exact Steps.refl _
end New
end Jvm.RoadKit
namespace Jvm.Pilot.@@N@@
open Jvm Jvm.ClassFile Sem Op Lib Jvm.Free Jvm.Stand Jvm.LawKit Jvm.RoadKit Bundle Jvm.Pilot.@@N@@.Jvm.D
theorem own_hide {p : Program} {l : Launch} {e : Env} {R : Room} {s : State} {m : MethodId} {args : Array Value} {below : List Frame} {meth : Method} {c : Code} {T : State} {locs : List Loc} {cells slots n0 C S : Nat} (X : Stand p l e R s m args below meth c T locs cells slots) (N : Fr n0 locs) (h1 : cells ≤ C) (h2 : slots ≤ S) :
    ∃ locs', Stand p l e R s m args below meth c T locs' C S ∧ Fr n0 locs' := ⟨locs, X.more h1 h2, N⟩
theorem own_sel {s : State} {args : Array Value} {y : MethodName} {n : Nat} (wi : (Cond.instantiable y.cls n).before args s = true) (hpriv : s.PrivateAt y) (hinst : (Cond.instanceMethod y).before args s = true) (hy : y.cls ≠ "java/lang/invoke/MethodHandle" ∧ y.cls ≠ "java/lang/invoke/VarHandle") : (Cond.selects y.cls y y).before args s = true := by
  obtain ⟨c, k, h1, h2, -, h4, -⟩ := Cond.instantiable_spec wi
  exact selects_self_of_private h1 h2 (by cases q : k.isInterface <;> simp [q] at h4 ⊢) hpriv hinst hy
/-- every place of the list holds an int -/
def own_ints (vs : List Value) : Prop := ∀ i, ∃ x, vs.getD i (.int (0 : Int32)) = .int x
def own_longs (vs : List Value) : Prop := ∀ i, ∃ x, vs.getD i (.long (0 : Int64)) = .long x
/-- at most c of the 512 slots are taken -/
def own_occ (c : Nat) (vs : List Value) : Prop := ∃ l : List Nat, l.length ≤ c ∧ ∀ s : Nat, s < 512 → s ∉ l → vs.getD (2 * s) (.long (0 : Int64)) = .long 0
theorem own_ints_rep (n : Nat) (x : Int32) : own_ints (List.replicate n (.int x)) := fun i => by
  rw [List.getD_eq_getElem?_getD, List.getElem?_replicate]
  by_cases h : i < n
  · rw [if_pos h]; exact ⟨x, rfl⟩
  · rw [if_neg h]; exact ⟨0, rfl⟩
theorem own_longs_rep (n : Nat) : own_longs (List.replicate n (.long 0)) := fun i => by
  rw [List.getD_eq_getElem?_getD, List.getElem?_replicate]
  by_cases h : i < n
  · rw [if_pos h]; exact ⟨0, rfl⟩
  · rw [if_neg h]; exact ⟨0, rfl⟩
theorem own_occ_rep (n : Nat) : own_occ 0 (List.replicate n (.long 0)) := ⟨[], Nat.le_refl _, fun s _ _ => by
  rw [List.getD_eq_getElem?_getD, List.getElem?_replicate]
  by_cases h : 2 * s < n
  · rw [if_pos h]; rfl
  · rw [if_neg h]; rfl⟩
theorem own_longs_set {vs : List Value} (h : own_longs vs) (i : Nat) (x : Int64) : own_longs (vs.set i (.long x)) := fun j => by
  rw [List.getD_eq_getElem?_getD, List.getElem?_set]
  by_cases e : i = j
  · rw [if_pos e]
    by_cases l : i < vs.length
    · rw [if_pos l]; exact ⟨x, rfl⟩
    · rw [if_neg l]; exact ⟨0, rfl⟩
  · rw [if_neg e, ← List.getD_eq_getElem?_getD]; exact h j
theorem own_occ_set {c : Nat} {vs : List Value} (h : own_occ c vs) (S : Nat) (x y : Int64) : own_occ (c + 1) ((vs.set (2 * S) (.long x)).set (2 * S + 1) (.long y)) := by
  obtain ⟨l, h1, h2⟩ := h
  refine ⟨S :: l, by simpa using h1, fun s hs hn => ?_⟩
  have n1 : s ≠ S := fun q => hn (by simp [q])
  have n2 : s ∉ l := fun q => hn (by simp [q])
  rw [List.getD_eq_getElem?_getD, List.getElem?_set_ne (by omega), List.getElem?_set_ne (by omega), ← List.getD_eq_getElem?_getD]
  exact h2 s hs n2
theorem own_occ_le {c d : Nat} (h : c ≤ d) {vs : List Value} (q : own_occ c vs) : own_occ d vs := by
  obtain ⟨l, h1, h2⟩ := q; exact ⟨l, Nat.le_trans h1 h, h2⟩
/-- the place of the list as a long -/
def own_vat (vs : List Value) (i : Nat) : Int64 := match vs.getD i (.long (0 : Int64)) with | .long x => x | _ => 0
theorem own_vat_get {vs : List Value} (h : own_longs vs) (i : Nat) : vs.getD i (.long (0 : Int64)) = .long (own_vat vs i) := by
  obtain ⟨x, q⟩ := h i
  unfold own_vat; rw [q]
def own_nx (S : Nat) : Nat := (S + 1) % 512
theorem own_nx_lt (S : Nat) : own_nx S < 512 := Nat.mod_lt _ (by decide)
set_option maxRecDepth 65536 in
theorem own_nx_fin : ∀ S : Fin 512, (Int32.ofNat S.val + 1) &&& 511 = Int32.ofNat (own_nx S.val) := by decide +kernel
set_option maxRecDepth 65536 in
theorem own_two_fin : ∀ S : Fin 512, ((2 : Int32) * Int32.ofNat S.val).toNatClampNeg = 2 * S.val ∧ ¬ ((2 : Int32) * Int32.ofNat S.val) < 0 ∧ ((2 : Int32) * Int32.ofNat S.val) < 1024 := by decide +kernel
set_option maxRecDepth 65536 in
theorem own_two1_fin : ∀ S : Fin 512, (((2 : Int32) * Int32.ofNat S.val) + 1).toNatClampNeg = 2 * S.val + 1 ∧ ¬ (((2 : Int32) * Int32.ofNat S.val) + 1) < 0 ∧ (((2 : Int32) * Int32.ofNat S.val) + 1) < 1024 := by decide +kernel
theorem own_s511 {v x : Int32} (h : v = x &&& 511) : ∃ S : Nat, S < 512 ∧ v = Int32.ofNat S := by
  refine ⟨(x &&& 511).toBitVec.toNat, ?_, ?_⟩
  · rw [Int32.toBitVec_and, BitVec.toNat_and]
    exact Nat.lt_succ_of_le Nat.and_le_right
  · rw [h]
    apply Int32.toBitVec_inj.mp
    show _ = BitVec.ofNat 32 _
    rw [BitVec.ofNat_toNat]; simp
theorem own_occ3 {vs : List Value} (h : own_occ 2 vs) {S : Nat} (hS : S < 512) (h0 : ¬ own_vat vs (2 * S) = 0) (h1 : ¬ own_vat vs (2 * own_nx S) = 0) : own_vat vs (2 * own_nx (own_nx S)) = 0 := by
  obtain ⟨l, hl, q⟩ := h
  have z : ∀ s, s < 512 → ¬ own_vat vs (2 * s) = 0 → s ∈ l := fun s hs hn => Classical.byContradiction fun m => hn (by unfold own_vat; rw [q s hs m])
  have a := z _ hS h0
  have b := z _ (own_nx_lt S) h1
  refine Classical.byContradiction fun n => ?_
  have c := z _ (own_nx_lt _) n
  have e1 : S ≠ own_nx S := by unfold own_nx; omega
  have e2 : own_nx S ≠ own_nx (own_nx S) := by unfold own_nx; omega
  have e3 : S ≠ own_nx (own_nx S) := by unfold own_nx; omega
  match l, hl with
  | [], _ => cases a
  | [u], _ => simp only [List.mem_singleton] at a b; exact e1 (a.trans b.symm)
  | [u, v], _ =>
    simp only [List.mem_cons, List.not_mem_nil, or_false] at a b c
    omega
theorem own_cat_len {vb us : List Value} {d n : Nat} (h1 : vb.length = 4096) (h2 : us.length = n) (h3 : d + n ≤ 4096) : (vb.take d ++ us ++ vb.drop (d + n)).length = 4096 := by
  simp [h1, h2]; omega
def own_in (p : Int32) (k : Int) : Prop := 0 ≤ p.toInt ∧ p.toInt ≤ k
theorem own_ib {p i n : Int32} (hp : own_in p 15) (hn : own_in n 16) (h0 : 0 ≤ i.toInt) (h1 : i < n) : ¬ (p + i) < 0 ∧ (p + i) < 32 := by
  unfold own_in at hp hn
  rw [Int32.lt_iff_toInt_lt] at h1
  have e : (p + i).toInt = p.toInt + i.toInt := by rw [Int32.toInt_add]; apply Int.bmod_eq_of_le <;> omega
  rw [Int32.lt_iff_toInt_lt, Int32.lt_iff_toInt_lt, e]
  have z : (0 : Int32).toInt = 0 := rfl
  have y : (32 : Int32).toInt = 32 := rfl
  omega
theorem own_add {p n : Int32} {a b : Int} (hp : own_in p a) (hn : own_in n b) (h : a + b < 1000000) : own_in (p + n) (a + b) ∧ (p + n).toInt = p.toInt + n.toInt := by
  unfold own_in at *
  have e : (p + n).toInt = p.toInt + n.toInt := by rw [Int32.toInt_add]; apply Int.bmod_eq_of_le <;> omega
  rw [e]; omega
theorem own_inc {i : Int32} (h0 : 0 ≤ i.toInt) (h1 : i.toInt < 1000000) : (i + 1).toInt = i.toInt + 1 := by
  have o : (1 : Int32).toInt = 1 := rfl
  rw [Int32.toInt_add, o]; apply Int.bmod_eq_of_le <;> omega
theorem own_nlt {i n : Int32} (h : n.toInt ≤ i.toInt) : ¬ i < n := by rw [Int32.lt_iff_toInt_lt]; omega
theorem own_lt {i n : Int32} (h : i.toInt < n.toInt) : i < n := by rw [Int32.lt_iff_toInt_lt]; omega
theorem own_ib2 {p i n : Int32} (hp : own_in p 15) (hn : own_in n 16) (h0 : p.toInt ≤ i.toInt) (h1 : i < (p + n)) : ¬ i < 0 ∧ i < 32 := by
  obtain ⟨h2, e⟩ := own_add hp hn (by decide)
  unfold own_in at *
  rw [Int32.lt_iff_toInt_lt] at h1
  rw [Int32.lt_iff_toInt_lt, Int32.lt_iff_toInt_lt]
  have z : (0 : Int32).toInt = 0 := rfl
  have y : (32 : Int32).toInt = 32 := rfl
  omega
theorem own_and15 (x : Int32) : own_in (x &&& 15) 15 := by
  have h : (x &&& 15).toBitVec.toNat ≤ 15 := by
    rw [Int32.toBitVec_and, BitVec.toNat_and]
    exact Nat.and_le_right
  show 0 ≤ (x &&& 15).toBitVec.toInt ∧ (x &&& 15).toBitVec.toInt ≤ 15
  rw [BitVec.toInt_eq_toNat_of_lt (by omega)]
  omega
theorem own_and15' (x : Int32) : own_in (1 + (x &&& 15)) 16 := (own_add (p := 1) (a := 1) ⟨by decide, by decide⟩ (own_and15 x) (by decide)).1
theorem own_le {p : Int32} {a b : Int} (h : own_in p a) (q : a ≤ b) : own_in p b := ⟨h.1, Int.le_trans h.2 q⟩
theorem own_in0 : own_in 0 0 := ⟨by decide, by decide⟩
theorem own_end {p n : Int32} (hp : own_in p 32) (hn : own_in n 16) : ¬ (4096 : Int32) < (p + n) := by
  obtain ⟨h2, e⟩ := own_add hp hn (by decide)
  unfold own_in at *
  rw [Int32.lt_iff_toInt_lt]
  have z : (4096 : Int32).toInt = 4096 := rfl
  omega
theorem own_nat {p : Int32} {k : Nat} (h : own_in p k) : ¬ p < 0 ∧ p.toNatClampNeg ≤ k := by
  unfold own_in at h
  rw [Int32.lt_iff_toInt_lt]
  have z : (0 : Int32).toInt = 0 := rfl
  simp only [Int32.toNatClampNeg]
  omega
theorem d7_0 : decode prog_4_method_14_code 0 = .ok (.lload_n 0, 1) := by decide +kernel
theorem d7_1 : decode prog_4_method_14_code 1 = .ok (.lstore_n 3, 1) := by decide +kernel
theorem d7_2 : decode prog_4_method_14_code 2 = .ok (.lload_n 3, 1) := by decide +kernel
theorem d7_3 : decode prog_4_method_14_code 3 = .ok (.lload_n 3, 1) := by decide +kernel
theorem d7_4 : decode prog_4_method_14_code 4 = .ok (.bipush 33, 2) := by decide +kernel
theorem d7_6 : decode prog_4_method_14_code 6 = .ok (.lushr, 1) := by decide +kernel
theorem d7_7 : decode prog_4_method_14_code 7 = .ok (.lxor, 1) := by decide +kernel
theorem d7_8 : decode prog_4_method_14_code 8 = .ok (.lstore_n 3, 1) := by decide +kernel
theorem d7_9 : decode prog_4_method_14_code 9 = .ok (.lload_n 3, 1) := by decide +kernel
theorem d7_10 : decode prog_4_method_14_code 10 = .ok (.ldc2_w 116, 3) := by decide +kernel
theorem d7_13 : decode prog_4_method_14_code 13 = .ok (.lmul, 1) := by decide +kernel
theorem d7_14 : decode prog_4_method_14_code 14 = .ok (.lstore_n 3, 1) := by decide +kernel
theorem d7_15 : decode prog_4_method_14_code 15 = .ok (.lload_n 3, 1) := by decide +kernel
theorem d7_16 : decode prog_4_method_14_code 16 = .ok (.lload_n 3, 1) := by decide +kernel
theorem d7_17 : decode prog_4_method_14_code 17 = .ok (.bipush 33, 2) := by decide +kernel
theorem d7_19 : decode prog_4_method_14_code 19 = .ok (.lushr, 1) := by decide +kernel
theorem d7_20 : decode prog_4_method_14_code 20 = .ok (.lxor, 1) := by decide +kernel
theorem d7_21 : decode prog_4_method_14_code 21 = .ok (.lstore_n 3, 1) := by decide +kernel
theorem d7_22 : decode prog_4_method_14_code 22 = .ok (.lload_n 3, 1) := by decide +kernel
theorem d7_23 : decode prog_4_method_14_code 23 = .ok (.ldc2_w 118, 3) := by decide +kernel
theorem d7_26 : decode prog_4_method_14_code 26 = .ok (.lmul, 1) := by decide +kernel
theorem d7_27 : decode prog_4_method_14_code 27 = .ok (.lstore_n 3, 1) := by decide +kernel
theorem d7_28 : decode prog_4_method_14_code 28 = .ok (.lload_n 3, 1) := by decide +kernel
theorem d7_29 : decode prog_4_method_14_code 29 = .ok (.lload_n 3, 1) := by decide +kernel
theorem d7_30 : decode prog_4_method_14_code 30 = .ok (.bipush 33, 2) := by decide +kernel
theorem d7_32 : decode prog_4_method_14_code 32 = .ok (.lushr, 1) := by decide +kernel
theorem d7_33 : decode prog_4_method_14_code 33 = .ok (.lxor, 1) := by decide +kernel
theorem d7_34 : decode prog_4_method_14_code 34 = .ok (.lstore_n 3, 1) := by decide +kernel
theorem d7_35 : decode prog_4_method_14_code 35 = .ok (.lload_n 3, 1) := by decide +kernel
theorem d7_36 : decode prog_4_method_14_code 36 = .ok (.l2i, 1) := by decide +kernel
theorem d7_37 : decode prog_4_method_14_code 37 = .ok (.iload_n 2, 1) := by decide +kernel
theorem d7_38 : decode prog_4_method_14_code 38 = .ok (.iand, 1) := by decide +kernel
theorem d7_39 : decode prog_4_method_14_code 39 = .ok (.ireturn, 1) := by decide +kernel
theorem pn_7 : plainName "com/example/amherst/amherst/ByteStringTable" = true := by first | (simp [plainName, overriddenIn]; done) | decide +kernel
theorem ef_7 (m : MethodId) (q0 : Int64) (p1 : Int32) : entryFrame m #[(.long q0), (.int p1)] 5 = (mkF m 0 #[.val (.long q0), .second, .val (.int p1), .unset, .unset] []) := by first | (simp [entryFrame, mkF, argsToLocals, Value.category]; done) | rfl
def Q7 (Z : State) (q0 : Int64) (p1 : Int32) (h0 : Heap) (n0 : Nat) (v : Option Value) (h : Heap) (L : List Loc) : Prop := ∃ z : Int64, v = some (.int (z.toInt32 &&& p1)) ∧ Fr n0 L ∧ h = h0
set_option maxRecDepth 65536 in
set_option maxHeartbeats 40000000 in
theorem rm7 (l : Launch) (Z : State) (a0 : Array Value) (hw : ∀ d ∈ tables_1, d.before a0 Z = true) (ws : List Jvm.Cond) (q0 : Int64) (p1 : Int32) (h0 : Heap) (n0 : Nat) (Z0 : n0 ≤ h0.size) :
    MetFree l (⟨"com/example/amherst/amherst/ByteStringTable", "slot", "(JI)I"⟩ : MethodName) (head1 (Jvm.Cond.code (⟨"com/example/amherst/amherst/ByteStringTable", "slot", "(JI)I"⟩ : MethodName) prog_4_method_14_code 5 (some .int) :: ws) ({ frames := 0, cells := 0, slots := 0, locals := 0 } : Room)) (fun a U => a = #[(.long q0), (.int p1)] ∧ Z.Warmed39 U.vm ∧ U.heap = h0) (fun _ _ _ _ _ => True) (fun _ U o U' => ∃ v L, o = .returned v ∧ Q7 Z q0 p1 h0 n0 v U'.heap L ∧ FrameEnd U o U' L ({ frames := 0, cells := 0, slots := 0, locals := 0 } : Room).cells ({ frames := 0, cells := 0, slots := 0, locals := 0 } : Room).slots) := by
  refine MetFree.of_bodySF (plainFor_of_name pn_7) hisR ?_
  intro p e s m args below meth c s₁ Bd hml0 hP hK
  obtain ⟨rfl, hZ, hh⟩ := hP
  have hx := Bd.exec
  have hby := Bd.bytes
  have hml : c.maxLocals = 5 := hml0
  have hown : s.vm.findClass "com/example/amherst/amherst/ByteStringTable" = some m.cls := findClass_of_methodNamed Bd.named
  have hnm := (name_of_methodNamed Bd.named Bd.method).1
  have X0 : Stand p l e ({ frames := 0, cells := 0, slots := 0, locals := 0 } : Room) s m #[(.long q0), (.int p1)] below meth c s₁ [] 0 0 := Stand.of_body Bd
  have e0 : s₁.heap = h0 := by rw [← hh, Bd.state]; rfl
  have N0 := Fr.nil n0
  have K0 := Keep.refl h0 ([] : List Addr)
  have pre0 : ∀ t, Steps p.tables e below (s₁.setTop (mkF m 0 #[.val (.long q0), .second, .val (.int p1), .unset, .unset] [])) t → Steps p.tables e below (s₁.setTop (entryFrame m #[(.long q0), (.int p1)] 5)) t := fun t k => castTop (ef_7 m q0 p1) k
  obtain ⟨u1, hu1⟩ : ∃ z, z = (q0 ^^^ ((q0.toUInt64 >>> ((33 : Int32) &&& 0x3f).toInt64.toUInt64).toInt64)) := ⟨_, rfl⟩
  have pre2 : ∀ t, Steps p.tables e below (s₁.setTop (mkF m 8 #[.val (.long q0), .second, .val (.int p1), .val (.long q0), .second] [(.long u1)])) t → Steps p.tables e below (s₁.setTop (entryFrame m #[(.long q0), (.int p1)] 5)) t := by
    intro t kt
    rw [hu1] at kt
    refine pre0 _ ?_
    show Steps p.tables e below (s₁.setTop (mkF m 0 #[.val (.long q0), .second, .val (.int p1), .unset, .unset] [])) _
    refine XS.lloadN X0.here hx rfl (hb hby d7_0) rfl ?_
    show Steps p.tables e below (s₁.setTop (mkF m 1 #[.val (.long q0), .second, .val (.int p1), .unset, .unset] [(.long q0)])) _
    refine XS.lstoreN X0.here hx rfl (hb hby d7_1) rfl (l' := #[.val (.long q0), .second, .val (.int p1), .val (.long q0), .second]) rfl ?_
    show Steps p.tables e below (s₁.setTop (mkF m 2 #[.val (.long q0), .second, .val (.int p1), .val (.long q0), .second] [])) _
    refine XS.lloadN X0.here hx rfl (hb hby d7_2) rfl ?_
    show Steps p.tables e below (s₁.setTop (mkF m 3 #[.val (.long q0), .second, .val (.int p1), .val (.long q0), .second] [(.long q0)])) _
    refine XS.lloadN X0.here hx rfl (hb hby d7_3) rfl ?_
    show Steps p.tables e below (s₁.setTop (mkF m 4 #[.val (.long q0), .second, .val (.int p1), .val (.long q0), .second] [(.long q0), (.long q0)])) _
    refine XS.bipush X0.here hx rfl (hb hby d7_4) ?_
    show Steps p.tables e below (s₁.setTop (mkF m 6 #[.val (.long q0), .second, .val (.int p1), .val (.long q0), .second] [(.int (33 : Int32)), (.long q0), (.long q0)])) _
    refine XS.lushr X0.here hx rfl (hb hby d7_6) rfl ?_
    show Steps p.tables e below (s₁.setTop (mkF m 7 #[.val (.long q0), .second, .val (.int p1), .val (.long q0), .second] [(.long ((q0.toUInt64 >>> ((33 : Int32) &&& 0x3f).toInt64.toUInt64).toInt64)), (.long q0)])) _
    refine XS.lxor X0.here hx rfl (hb hby d7_7) rfl ?_
    show Steps p.tables e below (s₁.setTop (mkF m 8 #[.val (.long q0), .second, .val (.int p1), .val (.long q0), .second] [(.long (q0 ^^^ ((q0.toUInt64 >>> ((33 : Int32) &&& 0x3f).toInt64.toUInt64).toInt64)))])) _
    exact kt
  obtain ⟨u3, hu3⟩ : ∃ z, z = (u1 * (-49064778989728563 : Int64)) := ⟨_, rfl⟩
  have pre4 : ∀ t, Steps p.tables e below (s₁.setTop (mkF m 14 #[.val (.long q0), .second, .val (.int p1), .val (.long u1), .second] [(.long u3)])) t → Steps p.tables e below (s₁.setTop (entryFrame m #[(.long q0), (.int p1)] 5)) t := by
    intro t kt
    rw [hu3] at kt
    refine pre2 _ ?_
    show Steps p.tables e below (s₁.setTop (mkF m 8 #[.val (.long q0), .second, .val (.int p1), .val (.long q0), .second] [(.long u1)])) _
    refine XS.lstoreN X0.here hx rfl (hb hby d7_8) rfl (l' := #[.val (.long q0), .second, .val (.int p1), .val (.long u1), .second]) rfl ?_
    show Steps p.tables e below (s₁.setTop (mkF m 9 #[.val (.long q0), .second, .val (.int p1), .val (.long u1), .second] [])) _
    refine XS.lloadN X0.here hx rfl (hb hby d7_9) rfl ?_
    show Steps p.tables e below (s₁.setTop (mkF m 10 #[.val (.long q0), .second, .val (.int p1), .val (.long u1), .second] [(.long u1)])) _
    refine X0.ldc2Long hx hown (mvT hZ (hw _ (List.mem_of_getElem? (i := 44) rfl))) (g := (mkF m 10 #[.val (.long q0), .second, .val (.int p1), .val (.long u1), .second] [(.long u1)])) rfl (hb hby d7_10) _ ?_
    show Steps p.tables e below (s₁.setTop (mkF m 13 #[.val (.long q0), .second, .val (.int p1), .val (.long u1), .second] [(.long (-49064778989728563 : Int64)), (.long u1)])) _
    refine XS.lmul X0.here hx rfl (hb hby d7_13) rfl ?_
    show Steps p.tables e below (s₁.setTop (mkF m 14 #[.val (.long q0), .second, .val (.int p1), .val (.long u1), .second] [(.long (u1 * (-49064778989728563 : Int64)))])) _
    exact kt
  obtain ⟨u5, hu5⟩ : ∃ z, z = (u3 ^^^ ((u3.toUInt64 >>> ((33 : Int32) &&& 0x3f).toInt64.toUInt64).toInt64)) := ⟨_, rfl⟩
  have pre6 : ∀ t, Steps p.tables e below (s₁.setTop (mkF m 21 #[.val (.long q0), .second, .val (.int p1), .val (.long u3), .second] [(.long u5)])) t → Steps p.tables e below (s₁.setTop (entryFrame m #[(.long q0), (.int p1)] 5)) t := by
    intro t kt
    rw [hu5] at kt
    refine pre4 _ ?_
    show Steps p.tables e below (s₁.setTop (mkF m 14 #[.val (.long q0), .second, .val (.int p1), .val (.long u1), .second] [(.long u3)])) _
    refine XS.lstoreN X0.here hx rfl (hb hby d7_14) rfl (l' := #[.val (.long q0), .second, .val (.int p1), .val (.long u3), .second]) rfl ?_
    show Steps p.tables e below (s₁.setTop (mkF m 15 #[.val (.long q0), .second, .val (.int p1), .val (.long u3), .second] [])) _
    refine XS.lloadN X0.here hx rfl (hb hby d7_15) rfl ?_
    show Steps p.tables e below (s₁.setTop (mkF m 16 #[.val (.long q0), .second, .val (.int p1), .val (.long u3), .second] [(.long u3)])) _
    refine XS.lloadN X0.here hx rfl (hb hby d7_16) rfl ?_
    show Steps p.tables e below (s₁.setTop (mkF m 17 #[.val (.long q0), .second, .val (.int p1), .val (.long u3), .second] [(.long u3), (.long u3)])) _
    refine XS.bipush X0.here hx rfl (hb hby d7_17) ?_
    show Steps p.tables e below (s₁.setTop (mkF m 19 #[.val (.long q0), .second, .val (.int p1), .val (.long u3), .second] [(.int (33 : Int32)), (.long u3), (.long u3)])) _
    refine XS.lushr X0.here hx rfl (hb hby d7_19) rfl ?_
    show Steps p.tables e below (s₁.setTop (mkF m 20 #[.val (.long q0), .second, .val (.int p1), .val (.long u3), .second] [(.long ((u3.toUInt64 >>> ((33 : Int32) &&& 0x3f).toInt64.toUInt64).toInt64)), (.long u3)])) _
    refine XS.lxor X0.here hx rfl (hb hby d7_20) rfl ?_
    show Steps p.tables e below (s₁.setTop (mkF m 21 #[.val (.long q0), .second, .val (.int p1), .val (.long u3), .second] [(.long (u3 ^^^ ((u3.toUInt64 >>> ((33 : Int32) &&& 0x3f).toInt64.toUInt64).toInt64)))])) _
    exact kt
  obtain ⟨u7, hu7⟩ : ∃ z, z = (u5 * (-4265267296055464877 : Int64)) := ⟨_, rfl⟩
  have pre8 : ∀ t, Steps p.tables e below (s₁.setTop (mkF m 27 #[.val (.long q0), .second, .val (.int p1), .val (.long u5), .second] [(.long u7)])) t → Steps p.tables e below (s₁.setTop (entryFrame m #[(.long q0), (.int p1)] 5)) t := by
    intro t kt
    rw [hu7] at kt
    refine pre6 _ ?_
    show Steps p.tables e below (s₁.setTop (mkF m 21 #[.val (.long q0), .second, .val (.int p1), .val (.long u3), .second] [(.long u5)])) _
    refine XS.lstoreN X0.here hx rfl (hb hby d7_21) rfl (l' := #[.val (.long q0), .second, .val (.int p1), .val (.long u5), .second]) rfl ?_
    show Steps p.tables e below (s₁.setTop (mkF m 22 #[.val (.long q0), .second, .val (.int p1), .val (.long u5), .second] [])) _
    refine XS.lloadN X0.here hx rfl (hb hby d7_22) rfl ?_
    show Steps p.tables e below (s₁.setTop (mkF m 23 #[.val (.long q0), .second, .val (.int p1), .val (.long u5), .second] [(.long u5)])) _
    refine X0.ldc2Long hx hown (mvT hZ (hw _ (List.mem_of_getElem? (i := 45) rfl))) (g := (mkF m 23 #[.val (.long q0), .second, .val (.int p1), .val (.long u5), .second] [(.long u5)])) rfl (hb hby d7_23) _ ?_
    show Steps p.tables e below (s₁.setTop (mkF m 26 #[.val (.long q0), .second, .val (.int p1), .val (.long u5), .second] [(.long (-4265267296055464877 : Int64)), (.long u5)])) _
    refine XS.lmul X0.here hx rfl (hb hby d7_26) rfl ?_
    show Steps p.tables e below (s₁.setTop (mkF m 27 #[.val (.long q0), .second, .val (.int p1), .val (.long u5), .second] [(.long (u5 * (-4265267296055464877 : Int64)))])) _
    exact kt
  obtain ⟨u9, hu9⟩ : ∃ z, z = (u7 ^^^ ((u7.toUInt64 >>> ((33 : Int32) &&& 0x3f).toInt64.toUInt64).toInt64)) := ⟨_, rfl⟩
  have pre10 : ∀ t, Steps p.tables e below (s₁.setTop (mkF m 34 #[.val (.long q0), .second, .val (.int p1), .val (.long u7), .second] [(.long u9)])) t → Steps p.tables e below (s₁.setTop (entryFrame m #[(.long q0), (.int p1)] 5)) t := by
    intro t kt
    rw [hu9] at kt
    refine pre8 _ ?_
    show Steps p.tables e below (s₁.setTop (mkF m 27 #[.val (.long q0), .second, .val (.int p1), .val (.long u5), .second] [(.long u7)])) _
    refine XS.lstoreN X0.here hx rfl (hb hby d7_27) rfl (l' := #[.val (.long q0), .second, .val (.int p1), .val (.long u7), .second]) rfl ?_
    show Steps p.tables e below (s₁.setTop (mkF m 28 #[.val (.long q0), .second, .val (.int p1), .val (.long u7), .second] [])) _
    refine XS.lloadN X0.here hx rfl (hb hby d7_28) rfl ?_
    show Steps p.tables e below (s₁.setTop (mkF m 29 #[.val (.long q0), .second, .val (.int p1), .val (.long u7), .second] [(.long u7)])) _
    refine XS.lloadN X0.here hx rfl (hb hby d7_29) rfl ?_
    show Steps p.tables e below (s₁.setTop (mkF m 30 #[.val (.long q0), .second, .val (.int p1), .val (.long u7), .second] [(.long u7), (.long u7)])) _
    refine XS.bipush X0.here hx rfl (hb hby d7_30) ?_
    show Steps p.tables e below (s₁.setTop (mkF m 32 #[.val (.long q0), .second, .val (.int p1), .val (.long u7), .second] [(.int (33 : Int32)), (.long u7), (.long u7)])) _
    refine XS.lushr X0.here hx rfl (hb hby d7_32) rfl ?_
    show Steps p.tables e below (s₁.setTop (mkF m 33 #[.val (.long q0), .second, .val (.int p1), .val (.long u7), .second] [(.long ((u7.toUInt64 >>> ((33 : Int32) &&& 0x3f).toInt64.toUInt64).toInt64)), (.long u7)])) _
    refine XS.lxor X0.here hx rfl (hb hby d7_33) rfl ?_
    show Steps p.tables e below (s₁.setTop (mkF m 34 #[.val (.long q0), .second, .val (.int p1), .val (.long u7), .second] [(.long (u7 ^^^ ((u7.toUInt64 >>> ((33 : Int32) &&& 0x3f).toInt64.toUInt64).toInt64)))])) _
    exact kt
  obtain ⟨fs, hr, hrun, hended, hW, hsame⟩ := X0.leave (v := some (.int ((u9.toInt32) &&& p1))) (fun h => by rw [Bd.returns] at h; cases h)
  refine ⟨_, _, pre10 _ ?_, hrun, hended, _, _, rfl, ?_, ⟨_, rfl⟩, hW, hsame.mono (by decide) (by decide)⟩
  ·
    show Steps p.tables e below (s₁.setTop (mkF m 34 #[.val (.long q0), .second, .val (.int p1), .val (.long u7), .second] [(.long u9)])) _
    refine XS.lstoreN X0.here hx rfl (hb hby d7_34) rfl (l' := #[.val (.long q0), .second, .val (.int p1), .val (.long u9), .second]) rfl ?_
    show Steps p.tables e below (s₁.setTop (mkF m 35 #[.val (.long q0), .second, .val (.int p1), .val (.long u9), .second] [])) _
    refine XS.lloadN X0.here hx rfl (hb hby d7_35) rfl ?_
    show Steps p.tables e below (s₁.setTop (mkF m 36 #[.val (.long q0), .second, .val (.int p1), .val (.long u9), .second] [(.long u9)])) _
    refine XS.l2i X0.here hx rfl (hb hby d7_36) rfl ?_
    show Steps p.tables e below (s₁.setTop (mkF m 37 #[.val (.long q0), .second, .val (.int p1), .val (.long u9), .second] [(.int (u9.toInt32))])) _
    refine XS.iloadN X0.here hx rfl (hb hby d7_37) rfl ?_
    show Steps p.tables e below (s₁.setTop (mkF m 38 #[.val (.long q0), .second, .val (.int p1), .val (.long u9), .second] [(.int p1), (.int (u9.toInt32))])) _
    refine XS.iand X0.here hx rfl (hb hby d7_38) rfl ?_
    show Steps p.tables e below (s₁.setTop (mkF m 39 #[.val (.long q0), .second, .val (.int p1), .val (.long u9), .second] [(.int ((u9.toInt32) &&& p1))])) _
    exact retI X0 hx Bd.returns (hb hby d7_39) hr
  ·
    show Q7 Z q0 p1 h0 n0 _ s₁.heap _
    rw [e0]
    exact ⟨_, rfl, N0, rfl⟩
theorem d5_0 : decode prog_4_method_15_code 0 = .ok (.iconst 0, 1) := by decide +kernel
theorem d5_1 : decode prog_4_method_15_code 1 = .ok (.istore_n 3, 1) := by decide +kernel
theorem d5_2 : decode prog_4_method_15_code 2 = .ok (.iload_n 1, 1) := by decide +kernel
theorem d5_3 : decode prog_4_method_15_code 3 = .ok (.istore 4, 2) := by decide +kernel
theorem d5_5 : decode prog_4_method_15_code 5 = .ok (.iload 4, 2) := by decide +kernel
theorem d5_7 : decode prog_4_method_15_code 7 = .ok (.iload_n 1, 1) := by decide +kernel
theorem d5_8 : decode prog_4_method_15_code 8 = .ok (.iload_n 2, 1) := by decide +kernel
theorem d5_9 : decode prog_4_method_15_code 9 = .ok (.iadd, 1) := by decide +kernel
theorem d5_10 : decode prog_4_method_15_code 10 = .ok (.if_icmp .ge 19, 3) := by decide +kernel
theorem d5_13 : decode prog_4_method_15_code 13 = .ok (.bipush 31, 2) := by decide +kernel
theorem d5_15 : decode prog_4_method_15_code 15 = .ok (.iload_n 3, 1) := by decide +kernel
theorem d5_16 : decode prog_4_method_15_code 16 = .ok (.imul, 1) := by decide +kernel
theorem d5_17 : decode prog_4_method_15_code 17 = .ok (.aload_n 0, 1) := by decide +kernel
theorem d5_18 : decode prog_4_method_15_code 18 = .ok (.iload 4, 2) := by decide +kernel
theorem d5_20 : decode prog_4_method_15_code 20 = .ok (.baload, 1) := by decide +kernel
theorem d5_21 : decode prog_4_method_15_code 21 = .ok (.iadd, 1) := by decide +kernel
theorem d5_22 : decode prog_4_method_15_code 22 = .ok (.istore_n 3, 1) := by decide +kernel
theorem d5_23 : decode prog_4_method_15_code 23 = .ok (.iinc 4 1, 3) := by decide +kernel
theorem d5_26 : decode prog_4_method_15_code 26 = .ok (.goto (-21), 3) := by decide +kernel
theorem d5_29 : decode prog_4_method_15_code 29 = .ok (.iload_n 3, 1) := by decide +kernel
theorem d5_30 : decode prog_4_method_15_code 30 = .ok (.ireturn, 1) := by decide +kernel
theorem pn_5 : plainName "com/example/amherst/amherst/ByteStringTable" = true := by first | (simp [plainName, overriddenIn]; done) | decide +kernel
theorem ef_5 (m : MethodId) (a1 : Addr) (p2 : Int32) (p3 : Int32) : entryFrame m #[(.ref a1), (.int p2), (.int p3)] 5 = (mkF m 0 #[.val (.ref a1), .val (.int p2), .val (.int p3), .unset, .unset] []) := by first | (simp [entryFrame, mkF, argsToLocals, Value.category]; done) | rfl
def Q5 (Z : State) (a1 : Addr) (p2 : Int32) (p3 : Int32) (ka : ClassId) (vs : List Value) (h0 : Heap) (n0 : Nat) (v : Option Value) (h : Heap) (L : List Loc) : Prop := ∃ z : Int32, v = some (.int z) ∧ Fr n0 L ∧ h = h0
set_option maxRecDepth 65536 in
set_option maxHeartbeats 40000000 in
theorem rm5 (l : Launch) (Z : State) (a0 : Array Value) (hw : ∀ d ∈ tables_1, d.before a0 Z = true) (ws : List Jvm.Cond) (a1 : Addr) (p2 : Int32) (p3 : Int32) (ka : ClassId) (vs : List Value) (h0 : Heap) (n0 : Nat) (Z0 : n0 ≤ h0.size) (V_a1 : Arv Z h0 a1 ka .byte 32 vs (.int (0 : Int32))) (hint : own_ints vs) (hp : own_in p2 15) (hn : own_in p3 16) :
    MetFree l (⟨"com/example/amherst/amherst/ByteStringTable", "hash", "([BII)I"⟩ : MethodName) (head1 (Jvm.Cond.code (⟨"com/example/amherst/amherst/ByteStringTable", "hash", "([BII)I"⟩ : MethodName) prog_4_method_15_code 5 (some .int) :: ws) ({ frames := 0, cells := 0, slots := 0, locals := 0 } : Room)) (fun a U => a = #[(.ref a1), (.int p2), (.int p3)] ∧ Z.Warmed39 U.vm ∧ U.heap = h0) (fun _ _ _ _ _ => True) (fun _ U o U' => ∃ v L, o = .returned v ∧ Q5 Z a1 p2 p3 ka vs h0 n0 v U'.heap L ∧ FrameEnd U o U' L ({ frames := 0, cells := 0, slots := 0, locals := 0 } : Room).cells ({ frames := 0, cells := 0, slots := 0, locals := 0 } : Room).slots) := by
  refine MetFree.of_bodySF (plainFor_of_name pn_5) hisR ?_
  intro p e s m args below meth c s₁ Bd hml0 hP hK
  obtain ⟨rfl, hZ, hh⟩ := hP
  have hx := Bd.exec
  have hby := Bd.bytes
  have hml : c.maxLocals = 5 := hml0
  have hown : s.vm.findClass "com/example/amherst/amherst/ByteStringTable" = some m.cls := findClass_of_methodNamed Bd.named
  have hnm := (name_of_methodNamed Bd.named Bd.method).1
  have X0 : Stand p l e ({ frames := 0, cells := 0, slots := 0, locals := 0 } : Room) s m #[(.ref a1), (.int p2), (.int p3)] below meth c s₁ [] 0 0 := Stand.of_body Bd
  have e0 : s₁.heap = h0 := by rw [← hh, Bd.state]; rfl
  have N0 := Fr.nil n0
  have K0 := Keep.refl h0 ([] : List Addr)
  have pre0 : ∀ t, Steps p.tables e below (s₁.setTop (mkF m 0 #[.val (.ref a1), .val (.int p2), .val (.int p3), .unset, .unset] [])) t → Steps p.tables e below (s₁.setTop (entryFrame m #[(.ref a1), (.int p2), (.int p3)] 5)) t := fun t k => castTop (ef_5 m a1 p2 p3) k
  have pre1 : ∀ t, Steps p.tables e below (s₁.setTop (mkF m 5 #[.val (.ref a1), .val (.int p2), .val (.int p3), .val (.int (0 : Int32)), .val (.int p2)] [])) t → Steps p.tables e below (s₁.setTop (entryFrame m #[(.ref a1), (.int p2), (.int p3)] 5)) t := by
    intro t kt
    refine pre0 _ ?_
    show Steps p.tables e below (s₁.setTop (mkF m 0 #[.val (.ref a1), .val (.int p2), .val (.int p3), .unset, .unset] [])) _
    refine XS.iconst X0.here hx rfl (hb hby d5_0) ?_
    show Steps p.tables e below (s₁.setTop (mkF m 1 #[.val (.ref a1), .val (.int p2), .val (.int p3), .unset, .unset] [(.int (0 : Int32))])) _
    refine XS.istoreN X0.here hx rfl (hb hby d5_1) rfl (l' := #[.val (.ref a1), .val (.int p2), .val (.int p3), .val (.int (0 : Int32)), .unset]) rfl ?_
    show Steps p.tables e below (s₁.setTop (mkF m 2 #[.val (.ref a1), .val (.int p2), .val (.int p3), .val (.int (0 : Int32)), .unset] [])) _
    refine XS.iloadN X0.here hx rfl (hb hby d5_2) rfl ?_
    show Steps p.tables e below (s₁.setTop (mkF m 3 #[.val (.ref a1), .val (.int p2), .val (.int p3), .val (.int (0 : Int32)), .unset] [(.int p2)])) _
    refine XS.istore X0.here hx rfl (hb hby d5_3) rfl (l' := #[.val (.ref a1), .val (.int p2), .val (.int p3), .val (.int (0 : Int32)), .val (.int p2)]) rfl ?_
    show Steps p.tables e below (s₁.setTop (mkF m 5 #[.val (.ref a1), .val (.int p2), .val (.int p3), .val (.int (0 : Int32)), .val (.int p2)] [])) _
    exact kt
  have lp : ∀ (k : Nat) (hh i : Int32), i.toInt + k = (p2 + p3).toInt → p2.toInt ≤ i.toInt → ∃ (h' i' : Int32), ∀ t, Steps p.tables e below (s₁.setTop (mkF m 29 #[.val (.ref a1), .val (.int p2), .val (.int p3), .val (.int h'), .val (.int i')] [])) t → Steps p.tables e below (s₁.setTop (mkF m 5 #[.val (.ref a1), .val (.int p2), .val (.int p3), .val (.int hh), .val (.int i)] [])) t := by
    intro k
    induction k with
    | zero =>
      intro hh i h1 h2
      have hk : ¬ i < (p2 + p3) := own_nlt (by omega)
      refine ⟨hh, i, fun t kt => ?_⟩
      have hk2 : ¬ (i < (p2 + p3)) := hk
      show Steps p.tables e below (s₁.setTop (mkF m 5 #[.val (.ref a1), .val (.int p2), .val (.int p3), .val (.int hh), .val (.int i)] [])) _
      refine XS.iload X0.here hx rfl (hb hby d5_5) rfl ?_
      show Steps p.tables e below (s₁.setTop (mkF m 7 #[.val (.ref a1), .val (.int p2), .val (.int p3), .val (.int hh), .val (.int i)] [(.int i)])) _
      refine XS.iloadN X0.here hx rfl (hb hby d5_7) rfl ?_
      show Steps p.tables e below (s₁.setTop (mkF m 8 #[.val (.ref a1), .val (.int p2), .val (.int p3), .val (.int hh), .val (.int i)] [(.int p2), (.int i)])) _
      refine XS.iloadN X0.here hx rfl (hb hby d5_8) rfl ?_
      show Steps p.tables e below (s₁.setTop (mkF m 9 #[.val (.ref a1), .val (.int p2), .val (.int p3), .val (.int hh), .val (.int i)] [(.int p3), (.int p2), (.int i)])) _
      refine XS.iadd X0.here hx rfl (hb hby d5_9) rfl ?_
      show Steps p.tables e below (s₁.setTop (mkF m 10 #[.val (.ref a1), .val (.int p2), .val (.int p3), .val (.int hh), .val (.int i)] [(.int (p2 + p3)), (.int i)])) _
      refine XS.icmpYes X0.here hx rfl (pc0 := 10) (pc' := 29) rfl (hb hby d5_10) rfl (flt hk2).2.1 (by decide) (by decide) ?_
      show Steps p.tables e below (s₁.setTop (mkF m 29 #[.val (.ref a1), .val (.int p2), .val (.int p3), .val (.int hh), .val (.int i)] [])) _
      exact kt
    | succ k ih =>
      intro hh i h1 h2
      have hk : i < (p2 + p3) := own_lt (by omega)
      have hb2 := own_ib2 hp hn h2 hk
      have hsm := (own_add hp hn (by decide)).1.2
      have hp0 := hp.1
      have hic := own_inc (i := i) (by omega) (by omega)
      have hk3 : i < (p2 + p3) := hk
      obtain ⟨x5, hx5⟩ := hint (i).toNatClampNeg
      obtain ⟨clo4, Aro4, -, So4, No4, Ho4, -⟩ := id V_a1
      have hino4 : ¬ (i < 0 ∨ clo4.slots.size ≤ (i).toNatClampNeg) := inb_of So4 hb2
      have hato4 : clo4.slots[(i).toNatClampNeg]? = some (.int x5) := Ho4.at hino4 hx5
      obtain ⟨h', i', hg⟩ := ih (((31 : Int32) * hh) + x5) (i + (1 : Int32)) (by omega) (by omega)
      refine ⟨h', i', fun t kt => ?_⟩
      show Steps p.tables e below (s₁.setTop (mkF m 5 #[.val (.ref a1), .val (.int p2), .val (.int p3), .val (.int hh), .val (.int i)] [])) _
      refine XS.iload X0.here hx rfl (hb hby d5_5) rfl ?_
      show Steps p.tables e below (s₁.setTop (mkF m 7 #[.val (.ref a1), .val (.int p2), .val (.int p3), .val (.int hh), .val (.int i)] [(.int i)])) _
      refine XS.iloadN X0.here hx rfl (hb hby d5_7) rfl ?_
      show Steps p.tables e below (s₁.setTop (mkF m 8 #[.val (.ref a1), .val (.int p2), .val (.int p3), .val (.int hh), .val (.int i)] [(.int p2), (.int i)])) _
      refine XS.iloadN X0.here hx rfl (hb hby d5_8) rfl ?_
      show Steps p.tables e below (s₁.setTop (mkF m 9 #[.val (.ref a1), .val (.int p2), .val (.int p3), .val (.int hh), .val (.int i)] [(.int p3), (.int p2), (.int i)])) _
      refine XS.iadd X0.here hx rfl (hb hby d5_9) rfl ?_
      show Steps p.tables e below (s₁.setTop (mkF m 10 #[.val (.ref a1), .val (.int p2), .val (.int p3), .val (.int hh), .val (.int i)] [(.int (p2 + p3)), (.int i)])) _
      refine XS.icmpNo X0.here hx rfl (hb hby d5_10) rfl (tlt hk3).2.1 ?_
      show Steps p.tables e below (s₁.setTop (mkF m 13 #[.val (.ref a1), .val (.int p2), .val (.int p3), .val (.int hh), .val (.int i)] [])) _
      refine XS.bipush X0.here hx rfl (hb hby d5_13) ?_
      show Steps p.tables e below (s₁.setTop (mkF m 15 #[.val (.ref a1), .val (.int p2), .val (.int p3), .val (.int hh), .val (.int i)] [(.int (31 : Int32))])) _
      refine XS.iloadN X0.here hx rfl (hb hby d5_15) rfl ?_
      show Steps p.tables e below (s₁.setTop (mkF m 16 #[.val (.ref a1), .val (.int p2), .val (.int p3), .val (.int hh), .val (.int i)] [(.int hh), (.int (31 : Int32))])) _
      refine XS.imul X0.here hx rfl (hb hby d5_16) rfl ?_
      show Steps p.tables e below (s₁.setTop (mkF m 17 #[.val (.ref a1), .val (.int p2), .val (.int p3), .val (.int hh), .val (.int i)] [(.int ((31 : Int32) * hh))])) _
      refine XS.aloadN X0.here hx rfl (hb hby d5_17) rfl rfl ?_
      show Steps p.tables e below (s₁.setTop (mkF m 18 #[.val (.ref a1), .val (.int p2), .val (.int p3), .val (.int hh), .val (.int i)] [(.ref a1), (.int ((31 : Int32) * hh))])) _
      refine XS.iload X0.here hx rfl (hb hby d5_18) rfl ?_
      show Steps p.tables e below (s₁.setTop (mkF m 20 #[.val (.ref a1), .val (.int p2), .val (.int p3), .val (.int hh), .val (.int i)] [(.int i), (.ref a1), (.int ((31 : Int32) * hh))])) _
      refine X0.baloadBytes hx (j := i) (v := (.int x5)) (by rw [e0]; exact Aro4.1) (State.isArrayOf_alike hZ.alike Aro4.2.1) Aro4.2.2 hino4 hato4 (g := (mkF m 20 #[.val (.ref a1), .val (.int p2), .val (.int p3), .val (.int hh), .val (.int i)] [(.int i), (.ref a1), (.int ((31 : Int32) * hh))])) rfl rfl (hb hby d5_20) _ ?_
      show Steps p.tables e below (s₁.setTop (mkF m 21 #[.val (.ref a1), .val (.int p2), .val (.int p3), .val (.int hh), .val (.int i)] [(.int x5), (.int ((31 : Int32) * hh))])) _
      refine XS.iadd X0.here hx rfl (hb hby d5_21) rfl ?_
      show Steps p.tables e below (s₁.setTop (mkF m 22 #[.val (.ref a1), .val (.int p2), .val (.int p3), .val (.int hh), .val (.int i)] [(.int (((31 : Int32) * hh) + x5))])) _
      refine XS.istoreN X0.here hx rfl (hb hby d5_22) rfl (l' := #[.val (.ref a1), .val (.int p2), .val (.int p3), .val (.int (((31 : Int32) * hh) + x5)), .val (.int i)]) rfl ?_
      show Steps p.tables e below (s₁.setTop (mkF m 23 #[.val (.ref a1), .val (.int p2), .val (.int p3), .val (.int (((31 : Int32) * hh) + x5)), .val (.int i)] [])) _
      refine XS.iinc X0.here hx rfl (hb hby d5_23) rfl (l' := #[.val (.ref a1), .val (.int p2), .val (.int p3), .val (.int (((31 : Int32) * hh) + x5)), .val (.int (i + (1 : Int32)))]) rfl ?_
      show Steps p.tables e below (s₁.setTop (mkF m 26 #[.val (.ref a1), .val (.int p2), .val (.int p3), .val (.int (((31 : Int32) * hh) + x5)), .val (.int (i + (1 : Int32)))] [])) _
      refine XS.goto X0.here hx rfl (pc0 := 26) (pc' := 5) rfl (hb hby d5_26) (by decide) (by decide) ?_
      show Steps p.tables e below (s₁.setTop (mkF m 5 #[.val (.ref a1), .val (.int p2), .val (.int p3), .val (.int (((31 : Int32) * hh) + x5)), .val (.int (i + (1 : Int32)))] [])) _
      exact hg t kt
  obtain ⟨h', i', hl⟩ := lp ((p2 + p3).toInt - p2.toInt).toNat 0 p2 (by have := (own_add hp hn (by decide)).2; have := hn.1; omega) (Int.le_refl _)
  obtain ⟨fs, hr, hrun, hended, hW, hsame⟩ := X0.leave (v := some (.int h')) (fun h => by rw [Bd.returns] at h; cases h)
  refine ⟨_, _, pre1 _ ?_, hrun, hended, _, _, rfl, ?_, ⟨_, rfl⟩, hW, hsame.mono (by decide) (by decide)⟩
  ·
    show Steps p.tables e below (s₁.setTop (mkF m 5 #[.val (.ref a1), .val (.int p2), .val (.int p3), .val (.int (0 : Int32)), .val (.int p2)] [])) _
    refine hl _ ?_
    show Steps p.tables e below (s₁.setTop (mkF m 29 #[.val (.ref a1), .val (.int p2), .val (.int p3), .val (.int h'), .val (.int i')] [])) _
    refine XS.iloadN X0.here hx rfl (hb hby d5_29) rfl ?_
    show Steps p.tables e below (s₁.setTop (mkF m 30 #[.val (.ref a1), .val (.int p2), .val (.int p3), .val (.int h'), .val (.int i')] [(.int h')])) _
    exact retI X0 hx Bd.returns (hb hby d5_30) hr
  ·
    show Q5 Z a1 p2 p3 ka vs h0 n0 _ s₁.heap _
    rw [e0]
    exact ⟨_, rfl, N0, rfl⟩
theorem d4_0 : decode prog_4_method_13_code 0 = .ok (.lconst 0, 1) := by decide +kernel
theorem d4_1 : decode prog_4_method_13_code 1 = .ok (.lstore_n 3, 1) := by decide +kernel
theorem d4_2 : decode prog_4_method_13_code 2 = .ok (.iload_n 2, 1) := by decide +kernel
theorem d4_3 : decode prog_4_method_13_code 3 = .ok (.bipush 8, 2) := by decide +kernel
theorem d4_5 : decode prog_4_method_13_code 5 = .ok (.if_icmp .gt 7, 3) := by decide +kernel
theorem d4_8 : decode prog_4_method_13_code 8 = .ok (.iconst 1, 1) := by decide +kernel
theorem d4_9 : decode prog_4_method_13_code 9 = .ok (.goto 4, 3) := by decide +kernel
theorem d4_12 : decode prog_4_method_13_code 12 = .ok (.iconst 0, 1) := by decide +kernel
theorem d4_13 : decode prog_4_method_13_code 13 = .ok (.istore 5, 2) := by decide +kernel
theorem d4_15 : decode prog_4_method_13_code 15 = .ok (.iconst 0, 1) := by decide +kernel
theorem d4_16 : decode prog_4_method_13_code 16 = .ok (.istore 6, 2) := by decide +kernel
theorem d4_18 : decode prog_4_method_13_code 18 = .ok (.iload 6, 2) := by decide +kernel
theorem d4_20 : decode prog_4_method_13_code 20 = .ok (.iload_n 2, 1) := by decide +kernel
theorem d4_21 : decode prog_4_method_13_code 21 = .ok (.if_icmp .ge 50, 3) := by decide +kernel
theorem d4_24 : decode prog_4_method_13_code 24 = .ok (.iload 5, 2) := by decide +kernel
theorem d4_26 : decode prog_4_method_13_code 26 = .ok (.ifCond .eq 45, 3) := by decide +kernel
theorem d4_29 : decode prog_4_method_13_code 29 = .ok (.aload_n 0, 1) := by decide +kernel
theorem d4_30 : decode prog_4_method_13_code 30 = .ok (.iload_n 1, 1) := by decide +kernel
theorem d4_31 : decode prog_4_method_13_code 31 = .ok (.iload 6, 2) := by decide +kernel
theorem d4_33 : decode prog_4_method_13_code 33 = .ok (.iadd, 1) := by decide +kernel
theorem d4_34 : decode prog_4_method_13_code 34 = .ok (.baload, 1) := by decide +kernel
theorem d4_35 : decode prog_4_method_13_code 35 = .ok (.ifCond .eq 7, 3) := by decide +kernel
theorem d4_38 : decode prog_4_method_13_code 38 = .ok (.iconst 1, 1) := by decide +kernel
theorem d4_39 : decode prog_4_method_13_code 39 = .ok (.goto 4, 3) := by decide +kernel
theorem d4_42 : decode prog_4_method_13_code 42 = .ok (.iconst 0, 1) := by decide +kernel
theorem d4_43 : decode prog_4_method_13_code 43 = .ok (.istore 5, 2) := by decide +kernel
theorem d4_45 : decode prog_4_method_13_code 45 = .ok (.lload_n 3, 1) := by decide +kernel
theorem d4_46 : decode prog_4_method_13_code 46 = .ok (.aload_n 0, 1) := by decide +kernel
theorem d4_47 : decode prog_4_method_13_code 47 = .ok (.iload_n 1, 1) := by decide +kernel
theorem d4_48 : decode prog_4_method_13_code 48 = .ok (.iload 6, 2) := by decide +kernel
theorem d4_50 : decode prog_4_method_13_code 50 = .ok (.iadd, 1) := by decide +kernel
theorem d4_51 : decode prog_4_method_13_code 51 = .ok (.baload, 1) := by decide +kernel
theorem d4_52 : decode prog_4_method_13_code 52 = .ok (.i2l, 1) := by decide +kernel
theorem d4_53 : decode prog_4_method_13_code 53 = .ok (.ldc2_w 36, 3) := by decide +kernel
theorem d4_56 : decode prog_4_method_13_code 56 = .ok (.land, 1) := by decide +kernel
theorem d4_57 : decode prog_4_method_13_code 57 = .ok (.bipush 8, 2) := by decide +kernel
theorem d4_59 : decode prog_4_method_13_code 59 = .ok (.iload 6, 2) := by decide +kernel
theorem d4_61 : decode prog_4_method_13_code 61 = .ok (.imul, 1) := by decide +kernel
theorem d4_62 : decode prog_4_method_13_code 62 = .ok (.lshl, 1) := by decide +kernel
theorem d4_63 : decode prog_4_method_13_code 63 = .ok (.lor, 1) := by decide +kernel
theorem d4_64 : decode prog_4_method_13_code 64 = .ok (.lstore_n 3, 1) := by decide +kernel
theorem d4_65 : decode prog_4_method_13_code 65 = .ok (.iinc 6 1, 3) := by decide +kernel
theorem d4_68 : decode prog_4_method_13_code 68 = .ok (.goto (-50), 3) := by decide +kernel
theorem d4_71 : decode prog_4_method_13_code 71 = .ok (.iload 5, 2) := by decide +kernel
theorem d4_73 : decode prog_4_method_13_code 73 = .ok (.ifCond .eq 11, 3) := by decide +kernel
theorem d4_76 : decode prog_4_method_13_code 76 = .ok (.iload_n 2, 1) := by decide +kernel
theorem d4_77 : decode prog_4_method_13_code 77 = .ok (.ifCond .le 7, 3) := by decide +kernel
theorem d4_80 : decode prog_4_method_13_code 80 = .ok (.lload_n 3, 1) := by decide +kernel
theorem d4_81 : decode prog_4_method_13_code 81 = .ok (.goto 17, 3) := by decide +kernel
theorem d4_84 : decode prog_4_method_13_code 84 = .ok (.aload_n 0, 1) := by decide +kernel
theorem d4_85 : decode prog_4_method_13_code 85 = .ok (.iload_n 1, 1) := by decide +kernel
theorem d4_86 : decode prog_4_method_13_code 86 = .ok (.iload_n 2, 1) := by decide +kernel
theorem d4_87 : decode prog_4_method_13_code 87 = .ok (.invokestatic 111, 3) := by decide +kernel
theorem d4_90 : decode prog_4_method_13_code 90 = .ok (.i2l, 1) := by decide +kernel
theorem d4_91 : decode prog_4_method_13_code 91 = .ok (.bipush 32, 2) := by decide +kernel
theorem d4_93 : decode prog_4_method_13_code 93 = .ok (.lshl, 1) := by decide +kernel
theorem d4_94 : decode prog_4_method_13_code 94 = .ok (.ldc2_w 114, 3) := by decide +kernel
theorem d4_97 : decode prog_4_method_13_code 97 = .ok (.lor, 1) := by decide +kernel
theorem d4_98 : decode prog_4_method_13_code 98 = .ok (.lreturn, 1) := by decide +kernel
theorem pn_4 : plainName "com/example/amherst/amherst/ByteStringTable" = true := by first | (simp [plainName, overriddenIn]; done) | decide +kernel
theorem pd___BII_I : parseMethodDescriptor "([BII)I" = some ⟨[(.array .byte), .int, .int], some .int⟩ := by decide +kernel
theorem ef_4 (m : MethodId) (a1 : Addr) (p2 : Int32) (p3 : Int32) : entryFrame m #[(.ref a1), (.int p2), (.int p3)] 7 = (mkF m 0 #[.val (.ref a1), .val (.int p2), .val (.int p3), .unset, .unset, .unset, .unset] []) := by first | (simp [entryFrame, mkF, argsToLocals, Value.category]; done) | rfl
def Q4 (Z : State) (a1 : Addr) (p2 : Int32) (p3 : Int32) (ka : ClassId) (vs : List Value) (h0 : Heap) (n0 : Nat) (v : Option Value) (h : Heap) (L : List Loc) : Prop := ∃ z : Int64, v = some (.long z) ∧ Fr n0 L ∧ h = h0
set_option maxRecDepth 65536 in
set_option maxHeartbeats 40000000 in
theorem rm4 (l : Launch) (Z : State) (a0 : Array Value) (hw : ∀ d ∈ tables_1, d.before a0 Z = true) (ws : List Jvm.Cond) (a1 : Addr) (p2 : Int32) (p3 : Int32) (ka : ClassId) (vs : List Value) (h0 : Heap) (n0 : Nat) (Z0 : n0 ≤ h0.size) (V_a1 : Arv Z h0 a1 ka .byte 32 vs (.int (0 : Int32))) (hint : own_ints vs) (hp : own_in p2 15) (hn : own_in p3 16) :
    MetFree l (⟨"com/example/amherst/amherst/ByteStringTable", "key", "([BII)J"⟩ : MethodName) (head1 (Jvm.Cond.code (⟨"com/example/amherst/amherst/ByteStringTable", "key", "([BII)J"⟩ : MethodName) prog_4_method_13_code 7 (some .long) :: ws) ({ frames := 1, cells := 0, slots := 0, locals := 16 } : Room)) (fun a U => a = #[(.ref a1), (.int p2), (.int p3)] ∧ Z.Warmed39 U.vm ∧ U.heap = h0) (fun _ _ _ _ _ => True) (fun _ U o U' => ∃ v L, o = .returned v ∧ Q4 Z a1 p2 p3 ka vs h0 n0 v U'.heap L ∧ FrameEnd U o U' L ({ frames := 1, cells := 0, slots := 0, locals := 16 } : Room).cells ({ frames := 1, cells := 0, slots := 0, locals := 16 } : Room).slots) := by
  refine MetFree.of_bodySF (plainFor_of_name pn_4) hisR ?_
  intro p e s m args below meth c s₁ Bd hml0 hP hK
  obtain ⟨rfl, hZ, hh⟩ := hP
  have hx := Bd.exec
  have hby := Bd.bytes
  have hml : c.maxLocals = 7 := hml0
  have hown : s.vm.findClass "com/example/amherst/amherst/ByteStringTable" = some m.cls := findClass_of_methodNamed Bd.named
  have hnm := (name_of_methodNamed Bd.named Bd.method).1
  have X0 : Stand p l e ({ frames := 1, cells := 0, slots := 0, locals := 16 } : Room) s m #[(.ref a1), (.int p2), (.int p3)] below meth c s₁ [] 0 0 := Stand.of_body Bd
  have e0 : s₁.heap = h0 := by rw [← hh, Bd.state]; rfl
  have N0 := Fr.nil n0
  have K0 := Keep.refl h0 ([] : List Addr)
  have pre0 : ∀ t, Steps p.tables e below (s₁.setTop (mkF m 0 #[.val (.ref a1), .val (.int p2), .val (.int p3), .unset, .unset, .unset, .unset] [])) t → Steps p.tables e below (s₁.setTop (entryFrame m #[(.ref a1), (.int p2), (.int p3)] 7)) t := fun t k => castTop (ef_4 m a1 p2 p3) k
  obtain ⟨v2, hv2⟩ : ∃ z : Int32, z = if (8 : Int32) < p3 then (0 : Int32) else (1 : Int32) := ⟨_, rfl⟩
  have mg3 : ∀ t, Steps p.tables e below (s₁.setTop (mkF m 13 #[.val (.ref a1), .val (.int p2), .val (.int p3), .val (.long (0 : Int64)), .second, .unset, .unset] [(.int v2)])) t → Steps p.tables e below (s₁.setTop (mkF m 5 #[.val (.ref a1), .val (.int p2), .val (.int p3), .val (.long (0 : Int64)), .second, .unset, .unset] [(.int (8 : Int32)), (.int p3)])) t := by
    intro t kt
    by_cases hm1 : (8 : Int32) < p3
    ·
      have ev2 : v2 = (0 : Int32) := by rw [hv2, if_pos hm1]
      rw [ev2] at kt
      refine (fun t (k : Steps p.tables e below (s₁.setTop (mkF m 5 #[.val (.ref a1), .val (.int p2), .val (.int p3), .val (.long (0 : Int64)), .second, .unset, .unset] [(.int (8 : Int32)), (.int p3)])) t) => k) _ ?_
      refine XS.icmpYes X0.here hx rfl (pc0 := 5) (pc' := 12) rfl (hb hby d4_5) rfl (tlt hm1).2.2.1 (by decide) (by decide) ?_
      show Steps p.tables e below (s₁.setTop (mkF m 12 #[.val (.ref a1), .val (.int p2), .val (.int p3), .val (.long (0 : Int64)), .second, .unset, .unset] [])) _
      refine XS.iconst X0.here hx rfl (hb hby d4_12) ?_
      show Steps p.tables e below (s₁.setTop (mkF m 13 #[.val (.ref a1), .val (.int p2), .val (.int p3), .val (.long (0 : Int64)), .second, .unset, .unset] [(.int (0 : Int32))])) _
      exact kt
    ·
      have ev2 : v2 = (1 : Int32) := by rw [hv2, if_neg hm1]
      rw [ev2] at kt
      refine (fun t (k : Steps p.tables e below (s₁.setTop (mkF m 5 #[.val (.ref a1), .val (.int p2), .val (.int p3), .val (.long (0 : Int64)), .second, .unset, .unset] [(.int (8 : Int32)), (.int p3)])) t) => k) _ ?_
      refine XS.icmpNo X0.here hx rfl (hb hby d4_5) rfl (flt hm1).2.2.1 ?_
      show Steps p.tables e below (s₁.setTop (mkF m 8 #[.val (.ref a1), .val (.int p2), .val (.int p3), .val (.long (0 : Int64)), .second, .unset, .unset] [])) _
      refine XS.iconst X0.here hx rfl (hb hby d4_8) ?_
      show Steps p.tables e below (s₁.setTop (mkF m 9 #[.val (.ref a1), .val (.int p2), .val (.int p3), .val (.long (0 : Int64)), .second, .unset, .unset] [(.int (1 : Int32))])) _
      refine XS.goto X0.here hx rfl (pc0 := 9) (pc' := 13) rfl (hb hby d4_9) (by decide) (by decide) ?_
      show Steps p.tables e below (s₁.setTop (mkF m 13 #[.val (.ref a1), .val (.int p2), .val (.int p3), .val (.long (0 : Int64)), .second, .unset, .unset] [(.int (1 : Int32))])) _
      exact kt
  have pre4 : ∀ t, Steps p.tables e below (s₁.setTop (mkF m 18 #[.val (.ref a1), .val (.int p2), .val (.int p3), .val (.long (0 : Int64)), .second, .val (.int v2), .val (.int (0 : Int32))] [])) t → Steps p.tables e below (s₁.setTop (entryFrame m #[(.ref a1), (.int p2), (.int p3)] 7)) t := by
    intro t kt
    refine pre0 _ ?_
    show Steps p.tables e below (s₁.setTop (mkF m 0 #[.val (.ref a1), .val (.int p2), .val (.int p3), .unset, .unset, .unset, .unset] [])) _
    refine XS.lconst X0.here hx rfl (hb hby d4_0) ?_
    show Steps p.tables e below (s₁.setTop (mkF m 1 #[.val (.ref a1), .val (.int p2), .val (.int p3), .unset, .unset, .unset, .unset] [(.long (0 : Int64))])) _
    refine XS.lstoreN X0.here hx rfl (hb hby d4_1) rfl (l' := #[.val (.ref a1), .val (.int p2), .val (.int p3), .val (.long (0 : Int64)), .second, .unset, .unset]) rfl ?_
    show Steps p.tables e below (s₁.setTop (mkF m 2 #[.val (.ref a1), .val (.int p2), .val (.int p3), .val (.long (0 : Int64)), .second, .unset, .unset] [])) _
    refine XS.iloadN X0.here hx rfl (hb hby d4_2) rfl ?_
    show Steps p.tables e below (s₁.setTop (mkF m 3 #[.val (.ref a1), .val (.int p2), .val (.int p3), .val (.long (0 : Int64)), .second, .unset, .unset] [(.int p3)])) _
    refine XS.bipush X0.here hx rfl (hb hby d4_3) ?_
    show Steps p.tables e below (s₁.setTop (mkF m 5 #[.val (.ref a1), .val (.int p2), .val (.int p3), .val (.long (0 : Int64)), .second, .unset, .unset] [(.int (8 : Int32)), (.int p3)])) _
    refine mg3 _ ?_
    show Steps p.tables e below (s₁.setTop (mkF m 13 #[.val (.ref a1), .val (.int p2), .val (.int p3), .val (.long (0 : Int64)), .second, .unset, .unset] [(.int v2)])) _
    refine XS.istore X0.here hx rfl (hb hby d4_13) rfl (l' := #[.val (.ref a1), .val (.int p2), .val (.int p3), .val (.long (0 : Int64)), .second, .val (.int v2), .unset]) rfl ?_
    show Steps p.tables e below (s₁.setTop (mkF m 15 #[.val (.ref a1), .val (.int p2), .val (.int p3), .val (.long (0 : Int64)), .second, .val (.int v2), .unset] [])) _
    refine XS.iconst X0.here hx rfl (hb hby d4_15) ?_
    show Steps p.tables e below (s₁.setTop (mkF m 16 #[.val (.ref a1), .val (.int p2), .val (.int p3), .val (.long (0 : Int64)), .second, .val (.int v2), .unset] [(.int (0 : Int32))])) _
    refine XS.istore X0.here hx rfl (hb hby d4_16) rfl (l' := #[.val (.ref a1), .val (.int p2), .val (.int p3), .val (.long (0 : Int64)), .second, .val (.int v2), .val (.int (0 : Int32))]) rfl ?_
    show Steps p.tables e below (s₁.setTop (mkF m 18 #[.val (.ref a1), .val (.int p2), .val (.int p3), .val (.long (0 : Int64)), .second, .val (.int v2), .val (.int (0 : Int32))] [])) _
    exact kt
  have lp : ∀ (k : Nat) (ky : Int64) (cm i : Int32), i.toInt + k = p3.toInt → 0 ≤ i.toInt → ∃ (k' : Int64) (c' i' : Int32), ∀ t, Steps p.tables e below (s₁.setTop (mkF m 71 #[.val (.ref a1), .val (.int p2), .val (.int p3), .val (.long k'), .second, .val (.int c'), .val (.int i')] [])) t → Steps p.tables e below (s₁.setTop (mkF m 18 #[.val (.ref a1), .val (.int p2), .val (.int p3), .val (.long ky), .second, .val (.int cm), .val (.int i)] [])) t := by
    intro k
    induction k with
    | zero =>
      intro ky cm i h1 h2
      have hk : ¬ i < p3 := own_nlt (by omega)
      refine ⟨ky, cm, i, fun t kt => ?_⟩
      have hk5 : ¬ (i < p3) := hk
      show Steps p.tables e below (s₁.setTop (mkF m 18 #[.val (.ref a1), .val (.int p2), .val (.int p3), .val (.long ky), .second, .val (.int cm), .val (.int i)] [])) _
      refine XS.iload X0.here hx rfl (hb hby d4_18) rfl ?_
      show Steps p.tables e below (s₁.setTop (mkF m 20 #[.val (.ref a1), .val (.int p2), .val (.int p3), .val (.long ky), .second, .val (.int cm), .val (.int i)] [(.int i)])) _
      refine XS.iloadN X0.here hx rfl (hb hby d4_20) rfl ?_
      show Steps p.tables e below (s₁.setTop (mkF m 21 #[.val (.ref a1), .val (.int p2), .val (.int p3), .val (.long ky), .second, .val (.int cm), .val (.int i)] [(.int p3), (.int i)])) _
      refine XS.icmpYes X0.here hx rfl (pc0 := 21) (pc' := 71) rfl (hb hby d4_21) rfl (flt hk5).2.1 (by decide) (by decide) ?_
      show Steps p.tables e below (s₁.setTop (mkF m 71 #[.val (.ref a1), .val (.int p2), .val (.int p3), .val (.long ky), .second, .val (.int cm), .val (.int i)] [])) _
      exact kt
    | succ k ih =>
      intro ky cm i h1 h2
      have hk : i < p3 := own_lt (by omega)
      by_cases hcm : cm = 0
      ·
        refine ⟨ky, cm, i, fun t kt => ?_⟩
        have hk6 : i < p3 := hk
        have hk7 : cm = (0 : Int32) := hcm
        show Steps p.tables e below (s₁.setTop (mkF m 18 #[.val (.ref a1), .val (.int p2), .val (.int p3), .val (.long ky), .second, .val (.int cm), .val (.int i)] [])) _
        refine XS.iload X0.here hx rfl (hb hby d4_18) rfl ?_
        show Steps p.tables e below (s₁.setTop (mkF m 20 #[.val (.ref a1), .val (.int p2), .val (.int p3), .val (.long ky), .second, .val (.int cm), .val (.int i)] [(.int i)])) _
        refine XS.iloadN X0.here hx rfl (hb hby d4_20) rfl ?_
        show Steps p.tables e below (s₁.setTop (mkF m 21 #[.val (.ref a1), .val (.int p2), .val (.int p3), .val (.long ky), .second, .val (.int cm), .val (.int i)] [(.int p3), (.int i)])) _
        refine XS.icmpNo X0.here hx rfl (hb hby d4_21) rfl (tlt hk6).2.1 ?_
        show Steps p.tables e below (s₁.setTop (mkF m 24 #[.val (.ref a1), .val (.int p2), .val (.int p3), .val (.long ky), .second, .val (.int cm), .val (.int i)] [])) _
        refine XS.iload X0.here hx rfl (hb hby d4_24) rfl ?_
        show Steps p.tables e below (s₁.setTop (mkF m 26 #[.val (.ref a1), .val (.int p2), .val (.int p3), .val (.long ky), .second, .val (.int cm), .val (.int i)] [(.int cm)])) _
        refine XS.ifYes X0.here hx rfl (pc0 := 26) (pc' := 71) rfl (hb hby d4_26) rfl ((if0 _ _).trans (teq hk7).1) (by decide) (by decide) ?_
        show Steps p.tables e below (s₁.setTop (mkF m 71 #[.val (.ref a1), .val (.int p2), .val (.int p3), .val (.long ky), .second, .val (.int cm), .val (.int i)] [])) _
        exact kt
      ·
        have hb2 := own_ib hp hn h2 hk
        have hn1 := hn.2
        have hic := own_inc (i := i) (by omega) (by omega)
        have hk8 : i < p3 := hk
        have hk9 : ¬ (cm = (0 : Int32)) := hcm
        obtain ⟨x11, hx11⟩ := hint ((p2 + i)).toNatClampNeg
        obtain ⟨clo10, Aro10, -, So10, No10, Ho10, -⟩ := id V_a1
        have hino10 : ¬ ((p2 + i) < 0 ∨ clo10.slots.size ≤ ((p2 + i)).toNatClampNeg) := inb_of So10 hb2
        have hato10 : clo10.slots[((p2 + i)).toNatClampNeg]? = some (.int x11) := Ho10.at hino10 hx11
        obtain ⟨v13, hv13⟩ : ∃ z : Int32, z = if x11 = (0 : Int32) then (0 : Int32) else (1 : Int32) := ⟨_, rfl⟩
        have mg14 : ∀ t, Steps p.tables e below (s₁.setTop (mkF m 43 #[.val (.ref a1), .val (.int p2), .val (.int p3), .val (.long ky), .second, .val (.int cm), .val (.int i)] [(.int v13)])) t → Steps p.tables e below (s₁.setTop (mkF m 35 #[.val (.ref a1), .val (.int p2), .val (.int p3), .val (.long ky), .second, .val (.int cm), .val (.int i)] [(.int x11)])) t := by
          intro t kt
          by_cases hm12 : x11 = (0 : Int32)
          ·
            have ev13 : v13 = (0 : Int32) := by rw [hv13, if_pos hm12]
            rw [ev13] at kt
            refine (fun t (k : Steps p.tables e below (s₁.setTop (mkF m 35 #[.val (.ref a1), .val (.int p2), .val (.int p3), .val (.long ky), .second, .val (.int cm), .val (.int i)] [(.int x11)])) t) => k) _ ?_
            refine XS.ifYes X0.here hx rfl (pc0 := 35) (pc' := 42) rfl (hb hby d4_35) rfl ((if0 _ _).trans (teq hm12).1) (by decide) (by decide) ?_
            show Steps p.tables e below (s₁.setTop (mkF m 42 #[.val (.ref a1), .val (.int p2), .val (.int p3), .val (.long ky), .second, .val (.int cm), .val (.int i)] [])) _
            refine XS.iconst X0.here hx rfl (hb hby d4_42) ?_
            show Steps p.tables e below (s₁.setTop (mkF m 43 #[.val (.ref a1), .val (.int p2), .val (.int p3), .val (.long ky), .second, .val (.int cm), .val (.int i)] [(.int (0 : Int32))])) _
            exact kt
          ·
            have ev13 : v13 = (1 : Int32) := by rw [hv13, if_neg hm12]
            rw [ev13] at kt
            refine (fun t (k : Steps p.tables e below (s₁.setTop (mkF m 35 #[.val (.ref a1), .val (.int p2), .val (.int p3), .val (.long ky), .second, .val (.int cm), .val (.int i)] [(.int x11)])) t) => k) _ ?_
            refine XS.ifNo X0.here hx rfl (hb hby d4_35) rfl ((if0 _ _).trans (feq hm12).1) ?_
            show Steps p.tables e below (s₁.setTop (mkF m 38 #[.val (.ref a1), .val (.int p2), .val (.int p3), .val (.long ky), .second, .val (.int cm), .val (.int i)] [])) _
            refine XS.iconst X0.here hx rfl (hb hby d4_38) ?_
            show Steps p.tables e below (s₁.setTop (mkF m 39 #[.val (.ref a1), .val (.int p2), .val (.int p3), .val (.long ky), .second, .val (.int cm), .val (.int i)] [(.int (1 : Int32))])) _
            refine XS.goto X0.here hx rfl (pc0 := 39) (pc' := 43) rfl (hb hby d4_39) (by decide) (by decide) ?_
            show Steps p.tables e below (s₁.setTop (mkF m 43 #[.val (.ref a1), .val (.int p2), .val (.int p3), .val (.long ky), .second, .val (.int cm), .val (.int i)] [(.int (1 : Int32))])) _
            exact kt
        obtain ⟨x16, hx16⟩ := hint ((p2 + i)).toNatClampNeg
        obtain ⟨clo15, Aro15, -, So15, No15, Ho15, -⟩ := id V_a1
        have hino15 : ¬ ((p2 + i) < 0 ∨ clo15.slots.size ≤ ((p2 + i)).toNatClampNeg) := inb_of So15 hb2
        have hato15 : clo15.slots[((p2 + i)).toNatClampNeg]? = some (.int x16) := Ho15.at hino15 hx16
        obtain ⟨k', c', i', hg⟩ := ih (ky ||| (((x16.toInt64) &&& (255 : Int64)) <<< (((8 : Int32) * i) &&& 0x3f).toInt64)) v13 (i + (1 : Int32)) (by omega) (by omega)
        refine ⟨k', c', i', fun t kt => ?_⟩
        show Steps p.tables e below (s₁.setTop (mkF m 18 #[.val (.ref a1), .val (.int p2), .val (.int p3), .val (.long ky), .second, .val (.int cm), .val (.int i)] [])) _
        refine XS.iload X0.here hx rfl (hb hby d4_18) rfl ?_
        show Steps p.tables e below (s₁.setTop (mkF m 20 #[.val (.ref a1), .val (.int p2), .val (.int p3), .val (.long ky), .second, .val (.int cm), .val (.int i)] [(.int i)])) _
        refine XS.iloadN X0.here hx rfl (hb hby d4_20) rfl ?_
        show Steps p.tables e below (s₁.setTop (mkF m 21 #[.val (.ref a1), .val (.int p2), .val (.int p3), .val (.long ky), .second, .val (.int cm), .val (.int i)] [(.int p3), (.int i)])) _
        refine XS.icmpNo X0.here hx rfl (hb hby d4_21) rfl (tlt hk8).2.1 ?_
        show Steps p.tables e below (s₁.setTop (mkF m 24 #[.val (.ref a1), .val (.int p2), .val (.int p3), .val (.long ky), .second, .val (.int cm), .val (.int i)] [])) _
        refine XS.iload X0.here hx rfl (hb hby d4_24) rfl ?_
        show Steps p.tables e below (s₁.setTop (mkF m 26 #[.val (.ref a1), .val (.int p2), .val (.int p3), .val (.long ky), .second, .val (.int cm), .val (.int i)] [(.int cm)])) _
        refine XS.ifNo X0.here hx rfl (hb hby d4_26) rfl ((if0 _ _).trans (feq hk9).1) ?_
        show Steps p.tables e below (s₁.setTop (mkF m 29 #[.val (.ref a1), .val (.int p2), .val (.int p3), .val (.long ky), .second, .val (.int cm), .val (.int i)] [])) _
        refine XS.aloadN X0.here hx rfl (hb hby d4_29) rfl rfl ?_
        show Steps p.tables e below (s₁.setTop (mkF m 30 #[.val (.ref a1), .val (.int p2), .val (.int p3), .val (.long ky), .second, .val (.int cm), .val (.int i)] [(.ref a1)])) _
        refine XS.iloadN X0.here hx rfl (hb hby d4_30) rfl ?_
        show Steps p.tables e below (s₁.setTop (mkF m 31 #[.val (.ref a1), .val (.int p2), .val (.int p3), .val (.long ky), .second, .val (.int cm), .val (.int i)] [(.int p2), (.ref a1)])) _
        refine XS.iload X0.here hx rfl (hb hby d4_31) rfl ?_
        show Steps p.tables e below (s₁.setTop (mkF m 33 #[.val (.ref a1), .val (.int p2), .val (.int p3), .val (.long ky), .second, .val (.int cm), .val (.int i)] [(.int i), (.int p2), (.ref a1)])) _
        refine XS.iadd X0.here hx rfl (hb hby d4_33) rfl ?_
        show Steps p.tables e below (s₁.setTop (mkF m 34 #[.val (.ref a1), .val (.int p2), .val (.int p3), .val (.long ky), .second, .val (.int cm), .val (.int i)] [(.int (p2 + i)), (.ref a1)])) _
        refine X0.baloadBytes hx (j := (p2 + i)) (v := (.int x11)) (by rw [e0]; exact Aro10.1) (State.isArrayOf_alike hZ.alike Aro10.2.1) Aro10.2.2 hino10 hato10 (g := (mkF m 34 #[.val (.ref a1), .val (.int p2), .val (.int p3), .val (.long ky), .second, .val (.int cm), .val (.int i)] [(.int (p2 + i)), (.ref a1)])) rfl rfl (hb hby d4_34) _ ?_
        show Steps p.tables e below (s₁.setTop (mkF m 35 #[.val (.ref a1), .val (.int p2), .val (.int p3), .val (.long ky), .second, .val (.int cm), .val (.int i)] [(.int x11)])) _
        refine mg14 _ ?_
        show Steps p.tables e below (s₁.setTop (mkF m 43 #[.val (.ref a1), .val (.int p2), .val (.int p3), .val (.long ky), .second, .val (.int cm), .val (.int i)] [(.int v13)])) _
        refine XS.istore X0.here hx rfl (hb hby d4_43) rfl (l' := #[.val (.ref a1), .val (.int p2), .val (.int p3), .val (.long ky), .second, .val (.int v13), .val (.int i)]) rfl ?_
        show Steps p.tables e below (s₁.setTop (mkF m 45 #[.val (.ref a1), .val (.int p2), .val (.int p3), .val (.long ky), .second, .val (.int v13), .val (.int i)] [])) _
        refine XS.lloadN X0.here hx rfl (hb hby d4_45) rfl ?_
        show Steps p.tables e below (s₁.setTop (mkF m 46 #[.val (.ref a1), .val (.int p2), .val (.int p3), .val (.long ky), .second, .val (.int v13), .val (.int i)] [(.long ky)])) _
        refine XS.aloadN X0.here hx rfl (hb hby d4_46) rfl rfl ?_
        show Steps p.tables e below (s₁.setTop (mkF m 47 #[.val (.ref a1), .val (.int p2), .val (.int p3), .val (.long ky), .second, .val (.int v13), .val (.int i)] [(.ref a1), (.long ky)])) _
        refine XS.iloadN X0.here hx rfl (hb hby d4_47) rfl ?_
        show Steps p.tables e below (s₁.setTop (mkF m 48 #[.val (.ref a1), .val (.int p2), .val (.int p3), .val (.long ky), .second, .val (.int v13), .val (.int i)] [(.int p2), (.ref a1), (.long ky)])) _
        refine XS.iload X0.here hx rfl (hb hby d4_48) rfl ?_
        show Steps p.tables e below (s₁.setTop (mkF m 50 #[.val (.ref a1), .val (.int p2), .val (.int p3), .val (.long ky), .second, .val (.int v13), .val (.int i)] [(.int i), (.int p2), (.ref a1), (.long ky)])) _
        refine XS.iadd X0.here hx rfl (hb hby d4_50) rfl ?_
        show Steps p.tables e below (s₁.setTop (mkF m 51 #[.val (.ref a1), .val (.int p2), .val (.int p3), .val (.long ky), .second, .val (.int v13), .val (.int i)] [(.int (p2 + i)), (.ref a1), (.long ky)])) _
        refine X0.baloadBytes hx (j := (p2 + i)) (v := (.int x16)) (by rw [e0]; exact Aro15.1) (State.isArrayOf_alike hZ.alike Aro15.2.1) Aro15.2.2 hino15 hato15 (g := (mkF m 51 #[.val (.ref a1), .val (.int p2), .val (.int p3), .val (.long ky), .second, .val (.int v13), .val (.int i)] [(.int (p2 + i)), (.ref a1), (.long ky)])) rfl rfl (hb hby d4_51) _ ?_
        show Steps p.tables e below (s₁.setTop (mkF m 52 #[.val (.ref a1), .val (.int p2), .val (.int p3), .val (.long ky), .second, .val (.int v13), .val (.int i)] [(.int x16), (.long ky)])) _
        refine XS.i2l X0.here hx rfl (hb hby d4_52) rfl ?_
        show Steps p.tables e below (s₁.setTop (mkF m 53 #[.val (.ref a1), .val (.int p2), .val (.int p3), .val (.long ky), .second, .val (.int v13), .val (.int i)] [(.long (x16.toInt64)), (.long ky)])) _
        refine X0.ldc2Long hx hown (mvT hZ (hw _ (List.mem_of_getElem? (i := 51) rfl))) (g := (mkF m 53 #[.val (.ref a1), .val (.int p2), .val (.int p3), .val (.long ky), .second, .val (.int v13), .val (.int i)] [(.long (x16.toInt64)), (.long ky)])) rfl (hb hby d4_53) _ ?_
        show Steps p.tables e below (s₁.setTop (mkF m 56 #[.val (.ref a1), .val (.int p2), .val (.int p3), .val (.long ky), .second, .val (.int v13), .val (.int i)] [(.long (255 : Int64)), (.long (x16.toInt64)), (.long ky)])) _
        refine XS.land X0.here hx rfl (hb hby d4_56) rfl ?_
        show Steps p.tables e below (s₁.setTop (mkF m 57 #[.val (.ref a1), .val (.int p2), .val (.int p3), .val (.long ky), .second, .val (.int v13), .val (.int i)] [(.long ((x16.toInt64) &&& (255 : Int64))), (.long ky)])) _
        refine XS.bipush X0.here hx rfl (hb hby d4_57) ?_
        show Steps p.tables e below (s₁.setTop (mkF m 59 #[.val (.ref a1), .val (.int p2), .val (.int p3), .val (.long ky), .second, .val (.int v13), .val (.int i)] [(.int (8 : Int32)), (.long ((x16.toInt64) &&& (255 : Int64))), (.long ky)])) _
        refine XS.iload X0.here hx rfl (hb hby d4_59) rfl ?_
        show Steps p.tables e below (s₁.setTop (mkF m 61 #[.val (.ref a1), .val (.int p2), .val (.int p3), .val (.long ky), .second, .val (.int v13), .val (.int i)] [(.int i), (.int (8 : Int32)), (.long ((x16.toInt64) &&& (255 : Int64))), (.long ky)])) _
        refine XS.imul X0.here hx rfl (hb hby d4_61) rfl ?_
        show Steps p.tables e below (s₁.setTop (mkF m 62 #[.val (.ref a1), .val (.int p2), .val (.int p3), .val (.long ky), .second, .val (.int v13), .val (.int i)] [(.int ((8 : Int32) * i)), (.long ((x16.toInt64) &&& (255 : Int64))), (.long ky)])) _
        refine XS.lshl X0.here hx rfl (hb hby d4_62) rfl ?_
        show Steps p.tables e below (s₁.setTop (mkF m 63 #[.val (.ref a1), .val (.int p2), .val (.int p3), .val (.long ky), .second, .val (.int v13), .val (.int i)] [(.long (((x16.toInt64) &&& (255 : Int64)) <<< (((8 : Int32) * i) &&& 0x3f).toInt64)), (.long ky)])) _
        refine XS.lor X0.here hx rfl (hb hby d4_63) rfl ?_
        show Steps p.tables e below (s₁.setTop (mkF m 64 #[.val (.ref a1), .val (.int p2), .val (.int p3), .val (.long ky), .second, .val (.int v13), .val (.int i)] [(.long (ky ||| (((x16.toInt64) &&& (255 : Int64)) <<< (((8 : Int32) * i) &&& 0x3f).toInt64)))])) _
        refine XS.lstoreN X0.here hx rfl (hb hby d4_64) rfl (l' := #[.val (.ref a1), .val (.int p2), .val (.int p3), .val (.long (ky ||| (((x16.toInt64) &&& (255 : Int64)) <<< (((8 : Int32) * i) &&& 0x3f).toInt64))), .second, .val (.int v13), .val (.int i)]) rfl ?_
        show Steps p.tables e below (s₁.setTop (mkF m 65 #[.val (.ref a1), .val (.int p2), .val (.int p3), .val (.long (ky ||| (((x16.toInt64) &&& (255 : Int64)) <<< (((8 : Int32) * i) &&& 0x3f).toInt64))), .second, .val (.int v13), .val (.int i)] [])) _
        refine XS.iinc X0.here hx rfl (hb hby d4_65) rfl (l' := #[.val (.ref a1), .val (.int p2), .val (.int p3), .val (.long (ky ||| (((x16.toInt64) &&& (255 : Int64)) <<< (((8 : Int32) * i) &&& 0x3f).toInt64))), .second, .val (.int v13), .val (.int (i + (1 : Int32)))]) rfl ?_
        show Steps p.tables e below (s₁.setTop (mkF m 68 #[.val (.ref a1), .val (.int p2), .val (.int p3), .val (.long (ky ||| (((x16.toInt64) &&& (255 : Int64)) <<< (((8 : Int32) * i) &&& 0x3f).toInt64))), .second, .val (.int v13), .val (.int (i + (1 : Int32)))] [])) _
        refine XS.goto X0.here hx rfl (pc0 := 68) (pc' := 18) rfl (hb hby d4_68) (by decide) (by decide) ?_
        show Steps p.tables e below (s₁.setTop (mkF m 18 #[.val (.ref a1), .val (.int p2), .val (.int p3), .val (.long (ky ||| (((x16.toInt64) &&& (255 : Int64)) <<< (((8 : Int32) * i) &&& 0x3f).toInt64))), .second, .val (.int v13), .val (.int (i + (1 : Int32)))] [])) _
        exact hg t kt
  obtain ⟨k', c', i', hl⟩ := lp p3.toInt.toNat 0 v2 0 (by have := hn.1; have z : (0 : Int32).toInt = 0 := rfl; omega) (by decide)
  have pre17 : ∀ t, Steps p.tables e below (s₁.setTop (mkF m 73 #[.val (.ref a1), .val (.int p2), .val (.int p3), .val (.long k'), .second, .val (.int c'), .val (.int i')] [(.int c')])) t → Steps p.tables e below (s₁.setTop (entryFrame m #[(.ref a1), (.int p2), (.int p3)] 7)) t := by
    intro t kt
    refine pre4 _ ?_
    show Steps p.tables e below (s₁.setTop (mkF m 18 #[.val (.ref a1), .val (.int p2), .val (.int p3), .val (.long (0 : Int64)), .second, .val (.int v2), .val (.int (0 : Int32))] [])) _
    refine hl _ ?_
    show Steps p.tables e below (s₁.setTop (mkF m 71 #[.val (.ref a1), .val (.int p2), .val (.int p3), .val (.long k'), .second, .val (.int c'), .val (.int i')] [])) _
    refine XS.iload X0.here hx rfl (hb hby d4_71) rfl ?_
    show Steps p.tables e below (s₁.setTop (mkF m 73 #[.val (.ref a1), .val (.int p2), .val (.int p3), .val (.long k'), .second, .val (.int c'), .val (.int i')] [(.int c')])) _
    exact kt
  by_cases hc73_18 : c' = (0 : Int32)
  ·
    obtain ⟨_, _, ⟨T19, L19, k19, n19⟩, -, X19, ⟨Lc19, hQ19, l19, y19, z19⟩, st19⟩ := Jvm.LawKit.callS X0 hx (y := (⟨"com/example/amherst/amherst/ByteStringTable", "hash", "([BII)I"⟩ : MethodName)) hown (mvT hZ (hw _ (List.mem_of_getElem? (i := 32) rfl))) (mvT hZ (hw _ (List.mem_of_getElem? (i := 33) rfl))) (mvT hZ (hw _ (List.mem_of_getElem? (i := 3) rfl))) (mvT hZ (hw _ (List.mem_of_getElem? (i := 34) rfl))) (by decide) (backOf (W := 0) (rm5 l Z a0 hw [] a1 p2 p3 ka vs h0 n0 Z0 V_a1 hint hp hn) hZ (hw _ (List.mem_of_getElem? (i := 34) rfl)) (hw _ (List.mem_of_getElem? (i := 3) rfl)) (by decide) (by decide)) (g := (mkF m 87 #[.val (.ref a1), .val (.int p2), .val (.int p3), .val (.long k'), .second, .val (.int c'), .val (.int i')] [(.int p3), (.int p2), (.ref a1)])) rfl (by rw [hml]; rfl) (argsL := [(.ref a1), (.int p2), (.int p3)]) (rest := []) (lenOf pd___BII_I rfl) rfl (by show 2 * 0 + _ ≤ _; exact Nat.le_of_eq rfl) (hb hby d4_87) (fun _ _ => ⟨rfl, e0, (by decide : 0 + 0 ≤ _), (by decide : 0 + 0 ≤ _)⟩)
    dsimp only [Pt.U, Pt.locs, Pt.cells, Pt.slots] at X19 l19 y19 z19 st19 hQ19
    subst l19 y19 z19
    obtain ⟨z19, rfl, N19q, hq19⟩ := hQ19
    have N19 := Fr.app N0 N19q
    obtain ⟨fs, hr, hrun, hended, hW, hsame⟩ := X19.leave (v := some (.long (((z19.toInt64) <<< ((32 : Int32) &&& 0x3f).toInt64) ||| (256 : Int64)))) (fun h => by rw [Bd.returns] at h; cases h)
    refine ⟨_, _, pre17 _ ?_, hrun, hended, _, _, rfl, ?_, ⟨_, rfl⟩, hW, hsame.mono (by decide) (by decide)⟩
    ·
      show Steps p.tables e below (s₁.setTop (mkF m 73 #[.val (.ref a1), .val (.int p2), .val (.int p3), .val (.long k'), .second, .val (.int c'), .val (.int i')] [(.int c')])) _
      refine XS.ifYes X0.here hx rfl (pc0 := 73) (pc' := 84) rfl (hb hby d4_73) rfl ((if0 _ _).trans (teq hc73_18).1) (by decide) (by decide) ?_
      show Steps p.tables e below (s₁.setTop (mkF m 84 #[.val (.ref a1), .val (.int p2), .val (.int p3), .val (.long k'), .second, .val (.int c'), .val (.int i')] [])) _
      refine XS.aloadN X0.here hx rfl (hb hby d4_84) rfl rfl ?_
      show Steps p.tables e below (s₁.setTop (mkF m 85 #[.val (.ref a1), .val (.int p2), .val (.int p3), .val (.long k'), .second, .val (.int c'), .val (.int i')] [(.ref a1)])) _
      refine XS.iloadN X0.here hx rfl (hb hby d4_85) rfl ?_
      show Steps p.tables e below (s₁.setTop (mkF m 86 #[.val (.ref a1), .val (.int p2), .val (.int p3), .val (.long k'), .second, .val (.int c'), .val (.int i')] [(.int p2), (.ref a1)])) _
      refine XS.iloadN X0.here hx rfl (hb hby d4_86) rfl ?_
      show Steps p.tables e below (s₁.setTop (mkF m 87 #[.val (.ref a1), .val (.int p2), .val (.int p3), .val (.long k'), .second, .val (.int c'), .val (.int i')] [(.int p3), (.int p2), (.ref a1)])) _
      refine st19 _ ?_
      show Steps p.tables e below (T19.setTop (mkF m 90 #[.val (.ref a1), .val (.int p2), .val (.int p3), .val (.long k'), .second, .val (.int c'), .val (.int i')] [(.int z19)])) _
      refine XS.i2l X19.here hx rfl (hb hby d4_90) rfl ?_
      show Steps p.tables e below (T19.setTop (mkF m 91 #[.val (.ref a1), .val (.int p2), .val (.int p3), .val (.long k'), .second, .val (.int c'), .val (.int i')] [(.long (z19.toInt64))])) _
      refine XS.bipush X19.here hx rfl (hb hby d4_91) ?_
      show Steps p.tables e below (T19.setTop (mkF m 93 #[.val (.ref a1), .val (.int p2), .val (.int p3), .val (.long k'), .second, .val (.int c'), .val (.int i')] [(.int (32 : Int32)), (.long (z19.toInt64))])) _
      refine XS.lshl X19.here hx rfl (hb hby d4_93) rfl ?_
      show Steps p.tables e below (T19.setTop (mkF m 94 #[.val (.ref a1), .val (.int p2), .val (.int p3), .val (.long k'), .second, .val (.int c'), .val (.int i')] [(.long ((z19.toInt64) <<< ((32 : Int32) &&& 0x3f).toInt64))])) _
      refine X19.ldc2Long hx hown (mvT hZ (hw _ (List.mem_of_getElem? (i := 35) rfl))) (g := (mkF m 94 #[.val (.ref a1), .val (.int p2), .val (.int p3), .val (.long k'), .second, .val (.int c'), .val (.int i')] [(.long ((z19.toInt64) <<< ((32 : Int32) &&& 0x3f).toInt64))])) rfl (hb hby d4_94) _ ?_
      show Steps p.tables e below (T19.setTop (mkF m 97 #[.val (.ref a1), .val (.int p2), .val (.int p3), .val (.long k'), .second, .val (.int c'), .val (.int i')] [(.long (256 : Int64)), (.long ((z19.toInt64) <<< ((32 : Int32) &&& 0x3f).toInt64))])) _
      refine XS.lor X19.here hx rfl (hb hby d4_97) rfl ?_
      show Steps p.tables e below (T19.setTop (mkF m 98 #[.val (.ref a1), .val (.int p2), .val (.int p3), .val (.long k'), .second, .val (.int c'), .val (.int i')] [(.long (((z19.toInt64) <<< ((32 : Int32) &&& 0x3f).toInt64) ||| (256 : Int64)))])) _
      exact X19.lreturnOut hx Bd.returns (hb hby d4_98) hr
    ·
      show Q4 Z a1 p2 p3 ka vs h0 n0 _ T19.heap _
      rw [hq19]
      exact ⟨_, rfl, N19, rfl⟩
  ·
    have pre20 : ∀ t, Steps p.tables e below (s₁.setTop (mkF m 77 #[.val (.ref a1), .val (.int p2), .val (.int p3), .val (.long k'), .second, .val (.int c'), .val (.int i')] [(.int p3)])) t → Steps p.tables e below (s₁.setTop (entryFrame m #[(.ref a1), (.int p2), (.int p3)] 7)) t := by
      intro t kt
      refine pre17 _ ?_
      show Steps p.tables e below (s₁.setTop (mkF m 73 #[.val (.ref a1), .val (.int p2), .val (.int p3), .val (.long k'), .second, .val (.int c'), .val (.int i')] [(.int c')])) _
      refine XS.ifNo X0.here hx rfl (hb hby d4_73) rfl ((if0 _ _).trans (feq hc73_18).1) ?_
      show Steps p.tables e below (s₁.setTop (mkF m 76 #[.val (.ref a1), .val (.int p2), .val (.int p3), .val (.long k'), .second, .val (.int c'), .val (.int i')] [])) _
      refine XS.iloadN X0.here hx rfl (hb hby d4_76) rfl ?_
      show Steps p.tables e below (s₁.setTop (mkF m 77 #[.val (.ref a1), .val (.int p2), .val (.int p3), .val (.long k'), .second, .val (.int c'), .val (.int i')] [(.int p3)])) _
      exact kt
    by_cases hc77_21 : (0 : Int32) < p3
    ·
      obtain ⟨fs, hr, hrun, hended, hW, hsame⟩ := X0.leave (v := some (.long k')) (fun h => by rw [Bd.returns] at h; cases h)
      refine ⟨_, _, pre20 _ ?_, hrun, hended, _, _, rfl, ?_, ⟨_, rfl⟩, hW, hsame.mono (by decide) (by decide)⟩
      ·
        show Steps p.tables e below (s₁.setTop (mkF m 77 #[.val (.ref a1), .val (.int p2), .val (.int p3), .val (.long k'), .second, .val (.int c'), .val (.int i')] [(.int p3)])) _
        refine XS.ifNo X0.here hx rfl (hb hby d4_77) rfl ((if0 _ _).trans (tlt hc77_21).2.2.2) ?_
        show Steps p.tables e below (s₁.setTop (mkF m 80 #[.val (.ref a1), .val (.int p2), .val (.int p3), .val (.long k'), .second, .val (.int c'), .val (.int i')] [])) _
        refine XS.lloadN X0.here hx rfl (hb hby d4_80) rfl ?_
        show Steps p.tables e below (s₁.setTop (mkF m 81 #[.val (.ref a1), .val (.int p2), .val (.int p3), .val (.long k'), .second, .val (.int c'), .val (.int i')] [(.long k')])) _
        refine XS.goto X0.here hx rfl (pc0 := 81) (pc' := 98) rfl (hb hby d4_81) (by decide) (by decide) ?_
        show Steps p.tables e below (s₁.setTop (mkF m 98 #[.val (.ref a1), .val (.int p2), .val (.int p3), .val (.long k'), .second, .val (.int c'), .val (.int i')] [(.long k')])) _
        exact X0.lreturnOut hx Bd.returns (hb hby d4_98) hr
      ·
        show Q4 Z a1 p2 p3 ka vs h0 n0 _ s₁.heap _
        rw [e0]
        exact ⟨_, rfl, N0, rfl⟩
    ·
      obtain ⟨_, _, ⟨T22, L22, k22, n22⟩, -, X22, ⟨Lc22, hQ22, l22, y22, z22⟩, st22⟩ := Jvm.LawKit.callS X0 hx (y := (⟨"com/example/amherst/amherst/ByteStringTable", "hash", "([BII)I"⟩ : MethodName)) hown (mvT hZ (hw _ (List.mem_of_getElem? (i := 32) rfl))) (mvT hZ (hw _ (List.mem_of_getElem? (i := 33) rfl))) (mvT hZ (hw _ (List.mem_of_getElem? (i := 3) rfl))) (mvT hZ (hw _ (List.mem_of_getElem? (i := 34) rfl))) (by decide) (backOf (W := 0) (rm5 l Z a0 hw [] a1 p2 p3 ka vs h0 n0 Z0 V_a1 hint hp hn) hZ (hw _ (List.mem_of_getElem? (i := 34) rfl)) (hw _ (List.mem_of_getElem? (i := 3) rfl)) (by decide) (by decide)) (g := (mkF m 87 #[.val (.ref a1), .val (.int p2), .val (.int p3), .val (.long k'), .second, .val (.int c'), .val (.int i')] [(.int p3), (.int p2), (.ref a1)])) rfl (by rw [hml]; rfl) (argsL := [(.ref a1), (.int p2), (.int p3)]) (rest := []) (lenOf pd___BII_I rfl) rfl (by show 2 * 0 + _ ≤ _; exact Nat.le_of_eq rfl) (hb hby d4_87) (fun _ _ => ⟨rfl, e0, (by decide : 0 + 0 ≤ _), (by decide : 0 + 0 ≤ _)⟩)
      dsimp only [Pt.U, Pt.locs, Pt.cells, Pt.slots] at X22 l22 y22 z22 st22 hQ22
      subst l22 y22 z22
      obtain ⟨z22, rfl, N22q, hq22⟩ := hQ22
      have N22 := Fr.app N0 N22q
      obtain ⟨fs, hr, hrun, hended, hW, hsame⟩ := X22.leave (v := some (.long (((z22.toInt64) <<< ((32 : Int32) &&& 0x3f).toInt64) ||| (256 : Int64)))) (fun h => by rw [Bd.returns] at h; cases h)
      refine ⟨_, _, pre20 _ ?_, hrun, hended, _, _, rfl, ?_, ⟨_, rfl⟩, hW, hsame.mono (by decide) (by decide)⟩
      ·
        show Steps p.tables e below (s₁.setTop (mkF m 77 #[.val (.ref a1), .val (.int p2), .val (.int p3), .val (.long k'), .second, .val (.int c'), .val (.int i')] [(.int p3)])) _
        refine XS.ifYes X0.here hx rfl (pc0 := 77) (pc' := 84) rfl (hb hby d4_77) rfl ((if0 _ _).trans (flt hc77_21).2.2.2) (by decide) (by decide) ?_
        show Steps p.tables e below (s₁.setTop (mkF m 84 #[.val (.ref a1), .val (.int p2), .val (.int p3), .val (.long k'), .second, .val (.int c'), .val (.int i')] [])) _
        refine XS.aloadN X0.here hx rfl (hb hby d4_84) rfl rfl ?_
        show Steps p.tables e below (s₁.setTop (mkF m 85 #[.val (.ref a1), .val (.int p2), .val (.int p3), .val (.long k'), .second, .val (.int c'), .val (.int i')] [(.ref a1)])) _
        refine XS.iloadN X0.here hx rfl (hb hby d4_85) rfl ?_
        show Steps p.tables e below (s₁.setTop (mkF m 86 #[.val (.ref a1), .val (.int p2), .val (.int p3), .val (.long k'), .second, .val (.int c'), .val (.int i')] [(.int p2), (.ref a1)])) _
        refine XS.iloadN X0.here hx rfl (hb hby d4_86) rfl ?_
        show Steps p.tables e below (s₁.setTop (mkF m 87 #[.val (.ref a1), .val (.int p2), .val (.int p3), .val (.long k'), .second, .val (.int c'), .val (.int i')] [(.int p3), (.int p2), (.ref a1)])) _
        refine st22 _ ?_
        show Steps p.tables e below (T22.setTop (mkF m 90 #[.val (.ref a1), .val (.int p2), .val (.int p3), .val (.long k'), .second, .val (.int c'), .val (.int i')] [(.int z22)])) _
        refine XS.i2l X22.here hx rfl (hb hby d4_90) rfl ?_
        show Steps p.tables e below (T22.setTop (mkF m 91 #[.val (.ref a1), .val (.int p2), .val (.int p3), .val (.long k'), .second, .val (.int c'), .val (.int i')] [(.long (z22.toInt64))])) _
        refine XS.bipush X22.here hx rfl (hb hby d4_91) ?_
        show Steps p.tables e below (T22.setTop (mkF m 93 #[.val (.ref a1), .val (.int p2), .val (.int p3), .val (.long k'), .second, .val (.int c'), .val (.int i')] [(.int (32 : Int32)), (.long (z22.toInt64))])) _
        refine XS.lshl X22.here hx rfl (hb hby d4_93) rfl ?_
        show Steps p.tables e below (T22.setTop (mkF m 94 #[.val (.ref a1), .val (.int p2), .val (.int p3), .val (.long k'), .second, .val (.int c'), .val (.int i')] [(.long ((z22.toInt64) <<< ((32 : Int32) &&& 0x3f).toInt64))])) _
        refine X22.ldc2Long hx hown (mvT hZ (hw _ (List.mem_of_getElem? (i := 35) rfl))) (g := (mkF m 94 #[.val (.ref a1), .val (.int p2), .val (.int p3), .val (.long k'), .second, .val (.int c'), .val (.int i')] [(.long ((z22.toInt64) <<< ((32 : Int32) &&& 0x3f).toInt64))])) rfl (hb hby d4_94) _ ?_
        show Steps p.tables e below (T22.setTop (mkF m 97 #[.val (.ref a1), .val (.int p2), .val (.int p3), .val (.long k'), .second, .val (.int c'), .val (.int i')] [(.long (256 : Int64)), (.long ((z22.toInt64) <<< ((32 : Int32) &&& 0x3f).toInt64))])) _
        refine XS.lor X22.here hx rfl (hb hby d4_97) rfl ?_
        show Steps p.tables e below (T22.setTop (mkF m 98 #[.val (.ref a1), .val (.int p2), .val (.int p3), .val (.long k'), .second, .val (.int c'), .val (.int i')] [(.long (((z22.toInt64) <<< ((32 : Int32) &&& 0x3f).toInt64) ||| (256 : Int64)))])) _
        exact X22.lreturnOut hx Bd.returns (hb hby d4_98) hr
      ·
        show Q4 Z a1 p2 p3 ka vs h0 n0 _ T22.heap _
        rw [hq22]
        exact ⟨_, rfl, N22, rfl⟩
theorem d6_0 : decode prog_4_method_11_code 0 = .ok (.aload_n 0, 1) := by decide +kernel
theorem d6_1 : decode prog_4_method_11_code 1 = .ok (.getfield 19, 3) := by decide +kernel
theorem d6_4 : decode prog_4_method_11_code 4 = .ok (.arraylength, 1) := by decide +kernel
theorem d6_5 : decode prog_4_method_11_code 5 = .ok (.iconst 2, 1) := by decide +kernel
theorem d6_6 : decode prog_4_method_11_code 6 = .ok (.idiv, 1) := by decide +kernel
theorem d6_7 : decode prog_4_method_11_code 7 = .ok (.iconst 1, 1) := by decide +kernel
theorem d6_8 : decode prog_4_method_11_code 8 = .ok (.isub, 1) := by decide +kernel
theorem d6_9 : decode prog_4_method_11_code 9 = .ok (.istore 5, 2) := by decide +kernel
theorem d6_11 : decode prog_4_method_11_code 11 = .ok (.lload_n 1, 1) := by decide +kernel
theorem d6_12 : decode prog_4_method_11_code 12 = .ok (.iload 5, 2) := by decide +kernel
theorem d6_14 : decode prog_4_method_11_code 14 = .ok (.invokestatic 31, 3) := by decide +kernel
theorem d6_17 : decode prog_4_method_11_code 17 = .ok (.istore 6, 2) := by decide +kernel
theorem d6_19 : decode prog_4_method_11_code 19 = .ok (.aload_n 0, 1) := by decide +kernel
theorem d6_20 : decode prog_4_method_11_code 20 = .ok (.getfield 19, 3) := by decide +kernel
theorem d6_23 : decode prog_4_method_11_code 23 = .ok (.iconst 2, 1) := by decide +kernel
theorem d6_24 : decode prog_4_method_11_code 24 = .ok (.iload 6, 2) := by decide +kernel
theorem d6_26 : decode prog_4_method_11_code 26 = .ok (.imul, 1) := by decide +kernel
theorem d6_27 : decode prog_4_method_11_code 27 = .ok (.laload, 1) := by decide +kernel
theorem d6_28 : decode prog_4_method_11_code 28 = .ok (.lconst 0, 1) := by decide +kernel
theorem d6_29 : decode prog_4_method_11_code 29 = .ok (.lcmp, 1) := by decide +kernel
theorem d6_30 : decode prog_4_method_11_code 30 = .ok (.ifCond .eq 15, 3) := by decide +kernel
theorem d6_33 : decode prog_4_method_11_code 33 = .ok (.iload 6, 2) := by decide +kernel
theorem d6_35 : decode prog_4_method_11_code 35 = .ok (.iconst 1, 1) := by decide +kernel
theorem d6_36 : decode prog_4_method_11_code 36 = .ok (.iadd, 1) := by decide +kernel
theorem d6_37 : decode prog_4_method_11_code 37 = .ok (.iload 5, 2) := by decide +kernel
theorem d6_39 : decode prog_4_method_11_code 39 = .ok (.iand, 1) := by decide +kernel
theorem d6_40 : decode prog_4_method_11_code 40 = .ok (.istore 6, 2) := by decide +kernel
theorem d6_42 : decode prog_4_method_11_code 42 = .ok (.goto (-23), 3) := by decide +kernel
theorem d6_45 : decode prog_4_method_11_code 45 = .ok (.aload_n 0, 1) := by decide +kernel
theorem d6_46 : decode prog_4_method_11_code 46 = .ok (.getfield 19, 3) := by decide +kernel
theorem d6_49 : decode prog_4_method_11_code 49 = .ok (.iconst 2, 1) := by decide +kernel
theorem d6_50 : decode prog_4_method_11_code 50 = .ok (.iload 6, 2) := by decide +kernel
theorem d6_52 : decode prog_4_method_11_code 52 = .ok (.imul, 1) := by decide +kernel
theorem d6_53 : decode prog_4_method_11_code 53 = .ok (.lload_n 1, 1) := by decide +kernel
theorem d6_54 : decode prog_4_method_11_code 54 = .ok (.lastore, 1) := by decide +kernel
theorem d6_55 : decode prog_4_method_11_code 55 = .ok (.aload_n 0, 1) := by decide +kernel
theorem d6_56 : decode prog_4_method_11_code 56 = .ok (.getfield 19, 3) := by decide +kernel
theorem d6_59 : decode prog_4_method_11_code 59 = .ok (.iconst 2, 1) := by decide +kernel
theorem d6_60 : decode prog_4_method_11_code 60 = .ok (.iload 6, 2) := by decide +kernel
theorem d6_62 : decode prog_4_method_11_code 62 = .ok (.imul, 1) := by decide +kernel
theorem d6_63 : decode prog_4_method_11_code 63 = .ok (.iconst 1, 1) := by decide +kernel
theorem d6_64 : decode prog_4_method_11_code 64 = .ok (.iadd, 1) := by decide +kernel
theorem d6_65 : decode prog_4_method_11_code 65 = .ok (.lload_n 3, 1) := by decide +kernel
theorem d6_66 : decode prog_4_method_11_code 66 = .ok (.lastore, 1) := by decide +kernel
theorem d6_67 : decode prog_4_method_11_code 67 = .ok (.return_, 1) := by decide +kernel
theorem pn_6 : plainName "com/example/amherst/amherst/ByteStringTable" = true := by first | (simp [plainName, overriddenIn]; done) | decide +kernel
theorem pd__JI_I : parseMethodDescriptor "(JI)I" = some ⟨[.long, .int], some .int⟩ := by decide +kernel
theorem ef_6 (m : MethodId) (a1 : Addr) (q2 : Int64) (q3 : Int64) : entryFrame m #[(.ref a1), (.long q2), (.long q3)] 7 = (mkF m 0 #[.val (.ref a1), .val (.long q2), .second, .val (.long q3), .second, .unset, .unset] []) := by first | (simp [entryFrame, mkF, argsToLocals, Value.category]; done) | rfl
def Q6 (Z : State) (a1 : Addr) (q2 : Int64) (q3 : Int64) (lA : Addr) (kl : ClassId) (vl : List Value) (cn : Nat) (h0 : Heap) (n0 : Nat) (v : Option Value) (h : Heap) (L : List Loc) : Prop := v = none ∧ Fr n0 L ∧ Keep h0 h [lA] ∧ ∃ vl' : List Value, vl'.length = 1024 ∧ own_longs vl' ∧ own_occ (cn + 1) vl' ∧ Arv Z h lA kl .long 1024 vl' (.long (0 : Int64))
set_option maxRecDepth 65536 in
set_option maxHeartbeats 40000000 in
theorem rm6 (l : Launch) (Z : State) (a0 : Array Value) (hw : ∀ d ∈ tables_1, d.before a0 Z = true) (ws : List Jvm.Cond) (a1 : Addr) (q2 : Int64) (q3 : Int64) (lA : Addr) (kl : ClassId) (vl : List Value) (cn : Nat) (h0 : Heap) (n0 : Nat) (Z0 : n0 ≤ h0.size) (E_a1 : Exa Z h0 a1 "com/example/amherst/amherst/ByteStringTable") (F_sl : Fld Z h0 a1 "com/example/amherst/amherst/ByteStringTable" "slots" "[J" (.ref lA)) (V_lA : Arv Z h0 lA kl .long 1024 vl (.long (0 : Int64))) (hlen : vl.length = 1024) (hlong : own_longs vl) (hocc0 : own_occ cn vl) (hcn : cn ≤ 2) (ne1l : a1 ≠ lA) (g_lA : n0 ≤ lA) :
    MetFree l (⟨"com/example/amherst/amherst/ByteStringTable", "place", "(JJ)V"⟩ : MethodName) (head1 (Jvm.Cond.code (⟨"com/example/amherst/amherst/ByteStringTable", "place", "(JJ)V"⟩ : MethodName) prog_4_method_11_code 7 none :: ws) ({ frames := 1, cells := 0, slots := 0, locals := 16 } : Room)) (fun a U => a = #[(.ref a1), (.long q2), (.long q3)] ∧ Z.Warmed39 U.vm ∧ U.heap = h0) (fun _ _ _ _ _ => True) (fun _ U o U' => ∃ v L, o = .returned v ∧ Q6 Z a1 q2 q3 lA kl vl cn h0 n0 v U'.heap L ∧ FrameEnd U o U' L ({ frames := 1, cells := 0, slots := 0, locals := 16 } : Room).cells ({ frames := 1, cells := 0, slots := 0, locals := 16 } : Room).slots) := by
  refine MetFree.of_bodySF (plainFor_of_name pn_6) hisR ?_
  intro p e s m args below meth c s₁ Bd hml0 hP hK
  obtain ⟨rfl, hZ, hh⟩ := hP
  have hx := Bd.exec
  have hby := Bd.bytes
  have hml : c.maxLocals = 7 := hml0
  have hown : s.vm.findClass "com/example/amherst/amherst/ByteStringTable" = some m.cls := findClass_of_methodNamed Bd.named
  have hnm := (name_of_methodNamed Bd.named Bd.method).1
  have X0 : Stand p l e ({ frames := 1, cells := 0, slots := 0, locals := 16 } : Room) s m #[(.ref a1), (.long q2), (.long q3)] below meth c s₁ [] 0 0 := Stand.of_body Bd
  have e0 : s₁.heap = h0 := by rw [← hh, Bd.state]; rfl
  have N0 := Fr.nil n0
  have K0 := Keep.refl h0 ([lA] : List Addr)
  have pre0 : ∀ t, Steps p.tables e below (s₁.setTop (mkF m 0 #[.val (.ref a1), .val (.long q2), .second, .val (.long q3), .second, .unset, .unset] [])) t → Steps p.tables e below (s₁.setTop (entryFrame m #[(.ref a1), (.long q2), (.long q3)] 7)) t := fun t k => castTop (ef_6 m a1 q2 q3) k
  have hocc := own_occ_le hcn hocc0
  obtain ⟨T1, X1, e1, st1⟩ := getF X0 hx hZ hown (host := "") (Or.inl (hw _ (List.mem_of_getElem? (i := 16) rfl))) Via.refl e0 F_sl (g := (mkF m 1 #[.val (.ref a1), .val (.long q2), .second, .val (.long q3), .second, .unset, .unset] [(.ref a1)])) rfl rfl (hb hby d6_1)
  obtain ⟨clo2, Aro2, -, So2, No2, -, -⟩ := id V_lA
  obtain ⟨_, _, ⟨T3, L3, k3, n3⟩, -, X3, ⟨Lc3, hQ3, l3, y3, z3⟩, st3⟩ := Jvm.LawKit.callS X1 hx (y := (⟨"com/example/amherst/amherst/ByteStringTable", "slot", "(JI)I"⟩ : MethodName)) hown (mvT hZ (hw _ (List.mem_of_getElem? (i := 41) rfl))) (mvT hZ (hw _ (List.mem_of_getElem? (i := 42) rfl))) (mvT hZ (hw _ (List.mem_of_getElem? (i := 3) rfl))) (mvT hZ (hw _ (List.mem_of_getElem? (i := 43) rfl))) (by decide) (backOf (W := 0) (rm7 l Z a0 hw [] q2 (511 : Int32) h0 n0 (Nat.le_trans Z0 K0.1)) hZ (hw _ (List.mem_of_getElem? (i := 43) rfl)) (hw _ (List.mem_of_getElem? (i := 3) rfl)) (by decide) (by decide)) (g := (mkF m 14 #[.val (.ref a1), .val (.long q2), .second, .val (.long q3), .second, .val (.int (511 : Int32)), .unset] [(.int (511 : Int32)), (.long q2)])) rfl (by rw [hml]; rfl) (argsL := [(.long q2), (.int (511 : Int32))]) (rest := []) (lenOf pd__JI_I rfl) rfl (by show 2 * 0 + _ ≤ _; exact Nat.le_of_eq rfl) (hb hby d6_14) (fun _ _ => ⟨rfl, e1, (by decide : 0 + 0 ≤ _), (by decide : 0 + 0 ≤ _)⟩)
  dsimp only [Pt.U, Pt.locs, Pt.cells, Pt.slots] at X3 l3 y3 z3 st3 hQ3
  subst l3 y3 z3
  obtain ⟨z3, rfl, N3q, hq3⟩ := hQ3
  have N3 := Fr.app N0 N3q
  have E3 : Ext h0 T3.heap := by rw [hq3]; exact ⟨Nat.le_refl _, fun _ _ q => q⟩
  have K3 := K0.ext E3
  obtain ⟨sv4, hsv4⟩ : ∃ z, z = (z3.toInt32 &&& (511 : Int32)) := ⟨_, rfl⟩
  have pre5 : ∀ t, Steps p.tables e below (T3.setTop (mkF m 17 #[.val (.ref a1), .val (.long q2), .second, .val (.long q3), .second, .val (.int (511 : Int32)), .unset] [(.int sv4)])) t → Steps p.tables e below (s₁.setTop (entryFrame m #[(.ref a1), (.long q2), (.long q3)] 7)) t := by
    intro t kt
    rw [hsv4] at kt
    refine pre0 _ ?_
    show Steps p.tables e below (s₁.setTop (mkF m 0 #[.val (.ref a1), .val (.long q2), .second, .val (.long q3), .second, .unset, .unset] [])) _
    refine XS.aloadN X0.here hx rfl (hb hby d6_0) rfl rfl ?_
    show Steps p.tables e below (s₁.setTop (mkF m 1 #[.val (.ref a1), .val (.long q2), .second, .val (.long q3), .second, .unset, .unset] [(.ref a1)])) _
    refine st1 _ ?_
    show Steps p.tables e below (T1.setTop (mkF m 4 #[.val (.ref a1), .val (.long q2), .second, .val (.long q3), .second, .unset, .unset] [(.ref lA)])) _
    refine X1.arraylength hx (by rw [e1]; exact Aro2.1) (State.isArrayOf_alike hZ.alike Aro2.2.1) (g := (mkF m 4 #[.val (.ref a1), .val (.long q2), .second, .val (.long q3), .second, .unset, .unset] [(.ref lA)])) rfl rfl (hb hby d6_4) _ ?_
    rw [len_of So2 No2]
    show Steps p.tables e below (T1.setTop (mkF m 5 #[.val (.ref a1), .val (.long q2), .second, .val (.long q3), .second, .unset, .unset] [(.int (1024 : Int32))])) _
    refine XS.iconst X1.here hx rfl (hb hby d6_5) ?_
    show Steps p.tables e below (T1.setTop (mkF m 6 #[.val (.ref a1), .val (.long q2), .second, .val (.long q3), .second, .unset, .unset] [(.int (2 : Int32)), (.int (1024 : Int32))])) _
    refine XS.idiv X1.here hx rfl (hb hby d6_6) rfl (by decide) ?_
    show Steps p.tables e below (T1.setTop (mkF m 7 #[.val (.ref a1), .val (.long q2), .second, .val (.long q3), .second, .unset, .unset] [(.int (512 : Int32))])) _
    refine XS.iconst X1.here hx rfl (hb hby d6_7) ?_
    show Steps p.tables e below (T1.setTop (mkF m 8 #[.val (.ref a1), .val (.long q2), .second, .val (.long q3), .second, .unset, .unset] [(.int (1 : Int32)), (.int (512 : Int32))])) _
    refine XS.isub X1.here hx rfl (hb hby d6_8) rfl ?_
    show Steps p.tables e below (T1.setTop (mkF m 9 #[.val (.ref a1), .val (.long q2), .second, .val (.long q3), .second, .unset, .unset] [(.int (511 : Int32))])) _
    refine XS.istore X1.here hx rfl (hb hby d6_9) rfl (l' := #[.val (.ref a1), .val (.long q2), .second, .val (.long q3), .second, .val (.int (511 : Int32)), .unset]) rfl ?_
    show Steps p.tables e below (T1.setTop (mkF m 11 #[.val (.ref a1), .val (.long q2), .second, .val (.long q3), .second, .val (.int (511 : Int32)), .unset] [])) _
    refine XS.lloadN X1.here hx rfl (hb hby d6_11) rfl ?_
    show Steps p.tables e below (T1.setTop (mkF m 12 #[.val (.ref a1), .val (.long q2), .second, .val (.long q3), .second, .val (.int (511 : Int32)), .unset] [(.long q2)])) _
    refine XS.iload X1.here hx rfl (hb hby d6_12) rfl ?_
    show Steps p.tables e below (T1.setTop (mkF m 14 #[.val (.ref a1), .val (.long q2), .second, .val (.long q3), .second, .val (.int (511 : Int32)), .unset] [(.int (511 : Int32)), (.long q2)])) _
    refine st3 _ ?_
    show Steps p.tables e below (T3.setTop (mkF m 17 #[.val (.ref a1), .val (.long q2), .second, .val (.long q3), .second, .val (.int (511 : Int32)), .unset] [(.int (z3.toInt32 &&& (511 : Int32)))])) _
    exact kt
  have pre6 : ∀ t, Steps p.tables e below (T3.setTop (mkF m 19 #[.val (.ref a1), .val (.long q2), .second, .val (.long q3), .second, .val (.int (511 : Int32)), .val (.int sv4)] [])) t → Steps p.tables e below (s₁.setTop (entryFrame m #[(.ref a1), (.long q2), (.long q3)] 7)) t := by
    intro t kt
    refine pre5 _ ?_
    show Steps p.tables e below (T3.setTop (mkF m 17 #[.val (.ref a1), .val (.long q2), .second, .val (.long q3), .second, .val (.int (511 : Int32)), .unset] [(.int sv4)])) _
    refine XS.istore X3.here hx rfl (hb hby d6_17) rfl (l' := #[.val (.ref a1), .val (.long q2), .second, .val (.long q3), .second, .val (.int (511 : Int32)), .val (.int sv4)]) rfl ?_
    show Steps p.tables e below (T3.setTop (mkF m 19 #[.val (.ref a1), .val (.long q2), .second, .val (.long q3), .second, .val (.int (511 : Int32)), .val (.int sv4)] [])) _
    exact kt
  obtain ⟨S0, hS0, q0S⟩ := own_s511 hsv4
  subst q0S
  have c7 := (F_sl.ext E3)
  obtain ⟨T8, X8, e8, st8⟩ := getF X3 hx hZ hown (host := "") (Or.inl (hw _ (List.mem_of_getElem? (i := 16) rfl))) Via.refl rfl c7 (g := (mkF m 20 #[.val (.ref a1), .val (.long q2), .second, .val (.long q3), .second, .val (.int (511 : Int32)), .val (.int (Int32.ofNat S0))] [(.ref a1)])) rfl rfl (hb hby d6_20)
  have c9 := (V_lA.ext E3)
  obtain ⟨clo10, Aro10, -, So10, No10, Ho10, -⟩ := id c9
  have hino10 : ¬ (((2 : Int32) * (Int32.ofNat S0)) < 0 ∨ clo10.slots.size ≤ (((2 : Int32) * (Int32.ofNat S0))).toNatClampNeg) := inb_of So10 (own_two_fin ⟨S0, hS0⟩).2
  have hato10 : clo10.slots[(((2 : Int32) * (Int32.ofNat S0))).toNatClampNeg]? = some (.long (own_vat vl (2 * S0))) := Ho10.at hino10 (by rw [(own_two_fin ⟨S0, hS0⟩).1]; exact own_vat_get hlong _)
  have pre11 : ∀ t, Steps p.tables e below (T8.setTop (mkF m 30 #[.val (.ref a1), .val (.long q2), .second, .val (.long q3), .second, .val (.int (511 : Int32)), .val (.int (Int32.ofNat S0))] [(.int (lcmpW (own_vat vl (2 * S0)) (0 : Int64)))])) t → Steps p.tables e below (s₁.setTop (entryFrame m #[(.ref a1), (.long q2), (.long q3)] 7)) t := by
    intro t kt
    refine pre6 _ ?_
    show Steps p.tables e below (T3.setTop (mkF m 19 #[.val (.ref a1), .val (.long q2), .second, .val (.long q3), .second, .val (.int (511 : Int32)), .val (.int (Int32.ofNat S0))] [])) _
    refine XS.aloadN X3.here hx rfl (hb hby d6_19) rfl rfl ?_
    show Steps p.tables e below (T3.setTop (mkF m 20 #[.val (.ref a1), .val (.long q2), .second, .val (.long q3), .second, .val (.int (511 : Int32)), .val (.int (Int32.ofNat S0))] [(.ref a1)])) _
    refine st8 _ ?_
    show Steps p.tables e below (T8.setTop (mkF m 23 #[.val (.ref a1), .val (.long q2), .second, .val (.long q3), .second, .val (.int (511 : Int32)), .val (.int (Int32.ofNat S0))] [(.ref lA)])) _
    refine XS.iconst X8.here hx rfl (hb hby d6_23) ?_
    show Steps p.tables e below (T8.setTop (mkF m 24 #[.val (.ref a1), .val (.long q2), .second, .val (.long q3), .second, .val (.int (511 : Int32)), .val (.int (Int32.ofNat S0))] [(.int (2 : Int32)), (.ref lA)])) _
    refine XS.iload X8.here hx rfl (hb hby d6_24) rfl ?_
    show Steps p.tables e below (T8.setTop (mkF m 26 #[.val (.ref a1), .val (.long q2), .second, .val (.long q3), .second, .val (.int (511 : Int32)), .val (.int (Int32.ofNat S0))] [(.int (Int32.ofNat S0)), (.int (2 : Int32)), (.ref lA)])) _
    refine XS.imul X8.here hx rfl (hb hby d6_26) rfl ?_
    show Steps p.tables e below (T8.setTop (mkF m 27 #[.val (.ref a1), .val (.long q2), .second, .val (.long q3), .second, .val (.int (511 : Int32)), .val (.int (Int32.ofNat S0))] [(.int ((2 : Int32) * (Int32.ofNat S0))), (.ref lA)])) _
    refine X8.laload hx (j := ((2 : Int32) * (Int32.ofNat S0))) (v := (.long (own_vat vl (2 * S0)))) (by rw [e8]; exact Aro10.1) (State.isArrayOf_alike hZ.alike Aro10.2.1) Aro10.2.2 hino10 hato10 (g := (mkF m 27 #[.val (.ref a1), .val (.long q2), .second, .val (.long q3), .second, .val (.int (511 : Int32)), .val (.int (Int32.ofNat S0))] [(.int ((2 : Int32) * (Int32.ofNat S0))), (.ref lA)])) rfl rfl (hb hby d6_27) _ ?_
    show Steps p.tables e below (T8.setTop (mkF m 28 #[.val (.ref a1), .val (.long q2), .second, .val (.long q3), .second, .val (.int (511 : Int32)), .val (.int (Int32.ofNat S0))] [(.long (own_vat vl (2 * S0)))])) _
    refine XS.lconst X8.here hx rfl (hb hby d6_28) ?_
    show Steps p.tables e below (T8.setTop (mkF m 29 #[.val (.ref a1), .val (.long q2), .second, .val (.long q3), .second, .val (.int (511 : Int32)), .val (.int (Int32.ofNat S0))] [(.long (0 : Int64)), (.long (own_vat vl (2 * S0)))])) _
    refine XS.lcmp X8.here hx rfl (hb hby d6_29) rfl ?_
    show Steps p.tables e below (T8.setTop (mkF m 30 #[.val (.ref a1), .val (.long q2), .second, .val (.long q3), .second, .val (.int (511 : Int32)), .val (.int (Int32.ofNat S0))] [(.int (lcmpW (own_vat vl (2 * S0)) (0 : Int64)))])) _
    exact kt
  by_cases hc30_12 : (own_vat vl (2 * S0)) = (0 : Int64)
  ·
    obtain ⟨T13, X13, e13, st13⟩ := getF X8 hx hZ hown (host := "") (Or.inl (hw _ (List.mem_of_getElem? (i := 16) rfl))) Via.refl e8 c7 (g := (mkF m 46 #[.val (.ref a1), .val (.long q2), .second, .val (.long q3), .second, .val (.int (511 : Int32)), .val (.int (Int32.ofNat S0))] [(.ref a1)])) rfl rfl (hb hby d6_46)
    obtain ⟨clo14, Aro14, qo14, So14, No14, Ho14, Go14⟩ := id c9
    have hino14 : ¬ (((2 : Int32) * (Int32.ofNat S0)) < 0 ∨ clo14.slots.size ≤ (((2 : Int32) * (Int32.ofNat S0))).toNatClampNeg) := inb_of So14 (own_two_fin ⟨S0, hS0⟩).2
    obtain ⟨T15, h15, X15, e15, W15, st15⟩ := stJ X13 hx hZ e13 Aro14 (j := ((2 : Int32) * (Int32.ofNat S0))) hino14 (g := (mkF m 54 #[.val (.ref a1), .val (.long q2), .second, .val (.long q3), .second, .val (.int (511 : Int32)), .val (.int (Int32.ofNat S0))] [(.long q2), (.int ((2 : Int32) * (Int32.ofNat S0))), (.ref lA)])) rfl rfl (hb hby d6_54)
    have V15 : Arv Z h15 lA kl .long (1024 : Int32) (vl.set (2 * S0) (.long q2)) (.long (0 : Int64)) := Arv.set Aro14 qo14 So14 No14 Ho14 Go14 rfl W15 (2 * S0) (own_two_fin ⟨S0, hS0⟩).1 (by rw [hlen]; have := hS0; omega)
    have K15 := K3.wr W15 (Or.inl (List.mem_of_getElem? (i := 0) rfl))
    have N15 := Fr.snoc X15 N3 g_lA
    have c16 := (c7.other W15 (Or.inl ne1l))
    obtain ⟨T17, X17, e17, st17⟩ := getF X15 hx hZ hown (host := "") (Or.inl (hw _ (List.mem_of_getElem? (i := 16) rfl))) Via.refl e15 c16 (g := (mkF m 56 #[.val (.ref a1), .val (.long q2), .second, .val (.long q3), .second, .val (.int (511 : Int32)), .val (.int (Int32.ofNat S0))] [(.ref a1)])) rfl rfl (hb hby d6_56)
    obtain ⟨clo18, Aro18, qo18, So18, No18, Ho18, Go18⟩ := id V15
    have hino18 : ¬ ((((2 : Int32) * (Int32.ofNat S0)) + (1 : Int32)) < 0 ∨ clo18.slots.size ≤ ((((2 : Int32) * (Int32.ofNat S0)) + (1 : Int32))).toNatClampNeg) := inb_of So18 (own_two1_fin ⟨S0, hS0⟩).2
    obtain ⟨T19, h19, X19, e19, W19, st19⟩ := stJ X17 hx hZ e17 Aro18 (j := (((2 : Int32) * (Int32.ofNat S0)) + (1 : Int32))) hino18 (g := (mkF m 66 #[.val (.ref a1), .val (.long q2), .second, .val (.long q3), .second, .val (.int (511 : Int32)), .val (.int (Int32.ofNat S0))] [(.long q3), (.int (((2 : Int32) * (Int32.ofNat S0)) + (1 : Int32))), (.ref lA)])) rfl rfl (hb hby d6_66)
    have V19 : Arv Z h19 lA kl .long (1024 : Int32) ((vl.set (2 * S0) (.long q2)).set (2 * S0 + 1) (.long q3)) (.long (0 : Int64)) := Arv.set Aro18 qo18 So18 No18 Ho18 Go18 rfl W19 (2 * S0 + 1) (own_two1_fin ⟨S0, hS0⟩).1 (by rw [List.length_set, hlen]; have := hS0; omega)
    have K19 := K15.wr W19 (Or.inl (List.mem_of_getElem? (i := 0) rfl))
    have N19 := Fr.snoc X19 N15 g_lA
    obtain ⟨fs, hr, hrun, hended, hW, hsame⟩ := X19.leave (v := none) (fun _ => rfl)
    refine ⟨_, _, pre11 _ ?_, hrun, hended, _, _, rfl, ?_, ⟨_, rfl⟩, hW, hsame.mono (by decide) (by decide)⟩
    ·
      show Steps p.tables e below (T8.setTop (mkF m 30 #[.val (.ref a1), .val (.long q2), .second, .val (.long q3), .second, .val (.int (511 : Int32)), .val (.int (Int32.ofNat S0))] [(.int (lcmpW (own_vat vl (2 * S0)) (0 : Int64)))])) _
      refine XS.ifYes X8.here hx rfl (pc0 := 30) (pc' := 45) rfl (hb hby d6_30) rfl ((if0 _ _).trans (teq ((lw_eq _ _).mpr hc30_12)).1) (by decide) (by decide) ?_
      show Steps p.tables e below (T8.setTop (mkF m 45 #[.val (.ref a1), .val (.long q2), .second, .val (.long q3), .second, .val (.int (511 : Int32)), .val (.int (Int32.ofNat S0))] [])) _
      refine XS.aloadN X8.here hx rfl (hb hby d6_45) rfl rfl ?_
      show Steps p.tables e below (T8.setTop (mkF m 46 #[.val (.ref a1), .val (.long q2), .second, .val (.long q3), .second, .val (.int (511 : Int32)), .val (.int (Int32.ofNat S0))] [(.ref a1)])) _
      refine st13 _ ?_
      show Steps p.tables e below (T13.setTop (mkF m 49 #[.val (.ref a1), .val (.long q2), .second, .val (.long q3), .second, .val (.int (511 : Int32)), .val (.int (Int32.ofNat S0))] [(.ref lA)])) _
      refine XS.iconst X13.here hx rfl (hb hby d6_49) ?_
      show Steps p.tables e below (T13.setTop (mkF m 50 #[.val (.ref a1), .val (.long q2), .second, .val (.long q3), .second, .val (.int (511 : Int32)), .val (.int (Int32.ofNat S0))] [(.int (2 : Int32)), (.ref lA)])) _
      refine XS.iload X13.here hx rfl (hb hby d6_50) rfl ?_
      show Steps p.tables e below (T13.setTop (mkF m 52 #[.val (.ref a1), .val (.long q2), .second, .val (.long q3), .second, .val (.int (511 : Int32)), .val (.int (Int32.ofNat S0))] [(.int (Int32.ofNat S0)), (.int (2 : Int32)), (.ref lA)])) _
      refine XS.imul X13.here hx rfl (hb hby d6_52) rfl ?_
      show Steps p.tables e below (T13.setTop (mkF m 53 #[.val (.ref a1), .val (.long q2), .second, .val (.long q3), .second, .val (.int (511 : Int32)), .val (.int (Int32.ofNat S0))] [(.int ((2 : Int32) * (Int32.ofNat S0))), (.ref lA)])) _
      refine XS.lloadN X13.here hx rfl (hb hby d6_53) rfl ?_
      show Steps p.tables e below (T13.setTop (mkF m 54 #[.val (.ref a1), .val (.long q2), .second, .val (.long q3), .second, .val (.int (511 : Int32)), .val (.int (Int32.ofNat S0))] [(.long q2), (.int ((2 : Int32) * (Int32.ofNat S0))), (.ref lA)])) _
      refine st15 _ ?_
      show Steps p.tables e below (T15.setTop (mkF m 55 #[.val (.ref a1), .val (.long q2), .second, .val (.long q3), .second, .val (.int (511 : Int32)), .val (.int (Int32.ofNat S0))] [])) _
      refine XS.aloadN X15.here hx rfl (hb hby d6_55) rfl rfl ?_
      show Steps p.tables e below (T15.setTop (mkF m 56 #[.val (.ref a1), .val (.long q2), .second, .val (.long q3), .second, .val (.int (511 : Int32)), .val (.int (Int32.ofNat S0))] [(.ref a1)])) _
      refine st17 _ ?_
      show Steps p.tables e below (T17.setTop (mkF m 59 #[.val (.ref a1), .val (.long q2), .second, .val (.long q3), .second, .val (.int (511 : Int32)), .val (.int (Int32.ofNat S0))] [(.ref lA)])) _
      refine XS.iconst X17.here hx rfl (hb hby d6_59) ?_
      show Steps p.tables e below (T17.setTop (mkF m 60 #[.val (.ref a1), .val (.long q2), .second, .val (.long q3), .second, .val (.int (511 : Int32)), .val (.int (Int32.ofNat S0))] [(.int (2 : Int32)), (.ref lA)])) _
      refine XS.iload X17.here hx rfl (hb hby d6_60) rfl ?_
      show Steps p.tables e below (T17.setTop (mkF m 62 #[.val (.ref a1), .val (.long q2), .second, .val (.long q3), .second, .val (.int (511 : Int32)), .val (.int (Int32.ofNat S0))] [(.int (Int32.ofNat S0)), (.int (2 : Int32)), (.ref lA)])) _
      refine XS.imul X17.here hx rfl (hb hby d6_62) rfl ?_
      show Steps p.tables e below (T17.setTop (mkF m 63 #[.val (.ref a1), .val (.long q2), .second, .val (.long q3), .second, .val (.int (511 : Int32)), .val (.int (Int32.ofNat S0))] [(.int ((2 : Int32) * (Int32.ofNat S0))), (.ref lA)])) _
      refine XS.iconst X17.here hx rfl (hb hby d6_63) ?_
      show Steps p.tables e below (T17.setTop (mkF m 64 #[.val (.ref a1), .val (.long q2), .second, .val (.long q3), .second, .val (.int (511 : Int32)), .val (.int (Int32.ofNat S0))] [(.int (1 : Int32)), (.int ((2 : Int32) * (Int32.ofNat S0))), (.ref lA)])) _
      refine XS.iadd X17.here hx rfl (hb hby d6_64) rfl ?_
      show Steps p.tables e below (T17.setTop (mkF m 65 #[.val (.ref a1), .val (.long q2), .second, .val (.long q3), .second, .val (.int (511 : Int32)), .val (.int (Int32.ofNat S0))] [(.int (((2 : Int32) * (Int32.ofNat S0)) + (1 : Int32))), (.ref lA)])) _
      refine XS.lloadN X17.here hx rfl (hb hby d6_65) rfl ?_
      show Steps p.tables e below (T17.setTop (mkF m 66 #[.val (.ref a1), .val (.long q2), .second, .val (.long q3), .second, .val (.int (511 : Int32)), .val (.int (Int32.ofNat S0))] [(.long q3), (.int (((2 : Int32) * (Int32.ofNat S0)) + (1 : Int32))), (.ref lA)])) _
      refine st19 _ ?_
      show Steps p.tables e below (T19.setTop (mkF m 67 #[.val (.ref a1), .val (.long q2), .second, .val (.long q3), .second, .val (.int (511 : Int32)), .val (.int (Int32.ofNat S0))] [])) _
      exact X19.returnOut hx Bd.returns (hb hby d6_67) hr
    ·
      show Q6 Z a1 q2 q3 lA kl vl cn h0 n0 _ T19.heap _
      rw [e19]
      exact ⟨rfl, N19, K19, _, by rw [List.length_set, List.length_set]; exact hlen, own_longs_set (own_longs_set hlong _ _) _ _, own_occ_set hocc0 _ _ _, V19⟩
  ·
    obtain ⟨tv20, htv20⟩ : ∃ z, z = (((Int32.ofNat S0) + (1 : Int32)) &&& (511 : Int32)) := ⟨_, rfl⟩
    have pre21 : ∀ t, Steps p.tables e below (T8.setTop (mkF m 40 #[.val (.ref a1), .val (.long q2), .second, .val (.long q3), .second, .val (.int (511 : Int32)), .val (.int (Int32.ofNat S0))] [(.int tv20)])) t → Steps p.tables e below (s₁.setTop (entryFrame m #[(.ref a1), (.long q2), (.long q3)] 7)) t := by
      intro t kt
      rw [htv20] at kt
      refine pre11 _ ?_
      show Steps p.tables e below (T8.setTop (mkF m 30 #[.val (.ref a1), .val (.long q2), .second, .val (.long q3), .second, .val (.int (511 : Int32)), .val (.int (Int32.ofNat S0))] [(.int (lcmpW (own_vat vl (2 * S0)) (0 : Int64)))])) _
      refine XS.ifNo X8.here hx rfl (hb hby d6_30) rfl ((if0 _ _).trans (feq (fun q => hc30_12 ((lw_eq _ _).mp q))).1) ?_
      show Steps p.tables e below (T8.setTop (mkF m 33 #[.val (.ref a1), .val (.long q2), .second, .val (.long q3), .second, .val (.int (511 : Int32)), .val (.int (Int32.ofNat S0))] [])) _
      refine XS.iload X8.here hx rfl (hb hby d6_33) rfl ?_
      show Steps p.tables e below (T8.setTop (mkF m 35 #[.val (.ref a1), .val (.long q2), .second, .val (.long q3), .second, .val (.int (511 : Int32)), .val (.int (Int32.ofNat S0))] [(.int (Int32.ofNat S0))])) _
      refine XS.iconst X8.here hx rfl (hb hby d6_35) ?_
      show Steps p.tables e below (T8.setTop (mkF m 36 #[.val (.ref a1), .val (.long q2), .second, .val (.long q3), .second, .val (.int (511 : Int32)), .val (.int (Int32.ofNat S0))] [(.int (1 : Int32)), (.int (Int32.ofNat S0))])) _
      refine XS.iadd X8.here hx rfl (hb hby d6_36) rfl ?_
      show Steps p.tables e below (T8.setTop (mkF m 37 #[.val (.ref a1), .val (.long q2), .second, .val (.long q3), .second, .val (.int (511 : Int32)), .val (.int (Int32.ofNat S0))] [(.int ((Int32.ofNat S0) + (1 : Int32)))])) _
      refine XS.iload X8.here hx rfl (hb hby d6_37) rfl ?_
      show Steps p.tables e below (T8.setTop (mkF m 39 #[.val (.ref a1), .val (.long q2), .second, .val (.long q3), .second, .val (.int (511 : Int32)), .val (.int (Int32.ofNat S0))] [(.int (511 : Int32)), (.int ((Int32.ofNat S0) + (1 : Int32)))])) _
      refine XS.iand X8.here hx rfl (hb hby d6_39) rfl ?_
      show Steps p.tables e below (T8.setTop (mkF m 40 #[.val (.ref a1), .val (.long q2), .second, .val (.long q3), .second, .val (.int (511 : Int32)), .val (.int (Int32.ofNat S0))] [(.int (((Int32.ofNat S0) + (1 : Int32)) &&& (511 : Int32)))])) _
      exact kt
    have pre22 : ∀ t, Steps p.tables e below (T8.setTop (mkF m 19 #[.val (.ref a1), .val (.long q2), .second, .val (.long q3), .second, .val (.int (511 : Int32)), .val (.int tv20)] [])) t → Steps p.tables e below (s₁.setTop (entryFrame m #[(.ref a1), (.long q2), (.long q3)] 7)) t := by
      intro t kt
      refine pre21 _ ?_
      show Steps p.tables e below (T8.setTop (mkF m 40 #[.val (.ref a1), .val (.long q2), .second, .val (.long q3), .second, .val (.int (511 : Int32)), .val (.int (Int32.ofNat S0))] [(.int tv20)])) _
      refine XS.istore X8.here hx rfl (hb hby d6_40) rfl (l' := #[.val (.ref a1), .val (.long q2), .second, .val (.long q3), .second, .val (.int (511 : Int32)), .val (.int tv20)]) rfl ?_
      show Steps p.tables e below (T8.setTop (mkF m 42 #[.val (.ref a1), .val (.long q2), .second, .val (.long q3), .second, .val (.int (511 : Int32)), .val (.int tv20)] [])) _
      refine XS.goto X8.here hx rfl (pc0 := 42) (pc' := 19) rfl (hb hby d6_42) (by decide) (by decide) ?_
      show Steps p.tables e below (T8.setTop (mkF m 19 #[.val (.ref a1), .val (.long q2), .second, .val (.long q3), .second, .val (.int (511 : Int32)), .val (.int tv20)] [])) _
      exact kt
    have qtv20 : tv20 = Int32.ofNat (own_nx S0) := htv20.trans (own_nx_fin ⟨S0, hS0⟩)
    subst qtv20
    obtain ⟨T23, X23, e23, st23⟩ := getF X8 hx hZ hown (host := "") (Or.inl (hw _ (List.mem_of_getElem? (i := 16) rfl))) Via.refl e8 c7 (g := (mkF m 20 #[.val (.ref a1), .val (.long q2), .second, .val (.long q3), .second, .val (.int (511 : Int32)), .val (.int (Int32.ofNat (own_nx S0)))] [(.ref a1)])) rfl rfl (hb hby d6_20)
    obtain ⟨clo24, Aro24, -, So24, No24, Ho24, -⟩ := id c9
    have hino24 : ¬ (((2 : Int32) * (Int32.ofNat (own_nx S0))) < 0 ∨ clo24.slots.size ≤ (((2 : Int32) * (Int32.ofNat (own_nx S0)))).toNatClampNeg) := inb_of So24 (own_two_fin ⟨(own_nx S0), (own_nx_lt S0)⟩).2
    have hato24 : clo24.slots[(((2 : Int32) * (Int32.ofNat (own_nx S0)))).toNatClampNeg]? = some (.long (own_vat vl (2 * (own_nx S0)))) := Ho24.at hino24 (by rw [(own_two_fin ⟨(own_nx S0), (own_nx_lt S0)⟩).1]; exact own_vat_get hlong _)
    have pre25 : ∀ t, Steps p.tables e below (T23.setTop (mkF m 30 #[.val (.ref a1), .val (.long q2), .second, .val (.long q3), .second, .val (.int (511 : Int32)), .val (.int (Int32.ofNat (own_nx S0)))] [(.int (lcmpW (own_vat vl (2 * (own_nx S0))) (0 : Int64)))])) t → Steps p.tables e below (s₁.setTop (entryFrame m #[(.ref a1), (.long q2), (.long q3)] 7)) t := by
      intro t kt
      refine pre22 _ ?_
      show Steps p.tables e below (T8.setTop (mkF m 19 #[.val (.ref a1), .val (.long q2), .second, .val (.long q3), .second, .val (.int (511 : Int32)), .val (.int (Int32.ofNat (own_nx S0)))] [])) _
      refine XS.aloadN X8.here hx rfl (hb hby d6_19) rfl rfl ?_
      show Steps p.tables e below (T8.setTop (mkF m 20 #[.val (.ref a1), .val (.long q2), .second, .val (.long q3), .second, .val (.int (511 : Int32)), .val (.int (Int32.ofNat (own_nx S0)))] [(.ref a1)])) _
      refine st23 _ ?_
      show Steps p.tables e below (T23.setTop (mkF m 23 #[.val (.ref a1), .val (.long q2), .second, .val (.long q3), .second, .val (.int (511 : Int32)), .val (.int (Int32.ofNat (own_nx S0)))] [(.ref lA)])) _
      refine XS.iconst X23.here hx rfl (hb hby d6_23) ?_
      show Steps p.tables e below (T23.setTop (mkF m 24 #[.val (.ref a1), .val (.long q2), .second, .val (.long q3), .second, .val (.int (511 : Int32)), .val (.int (Int32.ofNat (own_nx S0)))] [(.int (2 : Int32)), (.ref lA)])) _
      refine XS.iload X23.here hx rfl (hb hby d6_24) rfl ?_
      show Steps p.tables e below (T23.setTop (mkF m 26 #[.val (.ref a1), .val (.long q2), .second, .val (.long q3), .second, .val (.int (511 : Int32)), .val (.int (Int32.ofNat (own_nx S0)))] [(.int (Int32.ofNat (own_nx S0))), (.int (2 : Int32)), (.ref lA)])) _
      refine XS.imul X23.here hx rfl (hb hby d6_26) rfl ?_
      show Steps p.tables e below (T23.setTop (mkF m 27 #[.val (.ref a1), .val (.long q2), .second, .val (.long q3), .second, .val (.int (511 : Int32)), .val (.int (Int32.ofNat (own_nx S0)))] [(.int ((2 : Int32) * (Int32.ofNat (own_nx S0)))), (.ref lA)])) _
      refine X23.laload hx (j := ((2 : Int32) * (Int32.ofNat (own_nx S0)))) (v := (.long (own_vat vl (2 * (own_nx S0))))) (by rw [e23]; exact Aro24.1) (State.isArrayOf_alike hZ.alike Aro24.2.1) Aro24.2.2 hino24 hato24 (g := (mkF m 27 #[.val (.ref a1), .val (.long q2), .second, .val (.long q3), .second, .val (.int (511 : Int32)), .val (.int (Int32.ofNat (own_nx S0)))] [(.int ((2 : Int32) * (Int32.ofNat (own_nx S0)))), (.ref lA)])) rfl rfl (hb hby d6_27) _ ?_
      show Steps p.tables e below (T23.setTop (mkF m 28 #[.val (.ref a1), .val (.long q2), .second, .val (.long q3), .second, .val (.int (511 : Int32)), .val (.int (Int32.ofNat (own_nx S0)))] [(.long (own_vat vl (2 * (own_nx S0))))])) _
      refine XS.lconst X23.here hx rfl (hb hby d6_28) ?_
      show Steps p.tables e below (T23.setTop (mkF m 29 #[.val (.ref a1), .val (.long q2), .second, .val (.long q3), .second, .val (.int (511 : Int32)), .val (.int (Int32.ofNat (own_nx S0)))] [(.long (0 : Int64)), (.long (own_vat vl (2 * (own_nx S0))))])) _
      refine XS.lcmp X23.here hx rfl (hb hby d6_29) rfl ?_
      show Steps p.tables e below (T23.setTop (mkF m 30 #[.val (.ref a1), .val (.long q2), .second, .val (.long q3), .second, .val (.int (511 : Int32)), .val (.int (Int32.ofNat (own_nx S0)))] [(.int (lcmpW (own_vat vl (2 * (own_nx S0))) (0 : Int64)))])) _
      exact kt
    by_cases hc30_26 : (own_vat vl (2 * (own_nx S0))) = (0 : Int64)
    ·
      obtain ⟨T27, X27, e27, st27⟩ := getF X23 hx hZ hown (host := "") (Or.inl (hw _ (List.mem_of_getElem? (i := 16) rfl))) Via.refl e23 c7 (g := (mkF m 46 #[.val (.ref a1), .val (.long q2), .second, .val (.long q3), .second, .val (.int (511 : Int32)), .val (.int (Int32.ofNat (own_nx S0)))] [(.ref a1)])) rfl rfl (hb hby d6_46)
      obtain ⟨clo28, Aro28, qo28, So28, No28, Ho28, Go28⟩ := id c9
      have hino28 : ¬ (((2 : Int32) * (Int32.ofNat (own_nx S0))) < 0 ∨ clo28.slots.size ≤ (((2 : Int32) * (Int32.ofNat (own_nx S0)))).toNatClampNeg) := inb_of So28 (own_two_fin ⟨(own_nx S0), (own_nx_lt S0)⟩).2
      obtain ⟨T29, h29, X29, e29, W29, st29⟩ := stJ X27 hx hZ e27 Aro28 (j := ((2 : Int32) * (Int32.ofNat (own_nx S0)))) hino28 (g := (mkF m 54 #[.val (.ref a1), .val (.long q2), .second, .val (.long q3), .second, .val (.int (511 : Int32)), .val (.int (Int32.ofNat (own_nx S0)))] [(.long q2), (.int ((2 : Int32) * (Int32.ofNat (own_nx S0)))), (.ref lA)])) rfl rfl (hb hby d6_54)
      have V29 : Arv Z h29 lA kl .long (1024 : Int32) (vl.set (2 * (own_nx S0)) (.long q2)) (.long (0 : Int64)) := Arv.set Aro28 qo28 So28 No28 Ho28 Go28 rfl W29 (2 * (own_nx S0)) (own_two_fin ⟨(own_nx S0), (own_nx_lt S0)⟩).1 (by rw [hlen]; have := (own_nx_lt S0); omega)
      have K29 := K3.wr W29 (Or.inl (List.mem_of_getElem? (i := 0) rfl))
      have N29 := Fr.snoc X29 N3 g_lA
      have c30 := (c7.other W29 (Or.inl ne1l))
      obtain ⟨T31, X31, e31, st31⟩ := getF X29 hx hZ hown (host := "") (Or.inl (hw _ (List.mem_of_getElem? (i := 16) rfl))) Via.refl e29 c30 (g := (mkF m 56 #[.val (.ref a1), .val (.long q2), .second, .val (.long q3), .second, .val (.int (511 : Int32)), .val (.int (Int32.ofNat (own_nx S0)))] [(.ref a1)])) rfl rfl (hb hby d6_56)
      obtain ⟨clo32, Aro32, qo32, So32, No32, Ho32, Go32⟩ := id V29
      have hino32 : ¬ ((((2 : Int32) * (Int32.ofNat (own_nx S0))) + (1 : Int32)) < 0 ∨ clo32.slots.size ≤ ((((2 : Int32) * (Int32.ofNat (own_nx S0))) + (1 : Int32))).toNatClampNeg) := inb_of So32 (own_two1_fin ⟨(own_nx S0), (own_nx_lt S0)⟩).2
      obtain ⟨T33, h33, X33, e33, W33, st33⟩ := stJ X31 hx hZ e31 Aro32 (j := (((2 : Int32) * (Int32.ofNat (own_nx S0))) + (1 : Int32))) hino32 (g := (mkF m 66 #[.val (.ref a1), .val (.long q2), .second, .val (.long q3), .second, .val (.int (511 : Int32)), .val (.int (Int32.ofNat (own_nx S0)))] [(.long q3), (.int (((2 : Int32) * (Int32.ofNat (own_nx S0))) + (1 : Int32))), (.ref lA)])) rfl rfl (hb hby d6_66)
      have V33 : Arv Z h33 lA kl .long (1024 : Int32) ((vl.set (2 * (own_nx S0)) (.long q2)).set (2 * (own_nx S0) + 1) (.long q3)) (.long (0 : Int64)) := Arv.set Aro32 qo32 So32 No32 Ho32 Go32 rfl W33 (2 * (own_nx S0) + 1) (own_two1_fin ⟨(own_nx S0), (own_nx_lt S0)⟩).1 (by rw [List.length_set, hlen]; have := (own_nx_lt S0); omega)
      have K33 := K29.wr W33 (Or.inl (List.mem_of_getElem? (i := 0) rfl))
      have N33 := Fr.snoc X33 N29 g_lA
      obtain ⟨fs, hr, hrun, hended, hW, hsame⟩ := X33.leave (v := none) (fun _ => rfl)
      refine ⟨_, _, pre25 _ ?_, hrun, hended, _, _, rfl, ?_, ⟨_, rfl⟩, hW, hsame.mono (by decide) (by decide)⟩
      ·
        show Steps p.tables e below (T23.setTop (mkF m 30 #[.val (.ref a1), .val (.long q2), .second, .val (.long q3), .second, .val (.int (511 : Int32)), .val (.int (Int32.ofNat (own_nx S0)))] [(.int (lcmpW (own_vat vl (2 * (own_nx S0))) (0 : Int64)))])) _
        refine XS.ifYes X23.here hx rfl (pc0 := 30) (pc' := 45) rfl (hb hby d6_30) rfl ((if0 _ _).trans (teq ((lw_eq _ _).mpr hc30_26)).1) (by decide) (by decide) ?_
        show Steps p.tables e below (T23.setTop (mkF m 45 #[.val (.ref a1), .val (.long q2), .second, .val (.long q3), .second, .val (.int (511 : Int32)), .val (.int (Int32.ofNat (own_nx S0)))] [])) _
        refine XS.aloadN X23.here hx rfl (hb hby d6_45) rfl rfl ?_
        show Steps p.tables e below (T23.setTop (mkF m 46 #[.val (.ref a1), .val (.long q2), .second, .val (.long q3), .second, .val (.int (511 : Int32)), .val (.int (Int32.ofNat (own_nx S0)))] [(.ref a1)])) _
        refine st27 _ ?_
        show Steps p.tables e below (T27.setTop (mkF m 49 #[.val (.ref a1), .val (.long q2), .second, .val (.long q3), .second, .val (.int (511 : Int32)), .val (.int (Int32.ofNat (own_nx S0)))] [(.ref lA)])) _
        refine XS.iconst X27.here hx rfl (hb hby d6_49) ?_
        show Steps p.tables e below (T27.setTop (mkF m 50 #[.val (.ref a1), .val (.long q2), .second, .val (.long q3), .second, .val (.int (511 : Int32)), .val (.int (Int32.ofNat (own_nx S0)))] [(.int (2 : Int32)), (.ref lA)])) _
        refine XS.iload X27.here hx rfl (hb hby d6_50) rfl ?_
        show Steps p.tables e below (T27.setTop (mkF m 52 #[.val (.ref a1), .val (.long q2), .second, .val (.long q3), .second, .val (.int (511 : Int32)), .val (.int (Int32.ofNat (own_nx S0)))] [(.int (Int32.ofNat (own_nx S0))), (.int (2 : Int32)), (.ref lA)])) _
        refine XS.imul X27.here hx rfl (hb hby d6_52) rfl ?_
        show Steps p.tables e below (T27.setTop (mkF m 53 #[.val (.ref a1), .val (.long q2), .second, .val (.long q3), .second, .val (.int (511 : Int32)), .val (.int (Int32.ofNat (own_nx S0)))] [(.int ((2 : Int32) * (Int32.ofNat (own_nx S0)))), (.ref lA)])) _
        refine XS.lloadN X27.here hx rfl (hb hby d6_53) rfl ?_
        show Steps p.tables e below (T27.setTop (mkF m 54 #[.val (.ref a1), .val (.long q2), .second, .val (.long q3), .second, .val (.int (511 : Int32)), .val (.int (Int32.ofNat (own_nx S0)))] [(.long q2), (.int ((2 : Int32) * (Int32.ofNat (own_nx S0)))), (.ref lA)])) _
        refine st29 _ ?_
        show Steps p.tables e below (T29.setTop (mkF m 55 #[.val (.ref a1), .val (.long q2), .second, .val (.long q3), .second, .val (.int (511 : Int32)), .val (.int (Int32.ofNat (own_nx S0)))] [])) _
        refine XS.aloadN X29.here hx rfl (hb hby d6_55) rfl rfl ?_
        show Steps p.tables e below (T29.setTop (mkF m 56 #[.val (.ref a1), .val (.long q2), .second, .val (.long q3), .second, .val (.int (511 : Int32)), .val (.int (Int32.ofNat (own_nx S0)))] [(.ref a1)])) _
        refine st31 _ ?_
        show Steps p.tables e below (T31.setTop (mkF m 59 #[.val (.ref a1), .val (.long q2), .second, .val (.long q3), .second, .val (.int (511 : Int32)), .val (.int (Int32.ofNat (own_nx S0)))] [(.ref lA)])) _
        refine XS.iconst X31.here hx rfl (hb hby d6_59) ?_
        show Steps p.tables e below (T31.setTop (mkF m 60 #[.val (.ref a1), .val (.long q2), .second, .val (.long q3), .second, .val (.int (511 : Int32)), .val (.int (Int32.ofNat (own_nx S0)))] [(.int (2 : Int32)), (.ref lA)])) _
        refine XS.iload X31.here hx rfl (hb hby d6_60) rfl ?_
        show Steps p.tables e below (T31.setTop (mkF m 62 #[.val (.ref a1), .val (.long q2), .second, .val (.long q3), .second, .val (.int (511 : Int32)), .val (.int (Int32.ofNat (own_nx S0)))] [(.int (Int32.ofNat (own_nx S0))), (.int (2 : Int32)), (.ref lA)])) _
        refine XS.imul X31.here hx rfl (hb hby d6_62) rfl ?_
        show Steps p.tables e below (T31.setTop (mkF m 63 #[.val (.ref a1), .val (.long q2), .second, .val (.long q3), .second, .val (.int (511 : Int32)), .val (.int (Int32.ofNat (own_nx S0)))] [(.int ((2 : Int32) * (Int32.ofNat (own_nx S0)))), (.ref lA)])) _
        refine XS.iconst X31.here hx rfl (hb hby d6_63) ?_
        show Steps p.tables e below (T31.setTop (mkF m 64 #[.val (.ref a1), .val (.long q2), .second, .val (.long q3), .second, .val (.int (511 : Int32)), .val (.int (Int32.ofNat (own_nx S0)))] [(.int (1 : Int32)), (.int ((2 : Int32) * (Int32.ofNat (own_nx S0)))), (.ref lA)])) _
        refine XS.iadd X31.here hx rfl (hb hby d6_64) rfl ?_
        show Steps p.tables e below (T31.setTop (mkF m 65 #[.val (.ref a1), .val (.long q2), .second, .val (.long q3), .second, .val (.int (511 : Int32)), .val (.int (Int32.ofNat (own_nx S0)))] [(.int (((2 : Int32) * (Int32.ofNat (own_nx S0))) + (1 : Int32))), (.ref lA)])) _
        refine XS.lloadN X31.here hx rfl (hb hby d6_65) rfl ?_
        show Steps p.tables e below (T31.setTop (mkF m 66 #[.val (.ref a1), .val (.long q2), .second, .val (.long q3), .second, .val (.int (511 : Int32)), .val (.int (Int32.ofNat (own_nx S0)))] [(.long q3), (.int (((2 : Int32) * (Int32.ofNat (own_nx S0))) + (1 : Int32))), (.ref lA)])) _
        refine st33 _ ?_
        show Steps p.tables e below (T33.setTop (mkF m 67 #[.val (.ref a1), .val (.long q2), .second, .val (.long q3), .second, .val (.int (511 : Int32)), .val (.int (Int32.ofNat (own_nx S0)))] [])) _
        exact X33.returnOut hx Bd.returns (hb hby d6_67) hr
      ·
        show Q6 Z a1 q2 q3 lA kl vl cn h0 n0 _ T33.heap _
        rw [e33]
        exact ⟨rfl, N33, K33, _, by rw [List.length_set, List.length_set]; exact hlen, own_longs_set (own_longs_set hlong _ _) _ _, own_occ_set hocc0 _ _ _, V33⟩
    ·
      obtain ⟨tv34, htv34⟩ : ∃ z, z = (((Int32.ofNat (own_nx S0)) + (1 : Int32)) &&& (511 : Int32)) := ⟨_, rfl⟩
      have pre35 : ∀ t, Steps p.tables e below (T23.setTop (mkF m 40 #[.val (.ref a1), .val (.long q2), .second, .val (.long q3), .second, .val (.int (511 : Int32)), .val (.int (Int32.ofNat (own_nx S0)))] [(.int tv34)])) t → Steps p.tables e below (s₁.setTop (entryFrame m #[(.ref a1), (.long q2), (.long q3)] 7)) t := by
        intro t kt
        rw [htv34] at kt
        refine pre25 _ ?_
        show Steps p.tables e below (T23.setTop (mkF m 30 #[.val (.ref a1), .val (.long q2), .second, .val (.long q3), .second, .val (.int (511 : Int32)), .val (.int (Int32.ofNat (own_nx S0)))] [(.int (lcmpW (own_vat vl (2 * (own_nx S0))) (0 : Int64)))])) _
        refine XS.ifNo X23.here hx rfl (hb hby d6_30) rfl ((if0 _ _).trans (feq (fun q => hc30_26 ((lw_eq _ _).mp q))).1) ?_
        show Steps p.tables e below (T23.setTop (mkF m 33 #[.val (.ref a1), .val (.long q2), .second, .val (.long q3), .second, .val (.int (511 : Int32)), .val (.int (Int32.ofNat (own_nx S0)))] [])) _
        refine XS.iload X23.here hx rfl (hb hby d6_33) rfl ?_
        show Steps p.tables e below (T23.setTop (mkF m 35 #[.val (.ref a1), .val (.long q2), .second, .val (.long q3), .second, .val (.int (511 : Int32)), .val (.int (Int32.ofNat (own_nx S0)))] [(.int (Int32.ofNat (own_nx S0)))])) _
        refine XS.iconst X23.here hx rfl (hb hby d6_35) ?_
        show Steps p.tables e below (T23.setTop (mkF m 36 #[.val (.ref a1), .val (.long q2), .second, .val (.long q3), .second, .val (.int (511 : Int32)), .val (.int (Int32.ofNat (own_nx S0)))] [(.int (1 : Int32)), (.int (Int32.ofNat (own_nx S0)))])) _
        refine XS.iadd X23.here hx rfl (hb hby d6_36) rfl ?_
        show Steps p.tables e below (T23.setTop (mkF m 37 #[.val (.ref a1), .val (.long q2), .second, .val (.long q3), .second, .val (.int (511 : Int32)), .val (.int (Int32.ofNat (own_nx S0)))] [(.int ((Int32.ofNat (own_nx S0)) + (1 : Int32)))])) _
        refine XS.iload X23.here hx rfl (hb hby d6_37) rfl ?_
        show Steps p.tables e below (T23.setTop (mkF m 39 #[.val (.ref a1), .val (.long q2), .second, .val (.long q3), .second, .val (.int (511 : Int32)), .val (.int (Int32.ofNat (own_nx S0)))] [(.int (511 : Int32)), (.int ((Int32.ofNat (own_nx S0)) + (1 : Int32)))])) _
        refine XS.iand X23.here hx rfl (hb hby d6_39) rfl ?_
        show Steps p.tables e below (T23.setTop (mkF m 40 #[.val (.ref a1), .val (.long q2), .second, .val (.long q3), .second, .val (.int (511 : Int32)), .val (.int (Int32.ofNat (own_nx S0)))] [(.int (((Int32.ofNat (own_nx S0)) + (1 : Int32)) &&& (511 : Int32)))])) _
        exact kt
      have pre36 : ∀ t, Steps p.tables e below (T23.setTop (mkF m 19 #[.val (.ref a1), .val (.long q2), .second, .val (.long q3), .second, .val (.int (511 : Int32)), .val (.int tv34)] [])) t → Steps p.tables e below (s₁.setTop (entryFrame m #[(.ref a1), (.long q2), (.long q3)] 7)) t := by
        intro t kt
        refine pre35 _ ?_
        show Steps p.tables e below (T23.setTop (mkF m 40 #[.val (.ref a1), .val (.long q2), .second, .val (.long q3), .second, .val (.int (511 : Int32)), .val (.int (Int32.ofNat (own_nx S0)))] [(.int tv34)])) _
        refine XS.istore X23.here hx rfl (hb hby d6_40) rfl (l' := #[.val (.ref a1), .val (.long q2), .second, .val (.long q3), .second, .val (.int (511 : Int32)), .val (.int tv34)]) rfl ?_
        show Steps p.tables e below (T23.setTop (mkF m 42 #[.val (.ref a1), .val (.long q2), .second, .val (.long q3), .second, .val (.int (511 : Int32)), .val (.int tv34)] [])) _
        refine XS.goto X23.here hx rfl (pc0 := 42) (pc' := 19) rfl (hb hby d6_42) (by decide) (by decide) ?_
        show Steps p.tables e below (T23.setTop (mkF m 19 #[.val (.ref a1), .val (.long q2), .second, .val (.long q3), .second, .val (.int (511 : Int32)), .val (.int tv34)] [])) _
        exact kt
      have qtv34 : tv34 = Int32.ofNat (own_nx (own_nx S0)) := htv34.trans (own_nx_fin ⟨(own_nx S0), own_nx_lt S0⟩)
      subst qtv34
      obtain ⟨T37, X37, e37, st37⟩ := getF X23 hx hZ hown (host := "") (Or.inl (hw _ (List.mem_of_getElem? (i := 16) rfl))) Via.refl e23 c7 (g := (mkF m 20 #[.val (.ref a1), .val (.long q2), .second, .val (.long q3), .second, .val (.int (511 : Int32)), .val (.int (Int32.ofNat (own_nx (own_nx S0))))] [(.ref a1)])) rfl rfl (hb hby d6_20)
      obtain ⟨clo38, Aro38, -, So38, No38, Ho38, -⟩ := id c9
      have hino38 : ¬ (((2 : Int32) * (Int32.ofNat (own_nx (own_nx S0)))) < 0 ∨ clo38.slots.size ≤ (((2 : Int32) * (Int32.ofNat (own_nx (own_nx S0))))).toNatClampNeg) := inb_of So38 (own_two_fin ⟨(own_nx (own_nx S0)), (own_nx_lt (own_nx S0))⟩).2
      have hato38 : clo38.slots[(((2 : Int32) * (Int32.ofNat (own_nx (own_nx S0))))).toNatClampNeg]? = some (.long (own_vat vl (2 * (own_nx (own_nx S0))))) := Ho38.at hino38 (by rw [(own_two_fin ⟨(own_nx (own_nx S0)), (own_nx_lt (own_nx S0))⟩).1]; exact own_vat_get hlong _)
      have hk39 : (own_vat vl (2 * (own_nx (own_nx S0)))) = (0 : Int64) := own_occ3 hocc hS0 hc30_12 hc30_26
      obtain ⟨T40, X40, e40, st40⟩ := getF X37 hx hZ hown (host := "") (Or.inl (hw _ (List.mem_of_getElem? (i := 16) rfl))) Via.refl e37 c7 (g := (mkF m 46 #[.val (.ref a1), .val (.long q2), .second, .val (.long q3), .second, .val (.int (511 : Int32)), .val (.int (Int32.ofNat (own_nx (own_nx S0))))] [(.ref a1)])) rfl rfl (hb hby d6_46)
      obtain ⟨clo41, Aro41, qo41, So41, No41, Ho41, Go41⟩ := id c9
      have hino41 : ¬ (((2 : Int32) * (Int32.ofNat (own_nx (own_nx S0)))) < 0 ∨ clo41.slots.size ≤ (((2 : Int32) * (Int32.ofNat (own_nx (own_nx S0))))).toNatClampNeg) := inb_of So41 (own_two_fin ⟨(own_nx (own_nx S0)), (own_nx_lt (own_nx S0))⟩).2
      obtain ⟨T42, h42, X42, e42, W42, st42⟩ := stJ X40 hx hZ e40 Aro41 (j := ((2 : Int32) * (Int32.ofNat (own_nx (own_nx S0))))) hino41 (g := (mkF m 54 #[.val (.ref a1), .val (.long q2), .second, .val (.long q3), .second, .val (.int (511 : Int32)), .val (.int (Int32.ofNat (own_nx (own_nx S0))))] [(.long q2), (.int ((2 : Int32) * (Int32.ofNat (own_nx (own_nx S0))))), (.ref lA)])) rfl rfl (hb hby d6_54)
      have V42 : Arv Z h42 lA kl .long (1024 : Int32) (vl.set (2 * (own_nx (own_nx S0))) (.long q2)) (.long (0 : Int64)) := Arv.set Aro41 qo41 So41 No41 Ho41 Go41 rfl W42 (2 * (own_nx (own_nx S0))) (own_two_fin ⟨(own_nx (own_nx S0)), (own_nx_lt (own_nx S0))⟩).1 (by rw [hlen]; have := (own_nx_lt (own_nx S0)); omega)
      have K42 := K3.wr W42 (Or.inl (List.mem_of_getElem? (i := 0) rfl))
      have N42 := Fr.snoc X42 N3 g_lA
      have c43 := (c7.other W42 (Or.inl ne1l))
      obtain ⟨T44, X44, e44, st44⟩ := getF X42 hx hZ hown (host := "") (Or.inl (hw _ (List.mem_of_getElem? (i := 16) rfl))) Via.refl e42 c43 (g := (mkF m 56 #[.val (.ref a1), .val (.long q2), .second, .val (.long q3), .second, .val (.int (511 : Int32)), .val (.int (Int32.ofNat (own_nx (own_nx S0))))] [(.ref a1)])) rfl rfl (hb hby d6_56)
      obtain ⟨clo45, Aro45, qo45, So45, No45, Ho45, Go45⟩ := id V42
      have hino45 : ¬ ((((2 : Int32) * (Int32.ofNat (own_nx (own_nx S0)))) + (1 : Int32)) < 0 ∨ clo45.slots.size ≤ ((((2 : Int32) * (Int32.ofNat (own_nx (own_nx S0)))) + (1 : Int32))).toNatClampNeg) := inb_of So45 (own_two1_fin ⟨(own_nx (own_nx S0)), (own_nx_lt (own_nx S0))⟩).2
      obtain ⟨T46, h46, X46, e46, W46, st46⟩ := stJ X44 hx hZ e44 Aro45 (j := (((2 : Int32) * (Int32.ofNat (own_nx (own_nx S0)))) + (1 : Int32))) hino45 (g := (mkF m 66 #[.val (.ref a1), .val (.long q2), .second, .val (.long q3), .second, .val (.int (511 : Int32)), .val (.int (Int32.ofNat (own_nx (own_nx S0))))] [(.long q3), (.int (((2 : Int32) * (Int32.ofNat (own_nx (own_nx S0)))) + (1 : Int32))), (.ref lA)])) rfl rfl (hb hby d6_66)
      have V46 : Arv Z h46 lA kl .long (1024 : Int32) ((vl.set (2 * (own_nx (own_nx S0))) (.long q2)).set (2 * (own_nx (own_nx S0)) + 1) (.long q3)) (.long (0 : Int64)) := Arv.set Aro45 qo45 So45 No45 Ho45 Go45 rfl W46 (2 * (own_nx (own_nx S0)) + 1) (own_two1_fin ⟨(own_nx (own_nx S0)), (own_nx_lt (own_nx S0))⟩).1 (by rw [List.length_set, hlen]; have := (own_nx_lt (own_nx S0)); omega)
      have K46 := K42.wr W46 (Or.inl (List.mem_of_getElem? (i := 0) rfl))
      have N46 := Fr.snoc X46 N42 g_lA
      obtain ⟨fs, hr, hrun, hended, hW, hsame⟩ := X46.leave (v := none) (fun _ => rfl)
      refine ⟨_, _, pre36 _ ?_, hrun, hended, _, _, rfl, ?_, ⟨_, rfl⟩, hW, hsame.mono (by decide) (by decide)⟩
      ·
        show Steps p.tables e below (T23.setTop (mkF m 19 #[.val (.ref a1), .val (.long q2), .second, .val (.long q3), .second, .val (.int (511 : Int32)), .val (.int (Int32.ofNat (own_nx (own_nx S0))))] [])) _
        refine XS.aloadN X23.here hx rfl (hb hby d6_19) rfl rfl ?_
        show Steps p.tables e below (T23.setTop (mkF m 20 #[.val (.ref a1), .val (.long q2), .second, .val (.long q3), .second, .val (.int (511 : Int32)), .val (.int (Int32.ofNat (own_nx (own_nx S0))))] [(.ref a1)])) _
        refine st37 _ ?_
        show Steps p.tables e below (T37.setTop (mkF m 23 #[.val (.ref a1), .val (.long q2), .second, .val (.long q3), .second, .val (.int (511 : Int32)), .val (.int (Int32.ofNat (own_nx (own_nx S0))))] [(.ref lA)])) _
        refine XS.iconst X37.here hx rfl (hb hby d6_23) ?_
        show Steps p.tables e below (T37.setTop (mkF m 24 #[.val (.ref a1), .val (.long q2), .second, .val (.long q3), .second, .val (.int (511 : Int32)), .val (.int (Int32.ofNat (own_nx (own_nx S0))))] [(.int (2 : Int32)), (.ref lA)])) _
        refine XS.iload X37.here hx rfl (hb hby d6_24) rfl ?_
        show Steps p.tables e below (T37.setTop (mkF m 26 #[.val (.ref a1), .val (.long q2), .second, .val (.long q3), .second, .val (.int (511 : Int32)), .val (.int (Int32.ofNat (own_nx (own_nx S0))))] [(.int (Int32.ofNat (own_nx (own_nx S0)))), (.int (2 : Int32)), (.ref lA)])) _
        refine XS.imul X37.here hx rfl (hb hby d6_26) rfl ?_
        show Steps p.tables e below (T37.setTop (mkF m 27 #[.val (.ref a1), .val (.long q2), .second, .val (.long q3), .second, .val (.int (511 : Int32)), .val (.int (Int32.ofNat (own_nx (own_nx S0))))] [(.int ((2 : Int32) * (Int32.ofNat (own_nx (own_nx S0))))), (.ref lA)])) _
        refine X37.laload hx (j := ((2 : Int32) * (Int32.ofNat (own_nx (own_nx S0))))) (v := (.long (own_vat vl (2 * (own_nx (own_nx S0)))))) (by rw [e37]; exact Aro38.1) (State.isArrayOf_alike hZ.alike Aro38.2.1) Aro38.2.2 hino38 hato38 (g := (mkF m 27 #[.val (.ref a1), .val (.long q2), .second, .val (.long q3), .second, .val (.int (511 : Int32)), .val (.int (Int32.ofNat (own_nx (own_nx S0))))] [(.int ((2 : Int32) * (Int32.ofNat (own_nx (own_nx S0))))), (.ref lA)])) rfl rfl (hb hby d6_27) _ ?_
        show Steps p.tables e below (T37.setTop (mkF m 28 #[.val (.ref a1), .val (.long q2), .second, .val (.long q3), .second, .val (.int (511 : Int32)), .val (.int (Int32.ofNat (own_nx (own_nx S0))))] [(.long (own_vat vl (2 * (own_nx (own_nx S0)))))])) _
        refine XS.lconst X37.here hx rfl (hb hby d6_28) ?_
        show Steps p.tables e below (T37.setTop (mkF m 29 #[.val (.ref a1), .val (.long q2), .second, .val (.long q3), .second, .val (.int (511 : Int32)), .val (.int (Int32.ofNat (own_nx (own_nx S0))))] [(.long (0 : Int64)), (.long (own_vat vl (2 * (own_nx (own_nx S0)))))])) _
        refine XS.lcmp X37.here hx rfl (hb hby d6_29) rfl ?_
        show Steps p.tables e below (T37.setTop (mkF m 30 #[.val (.ref a1), .val (.long q2), .second, .val (.long q3), .second, .val (.int (511 : Int32)), .val (.int (Int32.ofNat (own_nx (own_nx S0))))] [(.int (lcmpW (own_vat vl (2 * (own_nx (own_nx S0)))) (0 : Int64)))])) _
        refine XS.ifYes X37.here hx rfl (pc0 := 30) (pc' := 45) rfl (hb hby d6_30) rfl ((if0 _ _).trans (teq ((lw_eq _ _).mpr hk39)).1) (by decide) (by decide) ?_
        show Steps p.tables e below (T37.setTop (mkF m 45 #[.val (.ref a1), .val (.long q2), .second, .val (.long q3), .second, .val (.int (511 : Int32)), .val (.int (Int32.ofNat (own_nx (own_nx S0))))] [])) _
        refine XS.aloadN X37.here hx rfl (hb hby d6_45) rfl rfl ?_
        show Steps p.tables e below (T37.setTop (mkF m 46 #[.val (.ref a1), .val (.long q2), .second, .val (.long q3), .second, .val (.int (511 : Int32)), .val (.int (Int32.ofNat (own_nx (own_nx S0))))] [(.ref a1)])) _
        refine st40 _ ?_
        show Steps p.tables e below (T40.setTop (mkF m 49 #[.val (.ref a1), .val (.long q2), .second, .val (.long q3), .second, .val (.int (511 : Int32)), .val (.int (Int32.ofNat (own_nx (own_nx S0))))] [(.ref lA)])) _
        refine XS.iconst X40.here hx rfl (hb hby d6_49) ?_
        show Steps p.tables e below (T40.setTop (mkF m 50 #[.val (.ref a1), .val (.long q2), .second, .val (.long q3), .second, .val (.int (511 : Int32)), .val (.int (Int32.ofNat (own_nx (own_nx S0))))] [(.int (2 : Int32)), (.ref lA)])) _
        refine XS.iload X40.here hx rfl (hb hby d6_50) rfl ?_
        show Steps p.tables e below (T40.setTop (mkF m 52 #[.val (.ref a1), .val (.long q2), .second, .val (.long q3), .second, .val (.int (511 : Int32)), .val (.int (Int32.ofNat (own_nx (own_nx S0))))] [(.int (Int32.ofNat (own_nx (own_nx S0)))), (.int (2 : Int32)), (.ref lA)])) _
        refine XS.imul X40.here hx rfl (hb hby d6_52) rfl ?_
        show Steps p.tables e below (T40.setTop (mkF m 53 #[.val (.ref a1), .val (.long q2), .second, .val (.long q3), .second, .val (.int (511 : Int32)), .val (.int (Int32.ofNat (own_nx (own_nx S0))))] [(.int ((2 : Int32) * (Int32.ofNat (own_nx (own_nx S0))))), (.ref lA)])) _
        refine XS.lloadN X40.here hx rfl (hb hby d6_53) rfl ?_
        show Steps p.tables e below (T40.setTop (mkF m 54 #[.val (.ref a1), .val (.long q2), .second, .val (.long q3), .second, .val (.int (511 : Int32)), .val (.int (Int32.ofNat (own_nx (own_nx S0))))] [(.long q2), (.int ((2 : Int32) * (Int32.ofNat (own_nx (own_nx S0))))), (.ref lA)])) _
        refine st42 _ ?_
        show Steps p.tables e below (T42.setTop (mkF m 55 #[.val (.ref a1), .val (.long q2), .second, .val (.long q3), .second, .val (.int (511 : Int32)), .val (.int (Int32.ofNat (own_nx (own_nx S0))))] [])) _
        refine XS.aloadN X42.here hx rfl (hb hby d6_55) rfl rfl ?_
        show Steps p.tables e below (T42.setTop (mkF m 56 #[.val (.ref a1), .val (.long q2), .second, .val (.long q3), .second, .val (.int (511 : Int32)), .val (.int (Int32.ofNat (own_nx (own_nx S0))))] [(.ref a1)])) _
        refine st44 _ ?_
        show Steps p.tables e below (T44.setTop (mkF m 59 #[.val (.ref a1), .val (.long q2), .second, .val (.long q3), .second, .val (.int (511 : Int32)), .val (.int (Int32.ofNat (own_nx (own_nx S0))))] [(.ref lA)])) _
        refine XS.iconst X44.here hx rfl (hb hby d6_59) ?_
        show Steps p.tables e below (T44.setTop (mkF m 60 #[.val (.ref a1), .val (.long q2), .second, .val (.long q3), .second, .val (.int (511 : Int32)), .val (.int (Int32.ofNat (own_nx (own_nx S0))))] [(.int (2 : Int32)), (.ref lA)])) _
        refine XS.iload X44.here hx rfl (hb hby d6_60) rfl ?_
        show Steps p.tables e below (T44.setTop (mkF m 62 #[.val (.ref a1), .val (.long q2), .second, .val (.long q3), .second, .val (.int (511 : Int32)), .val (.int (Int32.ofNat (own_nx (own_nx S0))))] [(.int (Int32.ofNat (own_nx (own_nx S0)))), (.int (2 : Int32)), (.ref lA)])) _
        refine XS.imul X44.here hx rfl (hb hby d6_62) rfl ?_
        show Steps p.tables e below (T44.setTop (mkF m 63 #[.val (.ref a1), .val (.long q2), .second, .val (.long q3), .second, .val (.int (511 : Int32)), .val (.int (Int32.ofNat (own_nx (own_nx S0))))] [(.int ((2 : Int32) * (Int32.ofNat (own_nx (own_nx S0))))), (.ref lA)])) _
        refine XS.iconst X44.here hx rfl (hb hby d6_63) ?_
        show Steps p.tables e below (T44.setTop (mkF m 64 #[.val (.ref a1), .val (.long q2), .second, .val (.long q3), .second, .val (.int (511 : Int32)), .val (.int (Int32.ofNat (own_nx (own_nx S0))))] [(.int (1 : Int32)), (.int ((2 : Int32) * (Int32.ofNat (own_nx (own_nx S0))))), (.ref lA)])) _
        refine XS.iadd X44.here hx rfl (hb hby d6_64) rfl ?_
        show Steps p.tables e below (T44.setTop (mkF m 65 #[.val (.ref a1), .val (.long q2), .second, .val (.long q3), .second, .val (.int (511 : Int32)), .val (.int (Int32.ofNat (own_nx (own_nx S0))))] [(.int (((2 : Int32) * (Int32.ofNat (own_nx (own_nx S0)))) + (1 : Int32))), (.ref lA)])) _
        refine XS.lloadN X44.here hx rfl (hb hby d6_65) rfl ?_
        show Steps p.tables e below (T44.setTop (mkF m 66 #[.val (.ref a1), .val (.long q2), .second, .val (.long q3), .second, .val (.int (511 : Int32)), .val (.int (Int32.ofNat (own_nx (own_nx S0))))] [(.long q3), (.int (((2 : Int32) * (Int32.ofNat (own_nx (own_nx S0)))) + (1 : Int32))), (.ref lA)])) _
        refine st46 _ ?_
        show Steps p.tables e below (T46.setTop (mkF m 67 #[.val (.ref a1), .val (.long q2), .second, .val (.long q3), .second, .val (.int (511 : Int32)), .val (.int (Int32.ofNat (own_nx (own_nx S0))))] [])) _
        exact X46.returnOut hx Bd.returns (hb hby d6_67) hr
      ·
        show Q6 Z a1 q2 q3 lA kl vl cn h0 n0 _ T46.heap _
        rw [e46]
        exact ⟨rfl, N46, K46, _, by rw [List.length_set, List.length_set]; exact hlen, own_longs_set (own_longs_set hlong _ _) _ _, own_occ_set hocc0 _ _ _, V46⟩
theorem d1_0 : decode prog_4_method_1_code 0 = .ok (.aload_n 0, 1) := by decide +kernel
theorem d1_1 : decode prog_4_method_1_code 1 = .ok (.invokespecial 3, 3) := by decide +kernel
theorem d1_4 : decode prog_4_method_1_code 4 = .ok (.aload_n 0, 1) := by decide +kernel
theorem d1_5 : decode prog_4_method_1_code 5 = .ok (.sipush 4096, 3) := by decide +kernel
theorem d1_8 : decode prog_4_method_1_code 8 = .ok (.newarray .byte, 2) := by decide +kernel
theorem d1_10 : decode prog_4_method_1_code 10 = .ok (.putfield 9, 3) := by decide +kernel
theorem d1_13 : decode prog_4_method_1_code 13 = .ok (.aload_n 0, 1) := by decide +kernel
theorem d1_14 : decode prog_4_method_1_code 14 = .ok (.sipush 256, 3) := by decide +kernel
theorem d1_17 : decode prog_4_method_1_code 17 = .ok (.newarray .int, 2) := by decide +kernel
theorem d1_19 : decode prog_4_method_1_code 19 = .ok (.putfield 15, 3) := by decide +kernel
theorem d1_22 : decode prog_4_method_1_code 22 = .ok (.aload_n 0, 1) := by decide +kernel
theorem d1_23 : decode prog_4_method_1_code 23 = .ok (.sipush 1024, 3) := by decide +kernel
theorem d1_26 : decode prog_4_method_1_code 26 = .ok (.newarray .long, 2) := by decide +kernel
theorem d1_28 : decode prog_4_method_1_code 28 = .ok (.putfield 19, 3) := by decide +kernel
theorem d1_31 : decode prog_4_method_1_code 31 = .ok (.return_, 1) := by decide +kernel
theorem pn_1 : plainName "com/example/amherst/amherst/ByteStringTable" = true := by first | (simp [plainName, overriddenIn]; done) | decide +kernel
theorem ef_1 (m : MethodId) (a1 : Addr) : entryFrame m #[(.ref a1)] 1 = (mkF m 0 #[.val (.ref a1)] []) := by first | (simp [entryFrame, mkF, argsToLocals, Value.category]; done) | rfl
def Q1 (Z : State) (a1 : Addr) (h0 : Heap) (n0 : Nat) (v : Option Value) (h : Heap) (L : List Loc) : Prop := v = none ∧ Fr n0 L ∧ Keep h0 h [a1] ∧ ∃ (bA sA lA : Addr) (kb ks kl : ClassId), n0 ≤ bA ∧ n0 ≤ sA ∧ n0 ≤ lA ∧ h0.size ≤ bA ∧ h0.size ≤ sA ∧ h0.size ≤ lA ∧ a1 ≠ bA ∧ a1 ≠ sA ∧ a1 ≠ lA ∧ bA ≠ sA ∧ bA ≠ lA ∧ sA ≠ lA ∧ Fld Z h a1 "com/example/amherst/amherst/ByteStringTable" "bytes" "[B" (.ref bA) ∧ Fld Z h a1 "com/example/amherst/amherst/ByteStringTable" "starts" "[I" (.ref sA) ∧ Fld Z h a1 "com/example/amherst/amherst/ByteStringTable" "slots" "[J" (.ref lA) ∧ Fld Z h a1 "com/example/amherst/amherst/ByteStringTable" "size" "I" (.int (0 : Int32)) ∧ Arv Z h bA kb .byte 4096 (List.replicate 4096 (.int (0 : Int32))) (.int (0 : Int32)) ∧ Arv Z h sA ks .int 256 [(.int (0 : Int32)), (.int (0 : Int32)), (.int (0 : Int32)), (.int (0 : Int32))] (.int (0 : Int32)) ∧ Arv Z h lA kl .long 1024 (List.replicate 1024 (.long (0 : Int64))) (.long (0 : Int64))
set_option maxRecDepth 65536 in
set_option maxHeartbeats 40000000 in
theorem rm1 (l : Launch) (Z : State) (a0 : Array Value) (hw : ∀ d ∈ tables_1, d.before a0 Z = true) (ws : List Jvm.Cond) (a1 : Addr) (h0 : Heap) (n0 : Nat) (Z0 : n0 ≤ h0.size) (E_a1 : Exa Z h0 a1 "com/example/amherst/amherst/ByteStringTable") (F_bytes : Fld Z h0 a1 "com/example/amherst/amherst/ByteStringTable" "bytes" "[B" .null) (F_starts : Fld Z h0 a1 "com/example/amherst/amherst/ByteStringTable" "starts" "[I" .null) (F_slots : Fld Z h0 a1 "com/example/amherst/amherst/ByteStringTable" "slots" "[J" .null) (F_size : Fld Z h0 a1 "com/example/amherst/amherst/ByteStringTable" "size" "I" (.int (0 : Int32))) (g_a1 : n0 ≤ a1) :
    MetFree l (⟨"com/example/amherst/amherst/ByteStringTable", "<init>", "()V"⟩ : MethodName) (head1 (Jvm.Cond.code (⟨"com/example/amherst/amherst/ByteStringTable", "<init>", "()V"⟩ : MethodName) prog_4_method_1_code 1 none :: ws) ({ frames := 1, cells := 3, slots := 5376, locals := 12 } : Room)) (fun a U => a = #[(.ref a1)] ∧ Z.Warmed39 U.vm ∧ U.heap = h0) (fun _ _ _ _ _ => True) (fun _ U o U' => ∃ v L, o = .returned v ∧ Q1 Z a1 h0 n0 v U'.heap L ∧ FrameEnd U o U' L ({ frames := 1, cells := 3, slots := 5376, locals := 12 } : Room).cells ({ frames := 1, cells := 3, slots := 5376, locals := 12 } : Room).slots) := by
  refine MetFree.of_bodySF (plainFor_of_name pn_1) hisR ?_
  intro p e s m args below meth c s₁ Bd hml0 hP hK
  obtain ⟨rfl, hZ, hh⟩ := hP
  have hx := Bd.exec
  have hby := Bd.bytes
  have hml : c.maxLocals = 1 := hml0
  have hown : s.vm.findClass "com/example/amherst/amherst/ByteStringTable" = some m.cls := findClass_of_methodNamed Bd.named
  have hnm := (name_of_methodNamed Bd.named Bd.method).1
  have X0 : Stand p l e ({ frames := 1, cells := 3, slots := 5376, locals := 12 } : Room) s m #[(.ref a1)] below meth c s₁ [] 0 0 := Stand.of_body Bd
  have e0 : s₁.heap = h0 := by rw [← hh, Bd.state]; rfl
  have N0 := Fr.nil n0
  have K0 := Keep.refl h0 ([a1] : List Addr)
  have pre0 : ∀ t, Steps p.tables e below (s₁.setTop (mkF m 0 #[.val (.ref a1)] [])) t → Steps p.tables e below (s₁.setTop (entryFrame m #[(.ref a1)] 1)) t := fun t k => castTop (ef_1 m a1) k
  obtain ⟨T1, X1, e1, st1⟩ := initO X0 hx hZ hown (hw _ (List.mem_of_getElem? (i := 7) rfl)) (hw _ (List.mem_of_getElem? (i := 8) rfl)) (hw _ (List.mem_of_getElem? (i := 9) rfl)) e0 (g := (mkF m 1 #[.val (.ref a1)] [(.ref a1)])) rfl (by rw [hml]; rfl) rfl (hb hby d1_1) (by decide) (W := 0) (by show 2 * 0 + _ ≤ _; exact Nat.le_of_eq rfl) (by decide)
  obtain ⟨T2, h2, k2, X2, e2, E2, A2, st2⟩ := newP X1 hx hZ (hw _ (List.mem_of_getElem? (i := 0) rfl)) e1 (g := (mkF m 8 #[.val (.ref a1)] [(.int (4096 : Int32)), (.ref a1)])) rfl (hb hby d1_8) rfl (by decide) (cap := 4096) (by decide) (by decide) (by decide) (by decide)
  obtain ⟨b2, g2⟩ : ∃ z, z = h0.size := ⟨_, rfl⟩
  rw [← g2] at A2 st2
  have g_b2 : n0 ≤ b2 := Nat.le_trans (Nat.le_trans Z0 K0.1) (Nat.le_of_eq g2.symm)
  have sz_b2 : h0.size ≤ b2 := Nat.le_trans K0.1 (Nat.le_of_eq g2.symm)
  have ne_a1_b2 : a1 ≠ b2 := Nat.ne_of_lt (Nat.lt_of_lt_of_le E_a1.lt (Nat.le_of_eq g2.symm))
  have K2 := K0.ext E2
  have V_b2 : Arv Z h2 b2 k2 .byte (4096 : Int32) (List.replicate 4096 (.int (0 : Int32))) (.int (0 : Int32)) := (Arv.new A2 (by decide)).pad (pad_rep [] (.int (0 : Int32)) 4096)
  have c3 := (E_a1.ext E2)
  have c4 := (F_bytes.ext E2)
  obtain ⟨T5, h5, X5, e5, W5, st5⟩ := putF X2 hx hZ hown (host := "") (Or.inl (hw _ (List.mem_of_getElem? (i := 10) rfl))) Via.refl e2 c4 c3 (Or.inl (hw _ (List.mem_of_getElem? (i := 11) rfl))) (hw _ (List.mem_of_getElem? (i := 2) rfl)) (ty := (.array .byte)) (by decide) rfl rfl (g := (mkF m 10 #[.val (.ref a1)] [(.ref b2), (.ref a1)])) rfl rfl (hb hby d1_10)
  have Fw5 := c4.same W5
  have K5 := K2.wr W5 (Or.inl (List.mem_of_getElem? (i := 0) rfl))
  have N5 := Fr.snoc X5 N0 g_a1
  have c6 := (c3.wr W5)
  have c7 := (V_b2.other W5 (Ne.symm ne_a1_b2))
  obtain ⟨T8, h8, k8, X8, e8, E8, A8, st8⟩ := newP X5 hx hZ (hw _ (List.mem_of_getElem? (i := 12) rfl)) e5 (g := (mkF m 17 #[.val (.ref a1)] [(.int (256 : Int32)), (.ref a1)])) rfl (hb hby d1_17) rfl (by decide) (cap := 256) (by decide) (by decide) (by decide) (by decide)
  obtain ⟨b8, g8⟩ : ∃ z, z = h5.size := ⟨_, rfl⟩
  rw [← g8] at A8 st8
  have g_b8 : n0 ≤ b8 := Nat.le_trans (Nat.le_trans Z0 K5.1) (Nat.le_of_eq g8.symm)
  have sz_b8 : h0.size ≤ b8 := Nat.le_trans K5.1 (Nat.le_of_eq g8.symm)
  have ne_a1_b8 : a1 ≠ b8 := Nat.ne_of_lt (Nat.lt_of_lt_of_le c6.lt (Nat.le_of_eq g8.symm))
  have ne_b2_b8 : b2 ≠ b8 := Nat.ne_of_lt (Nat.lt_of_lt_of_le c7.lt (Nat.le_of_eq g8.symm))
  have K8 := K5.ext E8
  have V_b8 : Arv Z h8 b8 k8 .int (256 : Int32) [(.int (0 : Int32)), (.int (0 : Int32)), (.int (0 : Int32)), (.int (0 : Int32))] (.int (0 : Int32)) := (Arv.new A8 (by decide)).pad (pad_rep [] (.int (0 : Int32)) 4)
  have c9 := (c6.ext E8)
  have c10 := (((F_starts.ext E2).other W5 (Or.inr (slot_ne (Or.inl (hw _ (List.mem_of_getElem? (i := 14) rfl))) (Or.inl (hw _ (List.mem_of_getElem? (i := 11) rfl))) (by decide) (t := (.array .int)) (t' := (.array .byte)) (by decide) (by decide)))).ext E8)
  obtain ⟨T11, h11, X11, e11, W11, st11⟩ := putF X8 hx hZ hown (host := "") (Or.inl (hw _ (List.mem_of_getElem? (i := 13) rfl))) Via.refl e8 c10 c9 (Or.inl (hw _ (List.mem_of_getElem? (i := 14) rfl))) (hw _ (List.mem_of_getElem? (i := 2) rfl)) (ty := (.array .int)) (by decide) rfl rfl (g := (mkF m 19 #[.val (.ref a1)] [(.ref b8), (.ref a1)])) rfl rfl (hb hby d1_19)
  have Fw11 := c10.same W11
  have K11 := K8.wr W11 (Or.inl (List.mem_of_getElem? (i := 0) rfl))
  have N11 := Fr.snoc X11 N5 g_a1
  have c12 := (c9.wr W11)
  have c13 := ((c7.ext E8).other W11 (Ne.symm ne_a1_b2))
  have c14 := (V_b8.other W11 (Ne.symm ne_a1_b8))
  obtain ⟨T15, h15, k15, X15, e15, E15, A15, st15⟩ := newP X11 hx hZ (hw _ (List.mem_of_getElem? (i := 15) rfl)) e11 (g := (mkF m 26 #[.val (.ref a1)] [(.int (1024 : Int32)), (.ref a1)])) rfl (hb hby d1_26) rfl (by decide) (cap := 1024) (by decide) (by decide) (by decide) (by decide)
  obtain ⟨b15, g15⟩ : ∃ z, z = h11.size := ⟨_, rfl⟩
  rw [← g15] at A15 st15
  have g_b15 : n0 ≤ b15 := Nat.le_trans (Nat.le_trans Z0 K11.1) (Nat.le_of_eq g15.symm)
  have sz_b15 : h0.size ≤ b15 := Nat.le_trans K11.1 (Nat.le_of_eq g15.symm)
  have ne_a1_b15 : a1 ≠ b15 := Nat.ne_of_lt (Nat.lt_of_lt_of_le c12.lt (Nat.le_of_eq g15.symm))
  have ne_b2_b15 : b2 ≠ b15 := Nat.ne_of_lt (Nat.lt_of_lt_of_le c13.lt (Nat.le_of_eq g15.symm))
  have ne_b8_b15 : b8 ≠ b15 := Nat.ne_of_lt (Nat.lt_of_lt_of_le c14.lt (Nat.le_of_eq g15.symm))
  have K15 := K11.ext E15
  have V_b15 : Arv Z h15 b15 k15 .long (1024 : Int32) (List.replicate 1024 (.long (0 : Int64))) (.long (0 : Int64)) := (Arv.new A15 (by decide)).pad (pad_rep [] (.long (0 : Int64)) 1024)
  have c16 := (c12.ext E15)
  have c17 := (((((F_slots.ext E2).other W5 (Or.inr (slot_ne (Or.inl (hw _ (List.mem_of_getElem? (i := 17) rfl))) (Or.inl (hw _ (List.mem_of_getElem? (i := 11) rfl))) (by decide) (t := (.array .long)) (t' := (.array .byte)) (by decide) (by decide)))).ext E8).other W11 (Or.inr (slot_ne (Or.inl (hw _ (List.mem_of_getElem? (i := 17) rfl))) (Or.inl (hw _ (List.mem_of_getElem? (i := 14) rfl))) (by decide) (t := (.array .long)) (t' := (.array .int)) (by decide) (by decide)))).ext E15)
  obtain ⟨T18, h18, X18, e18, W18, st18⟩ := putF X15 hx hZ hown (host := "") (Or.inl (hw _ (List.mem_of_getElem? (i := 16) rfl))) Via.refl e15 c17 c16 (Or.inl (hw _ (List.mem_of_getElem? (i := 17) rfl))) (hw _ (List.mem_of_getElem? (i := 2) rfl)) (ty := (.array .long)) (by decide) rfl rfl (g := (mkF m 28 #[.val (.ref a1)] [(.ref b15), (.ref a1)])) rfl rfl (hb hby d1_28)
  have Fw18 := c17.same W18
  have K18 := K15.wr W18 (Or.inl (List.mem_of_getElem? (i := 0) rfl))
  have N18 := Fr.snoc X18 N11 g_a1
  have c19 := ((((Fw5.ext E8).other W11 (Or.inr (slot_ne (Or.inl (hw _ (List.mem_of_getElem? (i := 11) rfl))) (Or.inl (hw _ (List.mem_of_getElem? (i := 14) rfl))) (by decide) (t := (.array .byte)) (t' := (.array .int)) (by decide) (by decide)))).ext E15).other W18 (Or.inr (slot_ne (Or.inl (hw _ (List.mem_of_getElem? (i := 11) rfl))) (Or.inl (hw _ (List.mem_of_getElem? (i := 17) rfl))) (by decide) (t := (.array .byte)) (t' := (.array .long)) (by decide) (by decide))))
  have c20 := ((Fw11.ext E15).other W18 (Or.inr (slot_ne (Or.inl (hw _ (List.mem_of_getElem? (i := 14) rfl))) (Or.inl (hw _ (List.mem_of_getElem? (i := 17) rfl))) (by decide) (t := (.array .int)) (t' := (.array .long)) (by decide) (by decide))))
  have c21 := ((((((F_size.ext E2).other W5 (Or.inr (slot_ne (Or.inl (hw _ (List.mem_of_getElem? (i := 24) rfl))) (Or.inl (hw _ (List.mem_of_getElem? (i := 11) rfl))) (by decide) (t := .int) (t' := (.array .byte)) (by decide) (by decide)))).ext E8).other W11 (Or.inr (slot_ne (Or.inl (hw _ (List.mem_of_getElem? (i := 24) rfl))) (Or.inl (hw _ (List.mem_of_getElem? (i := 14) rfl))) (by decide) (t := .int) (t' := (.array .int)) (by decide) (by decide)))).ext E15).other W18 (Or.inr (slot_ne (Or.inl (hw _ (List.mem_of_getElem? (i := 24) rfl))) (Or.inl (hw _ (List.mem_of_getElem? (i := 17) rfl))) (by decide) (t := .int) (t' := (.array .long)) (by decide) (by decide))))
  have c22 := ((c13.ext E15).other W18 (Ne.symm ne_a1_b2))
  have c23 := ((c14.ext E15).other W18 (Ne.symm ne_a1_b8))
  have c24 := (V_b15.other W18 (Ne.symm ne_a1_b15))
  obtain ⟨fs, hr, hrun, hended, hW, hsame⟩ := X18.leave (v := none) (fun _ => rfl)
  refine ⟨_, _, pre0 _ ?_, hrun, hended, _, _, rfl, ?_, ⟨_, rfl⟩, hW, hsame.mono (by decide) (by decide)⟩
  ·
    show Steps p.tables e below (s₁.setTop (mkF m 0 #[.val (.ref a1)] [])) _
    refine XS.aloadN X0.here hx rfl (hb hby d1_0) rfl rfl ?_
    show Steps p.tables e below (s₁.setTop (mkF m 1 #[.val (.ref a1)] [(.ref a1)])) _
    refine st1 _ ?_
    show Steps p.tables e below (T1.setTop (mkF m 4 #[.val (.ref a1)] [])) _
    refine XS.aloadN X1.here hx rfl (hb hby d1_4) rfl rfl ?_
    show Steps p.tables e below (T1.setTop (mkF m 5 #[.val (.ref a1)] [(.ref a1)])) _
    refine XS.sipush X1.here hx rfl (hb hby d1_5) ?_
    show Steps p.tables e below (T1.setTop (mkF m 8 #[.val (.ref a1)] [(.int (4096 : Int32)), (.ref a1)])) _
    refine st2 _ ?_
    show Steps p.tables e below (T2.setTop (mkF m 10 #[.val (.ref a1)] [(.ref b2), (.ref a1)])) _
    refine st5 _ ?_
    show Steps p.tables e below (T5.setTop (mkF m 13 #[.val (.ref a1)] [])) _
    refine XS.aloadN X5.here hx rfl (hb hby d1_13) rfl rfl ?_
    show Steps p.tables e below (T5.setTop (mkF m 14 #[.val (.ref a1)] [(.ref a1)])) _
    refine XS.sipush X5.here hx rfl (hb hby d1_14) ?_
    show Steps p.tables e below (T5.setTop (mkF m 17 #[.val (.ref a1)] [(.int (256 : Int32)), (.ref a1)])) _
    refine st8 _ ?_
    show Steps p.tables e below (T8.setTop (mkF m 19 #[.val (.ref a1)] [(.ref b8), (.ref a1)])) _
    refine st11 _ ?_
    show Steps p.tables e below (T11.setTop (mkF m 22 #[.val (.ref a1)] [])) _
    refine XS.aloadN X11.here hx rfl (hb hby d1_22) rfl rfl ?_
    show Steps p.tables e below (T11.setTop (mkF m 23 #[.val (.ref a1)] [(.ref a1)])) _
    refine XS.sipush X11.here hx rfl (hb hby d1_23) ?_
    show Steps p.tables e below (T11.setTop (mkF m 26 #[.val (.ref a1)] [(.int (1024 : Int32)), (.ref a1)])) _
    refine st15 _ ?_
    show Steps p.tables e below (T15.setTop (mkF m 28 #[.val (.ref a1)] [(.ref b15), (.ref a1)])) _
    refine st18 _ ?_
    show Steps p.tables e below (T18.setTop (mkF m 31 #[.val (.ref a1)] [])) _
    exact X18.returnOut hx Bd.returns (hb hby d1_31) hr
  ·
    show Q1 Z a1 h0 n0 _ T18.heap _
    rw [e18]
    exact ⟨rfl, N18, K18, b2, b8, b15, k2, k8, k15, g_b2, g_b8, g_b15, sz_b2, sz_b8, sz_b15, ne_a1_b2, ne_a1_b8, ne_a1_b15, ne_b2_b8, ne_b2_b15, ne_b8_b15, c19, c20, Fw18, c21, c22, c23, c24⟩
theorem d8_0 : decode prog_4_method_6_code 0 = .ok (.aload_n 0, 1) := by decide +kernel
theorem d8_1 : decode prog_4_method_6_code 1 = .ok (.getfield 15, 3) := by decide +kernel
theorem d8_4 : decode prog_4_method_6_code 4 = .ok (.iload_n 1, 1) := by decide +kernel
theorem d8_5 : decode prog_4_method_6_code 5 = .ok (.iconst 1, 1) := by decide +kernel
theorem d8_6 : decode prog_4_method_6_code 6 = .ok (.iadd, 1) := by decide +kernel
theorem d8_7 : decode prog_4_method_6_code 7 = .ok (.iaload, 1) := by decide +kernel
theorem d8_8 : decode prog_4_method_6_code 8 = .ok (.aload_n 0, 1) := by decide +kernel
theorem d8_9 : decode prog_4_method_6_code 9 = .ok (.getfield 15, 3) := by decide +kernel
theorem d8_12 : decode prog_4_method_6_code 12 = .ok (.iload_n 1, 1) := by decide +kernel
theorem d8_13 : decode prog_4_method_6_code 13 = .ok (.iaload, 1) := by decide +kernel
theorem d8_14 : decode prog_4_method_6_code 14 = .ok (.isub, 1) := by decide +kernel
theorem d8_15 : decode prog_4_method_6_code 15 = .ok (.ireturn, 1) := by decide +kernel
theorem pn_8 : plainName "com/example/amherst/amherst/ByteStringTable" = true := by first | (simp [plainName, overriddenIn]; done) | decide +kernel
theorem ef_le0 (m : MethodId) (a1 : Addr) (p1 : Int32) : entryFrame m #[(.ref a1), (.int p1)] 2 = (mkF m 0 #[.val (.ref a1), .val (.int p1)] []) := by first | (simp [entryFrame, mkF, argsToLocals, Value.category]; done) | rfl
def Qle0 (Z : State) (a1 : Addr) (p1 : Int32) (sA : Addr) (ks : ClassId) (x0 : Int32) (x1 : Int32) (x2 : Int32) (x3 : Int32) (h0 : Heap) (n0 : Nat) (v : Option Value) (h : Heap) (L : List Loc) : Prop := v = some (.int (x1 - x0)) ∧ Fr n0 L ∧ h = h0
set_option maxRecDepth 65536 in
set_option maxHeartbeats 40000000 in
theorem le0 (l : Launch) (Z : State) (a0 : Array Value) (hw : ∀ d ∈ tables_1, d.before a0 Z = true) (ws : List Jvm.Cond) (a1 : Addr) (p1 : Int32) (sA : Addr) (ks : ClassId) (x0 : Int32) (x1 : Int32) (x2 : Int32) (x3 : Int32) (h0 : Heap) (n0 : Nat) (Z0 : n0 ≤ h0.size) (hp1 : p1 = 0) (F_st : Fld Z h0 a1 "com/example/amherst/amherst/ByteStringTable" "starts" "[I" (.ref sA)) (V_sA : Arv Z h0 sA ks .int 256 [(.int x0), (.int x1), (.int x2), (.int x3)] (.int (0 : Int32))) :
    MetFree l (⟨"com/example/amherst/amherst/ByteStringTable", "length", "(I)I"⟩ : MethodName) (head1 (Jvm.Cond.code (⟨"com/example/amherst/amherst/ByteStringTable", "length", "(I)I"⟩ : MethodName) prog_4_method_6_code 2 (some .int) :: ws) ({ frames := 0, cells := 0, slots := 0, locals := 0 } : Room)) (fun a U => a = #[(.ref a1), (.int p1)] ∧ Z.Warmed39 U.vm ∧ U.heap = h0) (fun _ _ _ _ _ => True) (fun _ U o U' => ∃ v L, o = .returned v ∧ Qle0 Z a1 p1 sA ks x0 x1 x2 x3 h0 n0 v U'.heap L ∧ FrameEnd U o U' L ({ frames := 0, cells := 0, slots := 0, locals := 0 } : Room).cells ({ frames := 0, cells := 0, slots := 0, locals := 0 } : Room).slots) := by
  refine MetFree.of_bodySF (plainFor_of_name pn_8) hisR ?_
  intro p e s m args below meth c s₁ Bd hml0 hP hK
  obtain ⟨rfl, hZ, hh⟩ := hP
  have hx := Bd.exec
  have hby := Bd.bytes
  have hml : c.maxLocals = 2 := hml0
  have hown : s.vm.findClass "com/example/amherst/amherst/ByteStringTable" = some m.cls := findClass_of_methodNamed Bd.named
  have hnm := (name_of_methodNamed Bd.named Bd.method).1
  have X0 : Stand p l e ({ frames := 0, cells := 0, slots := 0, locals := 0 } : Room) s m #[(.ref a1), (.int p1)] below meth c s₁ [] 0 0 := Stand.of_body Bd
  have e0 : s₁.heap = h0 := by rw [← hh, Bd.state]; rfl
  have N0 := Fr.nil n0
  have K0 := Keep.refl h0 ([] : List Addr)
  have pre0 : ∀ t, Steps p.tables e below (s₁.setTop (mkF m 0 #[.val (.ref a1), .val (.int p1)] [])) t → Steps p.tables e below (s₁.setTop (entryFrame m #[(.ref a1), (.int p1)] 2)) t := fun t k => castTop (ef_le0 m a1 p1) k
  subst hp1
  obtain ⟨T1, X1, e1, st1⟩ := getF X0 hx hZ hown (host := "") (Or.inl (hw _ (List.mem_of_getElem? (i := 13) rfl))) Via.refl e0 F_st (g := (mkF m 1 #[.val (.ref a1), .val (.int (0 : Int32))] [(.ref a1)])) rfl rfl (hb hby d8_1)
  obtain ⟨clo2, Aro2, -, So2, No2, Ho2, -⟩ := id V_sA
  have hino2 : ¬ ((1 : Int32) < 0 ∨ clo2.slots.size ≤ ((1 : Int32)).toNatClampNeg) := inb_of So2 ⟨by decide, by decide⟩
  have hato2 : clo2.slots[((1 : Int32)).toNatClampNeg]? = some (.int x1) := Ho2.at hino2 rfl
  obtain ⟨T3, X3, e3, st3⟩ := getF X1 hx hZ hown (host := "") (Or.inl (hw _ (List.mem_of_getElem? (i := 13) rfl))) Via.refl e1 F_st (g := (mkF m 9 #[.val (.ref a1), .val (.int (0 : Int32))] [(.ref a1), (.int x1)])) rfl rfl (hb hby d8_9)
  obtain ⟨clo4, Aro4, -, So4, No4, Ho4, -⟩ := id V_sA
  have hino4 : ¬ ((0 : Int32) < 0 ∨ clo4.slots.size ≤ ((0 : Int32)).toNatClampNeg) := inb_of So4 ⟨by decide, by decide⟩
  have hato4 : clo4.slots[((0 : Int32)).toNatClampNeg]? = some (.int x0) := Ho4.at hino4 rfl
  obtain ⟨fs, hr, hrun, hended, hW, hsame⟩ := X3.leave (v := some (.int (x1 - x0))) (fun h => by rw [Bd.returns] at h; cases h)
  refine ⟨_, _, pre0 _ ?_, hrun, hended, _, _, rfl, ?_, ⟨_, rfl⟩, hW, hsame.mono (by decide) (by decide)⟩
  ·
    show Steps p.tables e below (s₁.setTop (mkF m 0 #[.val (.ref a1), .val (.int (0 : Int32))] [])) _
    refine XS.aloadN X0.here hx rfl (hb hby d8_0) rfl rfl ?_
    show Steps p.tables e below (s₁.setTop (mkF m 1 #[.val (.ref a1), .val (.int (0 : Int32))] [(.ref a1)])) _
    refine st1 _ ?_
    show Steps p.tables e below (T1.setTop (mkF m 4 #[.val (.ref a1), .val (.int (0 : Int32))] [(.ref sA)])) _
    refine XS.iloadN X1.here hx rfl (hb hby d8_4) rfl ?_
    show Steps p.tables e below (T1.setTop (mkF m 5 #[.val (.ref a1), .val (.int (0 : Int32))] [(.int (0 : Int32)), (.ref sA)])) _
    refine XS.iconst X1.here hx rfl (hb hby d8_5) ?_
    show Steps p.tables e below (T1.setTop (mkF m 6 #[.val (.ref a1), .val (.int (0 : Int32))] [(.int (1 : Int32)), (.int (0 : Int32)), (.ref sA)])) _
    refine XS.iadd X1.here hx rfl (hb hby d8_6) rfl ?_
    show Steps p.tables e below (T1.setTop (mkF m 7 #[.val (.ref a1), .val (.int (0 : Int32))] [(.int (1 : Int32)), (.ref sA)])) _
    refine X1.iaload hx (j := (1 : Int32)) (v := (.int x1)) (by rw [e1]; exact Aro2.1) (State.isArrayOf_alike hZ.alike Aro2.2.1) Aro2.2.2 hino2 hato2 (g := (mkF m 7 #[.val (.ref a1), .val (.int (0 : Int32))] [(.int (1 : Int32)), (.ref sA)])) rfl rfl (hb hby d8_7) _ ?_
    show Steps p.tables e below (T1.setTop (mkF m 8 #[.val (.ref a1), .val (.int (0 : Int32))] [(.int x1)])) _
    refine XS.aloadN X1.here hx rfl (hb hby d8_8) rfl rfl ?_
    show Steps p.tables e below (T1.setTop (mkF m 9 #[.val (.ref a1), .val (.int (0 : Int32))] [(.ref a1), (.int x1)])) _
    refine st3 _ ?_
    show Steps p.tables e below (T3.setTop (mkF m 12 #[.val (.ref a1), .val (.int (0 : Int32))] [(.ref sA), (.int x1)])) _
    refine XS.iloadN X3.here hx rfl (hb hby d8_12) rfl ?_
    show Steps p.tables e below (T3.setTop (mkF m 13 #[.val (.ref a1), .val (.int (0 : Int32))] [(.int (0 : Int32)), (.ref sA), (.int x1)])) _
    refine X3.iaload hx (j := (0 : Int32)) (v := (.int x0)) (by rw [e3]; exact Aro4.1) (State.isArrayOf_alike hZ.alike Aro4.2.1) Aro4.2.2 hino4 hato4 (g := (mkF m 13 #[.val (.ref a1), .val (.int (0 : Int32))] [(.int (0 : Int32)), (.ref sA), (.int x1)])) rfl rfl (hb hby d8_13) _ ?_
    show Steps p.tables e below (T3.setTop (mkF m 14 #[.val (.ref a1), .val (.int (0 : Int32))] [(.int x0), (.int x1)])) _
    refine XS.isub X3.here hx rfl (hb hby d8_14) rfl ?_
    show Steps p.tables e below (T3.setTop (mkF m 15 #[.val (.ref a1), .val (.int (0 : Int32))] [(.int (x1 - x0))])) _
    exact retI X3 hx Bd.returns (hb hby d8_15) hr
  ·
    show Qle0 Z a1 _ sA ks x0 x1 x2 x3 h0 n0 _ T3.heap _
    rw [e3]
    exact ⟨rfl, N0, rfl⟩
theorem ef_le1 (m : MethodId) (a1 : Addr) (p1 : Int32) : entryFrame m #[(.ref a1), (.int p1)] 2 = (mkF m 0 #[.val (.ref a1), .val (.int p1)] []) := by first | (simp [entryFrame, mkF, argsToLocals, Value.category]; done) | rfl
def Qle1 (Z : State) (a1 : Addr) (p1 : Int32) (sA : Addr) (ks : ClassId) (x0 : Int32) (x1 : Int32) (x2 : Int32) (x3 : Int32) (h0 : Heap) (n0 : Nat) (v : Option Value) (h : Heap) (L : List Loc) : Prop := v = some (.int (x2 - x1)) ∧ Fr n0 L ∧ h = h0
set_option maxRecDepth 65536 in
set_option maxHeartbeats 40000000 in
theorem le1 (l : Launch) (Z : State) (a0 : Array Value) (hw : ∀ d ∈ tables_1, d.before a0 Z = true) (ws : List Jvm.Cond) (a1 : Addr) (p1 : Int32) (sA : Addr) (ks : ClassId) (x0 : Int32) (x1 : Int32) (x2 : Int32) (x3 : Int32) (h0 : Heap) (n0 : Nat) (Z0 : n0 ≤ h0.size) (hp1 : p1 = 1) (F_st : Fld Z h0 a1 "com/example/amherst/amherst/ByteStringTable" "starts" "[I" (.ref sA)) (V_sA : Arv Z h0 sA ks .int 256 [(.int x0), (.int x1), (.int x2), (.int x3)] (.int (0 : Int32))) :
    MetFree l (⟨"com/example/amherst/amherst/ByteStringTable", "length", "(I)I"⟩ : MethodName) (head1 (Jvm.Cond.code (⟨"com/example/amherst/amherst/ByteStringTable", "length", "(I)I"⟩ : MethodName) prog_4_method_6_code 2 (some .int) :: ws) ({ frames := 0, cells := 0, slots := 0, locals := 0 } : Room)) (fun a U => a = #[(.ref a1), (.int p1)] ∧ Z.Warmed39 U.vm ∧ U.heap = h0) (fun _ _ _ _ _ => True) (fun _ U o U' => ∃ v L, o = .returned v ∧ Qle1 Z a1 p1 sA ks x0 x1 x2 x3 h0 n0 v U'.heap L ∧ FrameEnd U o U' L ({ frames := 0, cells := 0, slots := 0, locals := 0 } : Room).cells ({ frames := 0, cells := 0, slots := 0, locals := 0 } : Room).slots) := by
  refine MetFree.of_bodySF (plainFor_of_name pn_8) hisR ?_
  intro p e s m args below meth c s₁ Bd hml0 hP hK
  obtain ⟨rfl, hZ, hh⟩ := hP
  have hx := Bd.exec
  have hby := Bd.bytes
  have hml : c.maxLocals = 2 := hml0
  have hown : s.vm.findClass "com/example/amherst/amherst/ByteStringTable" = some m.cls := findClass_of_methodNamed Bd.named
  have hnm := (name_of_methodNamed Bd.named Bd.method).1
  have X0 : Stand p l e ({ frames := 0, cells := 0, slots := 0, locals := 0 } : Room) s m #[(.ref a1), (.int p1)] below meth c s₁ [] 0 0 := Stand.of_body Bd
  have e0 : s₁.heap = h0 := by rw [← hh, Bd.state]; rfl
  have N0 := Fr.nil n0
  have K0 := Keep.refl h0 ([] : List Addr)
  have pre0 : ∀ t, Steps p.tables e below (s₁.setTop (mkF m 0 #[.val (.ref a1), .val (.int p1)] [])) t → Steps p.tables e below (s₁.setTop (entryFrame m #[(.ref a1), (.int p1)] 2)) t := fun t k => castTop (ef_le1 m a1 p1) k
  subst hp1
  obtain ⟨T1, X1, e1, st1⟩ := getF X0 hx hZ hown (host := "") (Or.inl (hw _ (List.mem_of_getElem? (i := 13) rfl))) Via.refl e0 F_st (g := (mkF m 1 #[.val (.ref a1), .val (.int (1 : Int32))] [(.ref a1)])) rfl rfl (hb hby d8_1)
  obtain ⟨clo2, Aro2, -, So2, No2, Ho2, -⟩ := id V_sA
  have hino2 : ¬ ((2 : Int32) < 0 ∨ clo2.slots.size ≤ ((2 : Int32)).toNatClampNeg) := inb_of So2 ⟨by decide, by decide⟩
  have hato2 : clo2.slots[((2 : Int32)).toNatClampNeg]? = some (.int x2) := Ho2.at hino2 rfl
  obtain ⟨T3, X3, e3, st3⟩ := getF X1 hx hZ hown (host := "") (Or.inl (hw _ (List.mem_of_getElem? (i := 13) rfl))) Via.refl e1 F_st (g := (mkF m 9 #[.val (.ref a1), .val (.int (1 : Int32))] [(.ref a1), (.int x2)])) rfl rfl (hb hby d8_9)
  obtain ⟨clo4, Aro4, -, So4, No4, Ho4, -⟩ := id V_sA
  have hino4 : ¬ ((1 : Int32) < 0 ∨ clo4.slots.size ≤ ((1 : Int32)).toNatClampNeg) := inb_of So4 ⟨by decide, by decide⟩
  have hato4 : clo4.slots[((1 : Int32)).toNatClampNeg]? = some (.int x1) := Ho4.at hino4 rfl
  obtain ⟨fs, hr, hrun, hended, hW, hsame⟩ := X3.leave (v := some (.int (x2 - x1))) (fun h => by rw [Bd.returns] at h; cases h)
  refine ⟨_, _, pre0 _ ?_, hrun, hended, _, _, rfl, ?_, ⟨_, rfl⟩, hW, hsame.mono (by decide) (by decide)⟩
  ·
    show Steps p.tables e below (s₁.setTop (mkF m 0 #[.val (.ref a1), .val (.int (1 : Int32))] [])) _
    refine XS.aloadN X0.here hx rfl (hb hby d8_0) rfl rfl ?_
    show Steps p.tables e below (s₁.setTop (mkF m 1 #[.val (.ref a1), .val (.int (1 : Int32))] [(.ref a1)])) _
    refine st1 _ ?_
    show Steps p.tables e below (T1.setTop (mkF m 4 #[.val (.ref a1), .val (.int (1 : Int32))] [(.ref sA)])) _
    refine XS.iloadN X1.here hx rfl (hb hby d8_4) rfl ?_
    show Steps p.tables e below (T1.setTop (mkF m 5 #[.val (.ref a1), .val (.int (1 : Int32))] [(.int (1 : Int32)), (.ref sA)])) _
    refine XS.iconst X1.here hx rfl (hb hby d8_5) ?_
    show Steps p.tables e below (T1.setTop (mkF m 6 #[.val (.ref a1), .val (.int (1 : Int32))] [(.int (1 : Int32)), (.int (1 : Int32)), (.ref sA)])) _
    refine XS.iadd X1.here hx rfl (hb hby d8_6) rfl ?_
    show Steps p.tables e below (T1.setTop (mkF m 7 #[.val (.ref a1), .val (.int (1 : Int32))] [(.int (2 : Int32)), (.ref sA)])) _
    refine X1.iaload hx (j := (2 : Int32)) (v := (.int x2)) (by rw [e1]; exact Aro2.1) (State.isArrayOf_alike hZ.alike Aro2.2.1) Aro2.2.2 hino2 hato2 (g := (mkF m 7 #[.val (.ref a1), .val (.int (1 : Int32))] [(.int (2 : Int32)), (.ref sA)])) rfl rfl (hb hby d8_7) _ ?_
    show Steps p.tables e below (T1.setTop (mkF m 8 #[.val (.ref a1), .val (.int (1 : Int32))] [(.int x2)])) _
    refine XS.aloadN X1.here hx rfl (hb hby d8_8) rfl rfl ?_
    show Steps p.tables e below (T1.setTop (mkF m 9 #[.val (.ref a1), .val (.int (1 : Int32))] [(.ref a1), (.int x2)])) _
    refine st3 _ ?_
    show Steps p.tables e below (T3.setTop (mkF m 12 #[.val (.ref a1), .val (.int (1 : Int32))] [(.ref sA), (.int x2)])) _
    refine XS.iloadN X3.here hx rfl (hb hby d8_12) rfl ?_
    show Steps p.tables e below (T3.setTop (mkF m 13 #[.val (.ref a1), .val (.int (1 : Int32))] [(.int (1 : Int32)), (.ref sA), (.int x2)])) _
    refine X3.iaload hx (j := (1 : Int32)) (v := (.int x1)) (by rw [e3]; exact Aro4.1) (State.isArrayOf_alike hZ.alike Aro4.2.1) Aro4.2.2 hino4 hato4 (g := (mkF m 13 #[.val (.ref a1), .val (.int (1 : Int32))] [(.int (1 : Int32)), (.ref sA), (.int x2)])) rfl rfl (hb hby d8_13) _ ?_
    show Steps p.tables e below (T3.setTop (mkF m 14 #[.val (.ref a1), .val (.int (1 : Int32))] [(.int x1), (.int x2)])) _
    refine XS.isub X3.here hx rfl (hb hby d8_14) rfl ?_
    show Steps p.tables e below (T3.setTop (mkF m 15 #[.val (.ref a1), .val (.int (1 : Int32))] [(.int (x2 - x1))])) _
    exact retI X3 hx Bd.returns (hb hby d8_15) hr
  ·
    show Qle1 Z a1 _ sA ks x0 x1 x2 x3 h0 n0 _ T3.heap _
    rw [e3]
    exact ⟨rfl, N0, rfl⟩
theorem ef_le2 (m : MethodId) (a1 : Addr) (p1 : Int32) : entryFrame m #[(.ref a1), (.int p1)] 2 = (mkF m 0 #[.val (.ref a1), .val (.int p1)] []) := by first | (simp [entryFrame, mkF, argsToLocals, Value.category]; done) | rfl
def Qle2 (Z : State) (a1 : Addr) (p1 : Int32) (sA : Addr) (ks : ClassId) (x0 : Int32) (x1 : Int32) (x2 : Int32) (x3 : Int32) (h0 : Heap) (n0 : Nat) (v : Option Value) (h : Heap) (L : List Loc) : Prop := v = some (.int (x3 - x2)) ∧ Fr n0 L ∧ h = h0
set_option maxRecDepth 65536 in
set_option maxHeartbeats 40000000 in
theorem le2 (l : Launch) (Z : State) (a0 : Array Value) (hw : ∀ d ∈ tables_1, d.before a0 Z = true) (ws : List Jvm.Cond) (a1 : Addr) (p1 : Int32) (sA : Addr) (ks : ClassId) (x0 : Int32) (x1 : Int32) (x2 : Int32) (x3 : Int32) (h0 : Heap) (n0 : Nat) (Z0 : n0 ≤ h0.size) (hp1 : p1 = 2) (F_st : Fld Z h0 a1 "com/example/amherst/amherst/ByteStringTable" "starts" "[I" (.ref sA)) (V_sA : Arv Z h0 sA ks .int 256 [(.int x0), (.int x1), (.int x2), (.int x3)] (.int (0 : Int32))) :
    MetFree l (⟨"com/example/amherst/amherst/ByteStringTable", "length", "(I)I"⟩ : MethodName) (head1 (Jvm.Cond.code (⟨"com/example/amherst/amherst/ByteStringTable", "length", "(I)I"⟩ : MethodName) prog_4_method_6_code 2 (some .int) :: ws) ({ frames := 0, cells := 0, slots := 0, locals := 0 } : Room)) (fun a U => a = #[(.ref a1), (.int p1)] ∧ Z.Warmed39 U.vm ∧ U.heap = h0) (fun _ _ _ _ _ => True) (fun _ U o U' => ∃ v L, o = .returned v ∧ Qle2 Z a1 p1 sA ks x0 x1 x2 x3 h0 n0 v U'.heap L ∧ FrameEnd U o U' L ({ frames := 0, cells := 0, slots := 0, locals := 0 } : Room).cells ({ frames := 0, cells := 0, slots := 0, locals := 0 } : Room).slots) := by
  refine MetFree.of_bodySF (plainFor_of_name pn_8) hisR ?_
  intro p e s m args below meth c s₁ Bd hml0 hP hK
  obtain ⟨rfl, hZ, hh⟩ := hP
  have hx := Bd.exec
  have hby := Bd.bytes
  have hml : c.maxLocals = 2 := hml0
  have hown : s.vm.findClass "com/example/amherst/amherst/ByteStringTable" = some m.cls := findClass_of_methodNamed Bd.named
  have hnm := (name_of_methodNamed Bd.named Bd.method).1
  have X0 : Stand p l e ({ frames := 0, cells := 0, slots := 0, locals := 0 } : Room) s m #[(.ref a1), (.int p1)] below meth c s₁ [] 0 0 := Stand.of_body Bd
  have e0 : s₁.heap = h0 := by rw [← hh, Bd.state]; rfl
  have N0 := Fr.nil n0
  have K0 := Keep.refl h0 ([] : List Addr)
  have pre0 : ∀ t, Steps p.tables e below (s₁.setTop (mkF m 0 #[.val (.ref a1), .val (.int p1)] [])) t → Steps p.tables e below (s₁.setTop (entryFrame m #[(.ref a1), (.int p1)] 2)) t := fun t k => castTop (ef_le2 m a1 p1) k
  subst hp1
  obtain ⟨T1, X1, e1, st1⟩ := getF X0 hx hZ hown (host := "") (Or.inl (hw _ (List.mem_of_getElem? (i := 13) rfl))) Via.refl e0 F_st (g := (mkF m 1 #[.val (.ref a1), .val (.int (2 : Int32))] [(.ref a1)])) rfl rfl (hb hby d8_1)
  obtain ⟨clo2, Aro2, -, So2, No2, Ho2, -⟩ := id V_sA
  have hino2 : ¬ ((3 : Int32) < 0 ∨ clo2.slots.size ≤ ((3 : Int32)).toNatClampNeg) := inb_of So2 ⟨by decide, by decide⟩
  have hato2 : clo2.slots[((3 : Int32)).toNatClampNeg]? = some (.int x3) := Ho2.at hino2 rfl
  obtain ⟨T3, X3, e3, st3⟩ := getF X1 hx hZ hown (host := "") (Or.inl (hw _ (List.mem_of_getElem? (i := 13) rfl))) Via.refl e1 F_st (g := (mkF m 9 #[.val (.ref a1), .val (.int (2 : Int32))] [(.ref a1), (.int x3)])) rfl rfl (hb hby d8_9)
  obtain ⟨clo4, Aro4, -, So4, No4, Ho4, -⟩ := id V_sA
  have hino4 : ¬ ((2 : Int32) < 0 ∨ clo4.slots.size ≤ ((2 : Int32)).toNatClampNeg) := inb_of So4 ⟨by decide, by decide⟩
  have hato4 : clo4.slots[((2 : Int32)).toNatClampNeg]? = some (.int x2) := Ho4.at hino4 rfl
  obtain ⟨fs, hr, hrun, hended, hW, hsame⟩ := X3.leave (v := some (.int (x3 - x2))) (fun h => by rw [Bd.returns] at h; cases h)
  refine ⟨_, _, pre0 _ ?_, hrun, hended, _, _, rfl, ?_, ⟨_, rfl⟩, hW, hsame.mono (by decide) (by decide)⟩
  ·
    show Steps p.tables e below (s₁.setTop (mkF m 0 #[.val (.ref a1), .val (.int (2 : Int32))] [])) _
    refine XS.aloadN X0.here hx rfl (hb hby d8_0) rfl rfl ?_
    show Steps p.tables e below (s₁.setTop (mkF m 1 #[.val (.ref a1), .val (.int (2 : Int32))] [(.ref a1)])) _
    refine st1 _ ?_
    show Steps p.tables e below (T1.setTop (mkF m 4 #[.val (.ref a1), .val (.int (2 : Int32))] [(.ref sA)])) _
    refine XS.iloadN X1.here hx rfl (hb hby d8_4) rfl ?_
    show Steps p.tables e below (T1.setTop (mkF m 5 #[.val (.ref a1), .val (.int (2 : Int32))] [(.int (2 : Int32)), (.ref sA)])) _
    refine XS.iconst X1.here hx rfl (hb hby d8_5) ?_
    show Steps p.tables e below (T1.setTop (mkF m 6 #[.val (.ref a1), .val (.int (2 : Int32))] [(.int (1 : Int32)), (.int (2 : Int32)), (.ref sA)])) _
    refine XS.iadd X1.here hx rfl (hb hby d8_6) rfl ?_
    show Steps p.tables e below (T1.setTop (mkF m 7 #[.val (.ref a1), .val (.int (2 : Int32))] [(.int (3 : Int32)), (.ref sA)])) _
    refine X1.iaload hx (j := (3 : Int32)) (v := (.int x3)) (by rw [e1]; exact Aro2.1) (State.isArrayOf_alike hZ.alike Aro2.2.1) Aro2.2.2 hino2 hato2 (g := (mkF m 7 #[.val (.ref a1), .val (.int (2 : Int32))] [(.int (3 : Int32)), (.ref sA)])) rfl rfl (hb hby d8_7) _ ?_
    show Steps p.tables e below (T1.setTop (mkF m 8 #[.val (.ref a1), .val (.int (2 : Int32))] [(.int x3)])) _
    refine XS.aloadN X1.here hx rfl (hb hby d8_8) rfl rfl ?_
    show Steps p.tables e below (T1.setTop (mkF m 9 #[.val (.ref a1), .val (.int (2 : Int32))] [(.ref a1), (.int x3)])) _
    refine st3 _ ?_
    show Steps p.tables e below (T3.setTop (mkF m 12 #[.val (.ref a1), .val (.int (2 : Int32))] [(.ref sA), (.int x3)])) _
    refine XS.iloadN X3.here hx rfl (hb hby d8_12) rfl ?_
    show Steps p.tables e below (T3.setTop (mkF m 13 #[.val (.ref a1), .val (.int (2 : Int32))] [(.int (2 : Int32)), (.ref sA), (.int x3)])) _
    refine X3.iaload hx (j := (2 : Int32)) (v := (.int x2)) (by rw [e3]; exact Aro4.1) (State.isArrayOf_alike hZ.alike Aro4.2.1) Aro4.2.2 hino4 hato4 (g := (mkF m 13 #[.val (.ref a1), .val (.int (2 : Int32))] [(.int (2 : Int32)), (.ref sA), (.int x3)])) rfl rfl (hb hby d8_13) _ ?_
    show Steps p.tables e below (T3.setTop (mkF m 14 #[.val (.ref a1), .val (.int (2 : Int32))] [(.int x2), (.int x3)])) _
    refine XS.isub X3.here hx rfl (hb hby d8_14) rfl ?_
    show Steps p.tables e below (T3.setTop (mkF m 15 #[.val (.ref a1), .val (.int (2 : Int32))] [(.int (x3 - x2))])) _
    exact retI X3 hx Bd.returns (hb hby d8_15) hr
  ·
    show Qle2 Z a1 _ sA ks x0 x1 x2 x3 h0 n0 _ T3.heap _
    rw [e3]
    exact ⟨rfl, N0, rfl⟩
theorem d9_0 : decode prog_4_method_2_code 0 = .ok (.aload_n 0, 1) := by decide +kernel
theorem d9_1 : decode prog_4_method_2_code 1 = .ok (.getfield 23, 3) := by decide +kernel
theorem d9_4 : decode prog_4_method_2_code 4 = .ok (.ireturn, 1) := by decide +kernel
theorem pn_9 : plainName "com/example/amherst/amherst/ByteStringTable" = true := by first | (simp [plainName, overriddenIn]; done) | decide +kernel
theorem ef_9 (m : MethodId) (a1 : Addr) : entryFrame m #[(.ref a1)] 1 = (mkF m 0 #[.val (.ref a1)] []) := by first | (simp [entryFrame, mkF, argsToLocals, Value.category]; done) | rfl
def Q9 (Z : State) (a1 : Addr) (p2 : Int32) (h0 : Heap) (n0 : Nat) (v : Option Value) (h : Heap) (L : List Loc) : Prop := v = some (.int p2) ∧ Fr n0 L ∧ h = h0
set_option maxRecDepth 65536 in
set_option maxHeartbeats 40000000 in
theorem rm9 (l : Launch) (Z : State) (a0 : Array Value) (hw : ∀ d ∈ tables_1, d.before a0 Z = true) (ws : List Jvm.Cond) (a1 : Addr) (p2 : Int32) (h0 : Heap) (n0 : Nat) (Z0 : n0 ≤ h0.size) (F_sz : Fld Z h0 a1 "com/example/amherst/amherst/ByteStringTable" "size" "I" (.int p2)) :
    MetFree l (⟨"com/example/amherst/amherst/ByteStringTable", "size", "()I"⟩ : MethodName) (head1 (Jvm.Cond.code (⟨"com/example/amherst/amherst/ByteStringTable", "size", "()I"⟩ : MethodName) prog_4_method_2_code 1 (some .int) :: ws) ({ frames := 0, cells := 0, slots := 0, locals := 0 } : Room)) (fun a U => a = #[(.ref a1)] ∧ Z.Warmed39 U.vm ∧ U.heap = h0) (fun _ _ _ _ _ => True) (fun _ U o U' => ∃ v L, o = .returned v ∧ Q9 Z a1 p2 h0 n0 v U'.heap L ∧ FrameEnd U o U' L ({ frames := 0, cells := 0, slots := 0, locals := 0 } : Room).cells ({ frames := 0, cells := 0, slots := 0, locals := 0 } : Room).slots) := by
  refine MetFree.of_bodySF (plainFor_of_name pn_9) hisR ?_
  intro p e s m args below meth c s₁ Bd hml0 hP hK
  obtain ⟨rfl, hZ, hh⟩ := hP
  have hx := Bd.exec
  have hby := Bd.bytes
  have hml : c.maxLocals = 1 := hml0
  have hown : s.vm.findClass "com/example/amherst/amherst/ByteStringTable" = some m.cls := findClass_of_methodNamed Bd.named
  have hnm := (name_of_methodNamed Bd.named Bd.method).1
  have X0 : Stand p l e ({ frames := 0, cells := 0, slots := 0, locals := 0 } : Room) s m #[(.ref a1)] below meth c s₁ [] 0 0 := Stand.of_body Bd
  have e0 : s₁.heap = h0 := by rw [← hh, Bd.state]; rfl
  have N0 := Fr.nil n0
  have K0 := Keep.refl h0 ([] : List Addr)
  have pre0 : ∀ t, Steps p.tables e below (s₁.setTop (mkF m 0 #[.val (.ref a1)] [])) t → Steps p.tables e below (s₁.setTop (entryFrame m #[(.ref a1)] 1)) t := fun t k => castTop (ef_9 m a1) k
  obtain ⟨T1, X1, e1, st1⟩ := getF X0 hx hZ hown (host := "") (Or.inl (hw _ (List.mem_of_getElem? (i := 23) rfl))) Via.refl e0 F_sz (g := (mkF m 1 #[.val (.ref a1)] [(.ref a1)])) rfl rfl (hb hby d9_1)
  obtain ⟨fs, hr, hrun, hended, hW, hsame⟩ := X1.leave (v := some (.int p2)) (fun h => by rw [Bd.returns] at h; cases h)
  refine ⟨_, _, pre0 _ ?_, hrun, hended, _, _, rfl, ?_, ⟨_, rfl⟩, hW, hsame.mono (by decide) (by decide)⟩
  ·
    show Steps p.tables e below (s₁.setTop (mkF m 0 #[.val (.ref a1)] [])) _
    refine XS.aloadN X0.here hx rfl (hb hby d9_0) rfl rfl ?_
    show Steps p.tables e below (s₁.setTop (mkF m 1 #[.val (.ref a1)] [(.ref a1)])) _
    refine st1 _ ?_
    show Steps p.tables e below (T1.setTop (mkF m 4 #[.val (.ref a1)] [(.int p2)])) _
    exact retI X1 hx Bd.returns (hb hby d9_4) hr
  ·
    show Q9 Z a1 p2 h0 n0 _ T1.heap _
    rw [e1]
    exact ⟨rfl, N0, rfl⟩
theorem d3_0 : decode prog_4_method_4_code 0 = .ok (.aload_n 0, 1) := by decide +kernel
theorem d3_1 : decode prog_4_method_4_code 1 = .ok (.dup, 1) := by decide +kernel
theorem d3_2 : decode prog_4_method_4_code 2 = .ok (.getfield 23, 3) := by decide +kernel
theorem d3_5 : decode prog_4_method_4_code 5 = .ok (.dup_x1, 1) := by decide +kernel
theorem d3_6 : decode prog_4_method_4_code 6 = .ok (.iconst 1, 1) := by decide +kernel
theorem d3_7 : decode prog_4_method_4_code 7 = .ok (.iadd, 1) := by decide +kernel
theorem d3_8 : decode prog_4_method_4_code 8 = .ok (.putfield 23, 3) := by decide +kernel
theorem d3_11 : decode prog_4_method_4_code 11 = .ok (.istore 5, 2) := by decide +kernel
theorem d3_13 : decode prog_4_method_4_code 13 = .ok (.iload 5, 2) := by decide +kernel
theorem d3_15 : decode prog_4_method_4_code 15 = .ok (.iconst 1, 1) := by decide +kernel
theorem d3_16 : decode prog_4_method_4_code 16 = .ok (.iadd, 1) := by decide +kernel
theorem d3_17 : decode prog_4_method_4_code 17 = .ok (.aload_n 0, 1) := by decide +kernel
theorem d3_18 : decode prog_4_method_4_code 18 = .ok (.getfield 15, 3) := by decide +kernel
theorem d3_21 : decode prog_4_method_4_code 21 = .ok (.arraylength, 1) := by decide +kernel
theorem d3_22 : decode prog_4_method_4_code 22 = .ok (.if_icmp .ne 21, 3) := by decide +kernel
theorem d3_43 : decode prog_4_method_4_code 43 = .ok (.aload_n 0, 1) := by decide +kernel
theorem d3_44 : decode prog_4_method_4_code 44 = .ok (.getfield 15, 3) := by decide +kernel
theorem d3_47 : decode prog_4_method_4_code 47 = .ok (.iload 5, 2) := by decide +kernel
theorem d3_49 : decode prog_4_method_4_code 49 = .ok (.iaload, 1) := by decide +kernel
theorem d3_50 : decode prog_4_method_4_code 50 = .ok (.iload_n 3, 1) := by decide +kernel
theorem d3_51 : decode prog_4_method_4_code 51 = .ok (.iadd, 1) := by decide +kernel
theorem d3_52 : decode prog_4_method_4_code 52 = .ok (.istore 6, 2) := by decide +kernel
theorem d3_54 : decode prog_4_method_4_code 54 = .ok (.iload 6, 2) := by decide +kernel
theorem d3_56 : decode prog_4_method_4_code 56 = .ok (.aload_n 0, 1) := by decide +kernel
theorem d3_57 : decode prog_4_method_4_code 57 = .ok (.getfield 9, 3) := by decide +kernel
theorem d3_60 : decode prog_4_method_4_code 60 = .ok (.arraylength, 1) := by decide +kernel
theorem d3_61 : decode prog_4_method_4_code 61 = .ok (.if_icmp .le 32, 3) := by decide +kernel
theorem d3_93 : decode prog_4_method_4_code 93 = .ok (.aload_n 1, 1) := by decide +kernel
theorem d3_94 : decode prog_4_method_4_code 94 = .ok (.iload_n 2, 1) := by decide +kernel
theorem d3_95 : decode prog_4_method_4_code 95 = .ok (.aload_n 0, 1) := by decide +kernel
theorem d3_96 : decode prog_4_method_4_code 96 = .ok (.getfield 9, 3) := by decide +kernel
theorem d3_99 : decode prog_4_method_4_code 99 = .ok (.aload_n 0, 1) := by decide +kernel
theorem d3_100 : decode prog_4_method_4_code 100 = .ok (.getfield 15, 3) := by decide +kernel
theorem d3_103 : decode prog_4_method_4_code 103 = .ok (.iload 5, 2) := by decide +kernel
theorem d3_105 : decode prog_4_method_4_code 105 = .ok (.iaload, 1) := by decide +kernel
theorem d3_106 : decode prog_4_method_4_code 106 = .ok (.iload_n 3, 1) := by decide +kernel
theorem d3_107 : decode prog_4_method_4_code 107 = .ok (.invokestatic 61, 3) := by decide +kernel
theorem d3_110 : decode prog_4_method_4_code 110 = .ok (.aload_n 0, 1) := by decide +kernel
theorem d3_111 : decode prog_4_method_4_code 111 = .ok (.getfield 15, 3) := by decide +kernel
theorem d3_114 : decode prog_4_method_4_code 114 = .ok (.iload 5, 2) := by decide +kernel
theorem d3_116 : decode prog_4_method_4_code 116 = .ok (.iconst 1, 1) := by decide +kernel
theorem d3_117 : decode prog_4_method_4_code 117 = .ok (.iadd, 1) := by decide +kernel
theorem d3_118 : decode prog_4_method_4_code 118 = .ok (.iload 6, 2) := by decide +kernel
theorem d3_120 : decode prog_4_method_4_code 120 = .ok (.iastore, 1) := by decide +kernel
theorem d3_121 : decode prog_4_method_4_code 121 = .ok (.bipush 10, 2) := by decide +kernel
theorem d3_123 : decode prog_4_method_4_code 123 = .ok (.aload_n 0, 1) := by decide +kernel
theorem d3_124 : decode prog_4_method_4_code 124 = .ok (.getfield 23, 3) := by decide +kernel
theorem d3_127 : decode prog_4_method_4_code 127 = .ok (.imul, 1) := by decide +kernel
theorem d3_128 : decode prog_4_method_4_code 128 = .ok (.bipush 7, 2) := by decide +kernel
theorem d3_130 : decode prog_4_method_4_code 130 = .ok (.aload_n 0, 1) := by decide +kernel
theorem d3_131 : decode prog_4_method_4_code 131 = .ok (.getfield 19, 3) := by decide +kernel
theorem d3_134 : decode prog_4_method_4_code 134 = .ok (.arraylength, 1) := by decide +kernel
theorem d3_135 : decode prog_4_method_4_code 135 = .ok (.iconst 2, 1) := by decide +kernel
theorem d3_136 : decode prog_4_method_4_code 136 = .ok (.idiv, 1) := by decide +kernel
theorem d3_137 : decode prog_4_method_4_code 137 = .ok (.imul, 1) := by decide +kernel
theorem d3_138 : decode prog_4_method_4_code 138 = .ok (.if_icmp .le 63, 3) := by decide +kernel
theorem d3_201 : decode prog_4_method_4_code 201 = .ok (.aload_n 0, 1) := by decide +kernel
theorem d3_202 : decode prog_4_method_4_code 202 = .ok (.aload_n 1, 1) := by decide +kernel
theorem d3_203 : decode prog_4_method_4_code 203 = .ok (.iload_n 2, 1) := by decide +kernel
theorem d3_204 : decode prog_4_method_4_code 204 = .ok (.iload_n 3, 1) := by decide +kernel
theorem d3_205 : decode prog_4_method_4_code 205 = .ok (.invokestatic 27, 3) := by decide +kernel
theorem d3_208 : decode prog_4_method_4_code 208 = .ok (.iload 5, 2) := by decide +kernel
theorem d3_210 : decode prog_4_method_4_code 210 = .ok (.i2l, 1) := by decide +kernel
theorem d3_211 : decode prog_4_method_4_code 211 = .ok (.bipush 32, 2) := by decide +kernel
theorem d3_213 : decode prog_4_method_4_code 213 = .ok (.lshl, 1) := by decide +kernel
theorem d3_214 : decode prog_4_method_4_code 214 = .ok (.iload 4, 2) := by decide +kernel
theorem d3_216 : decode prog_4_method_4_code 216 = .ok (.i2l, 1) := by decide +kernel
theorem d3_217 : decode prog_4_method_4_code 217 = .ok (.ldc2_w 71, 3) := by decide +kernel
theorem d3_220 : decode prog_4_method_4_code 220 = .ok (.land, 1) := by decide +kernel
theorem d3_221 : decode prog_4_method_4_code 221 = .ok (.lor, 1) := by decide +kernel
theorem d3_222 : decode prog_4_method_4_code 222 = .ok (.invokevirtual 67, 3) := by decide +kernel
theorem d3_225 : decode prog_4_method_4_code 225 = .ok (.iload 5, 2) := by decide +kernel
theorem d3_227 : decode prog_4_method_4_code 227 = .ok (.ireturn, 1) := by decide +kernel
theorem pn_3 : plainName "com/example/amherst/amherst/ByteStringTable" = true := by first | (simp [plainName, overriddenIn]; done) | decide +kernel
theorem pd__JJ_V : parseMethodDescriptor "(JJ)V" = some ⟨[.long, .long], none⟩ := by decide +kernel
theorem pd___BII_J : parseMethodDescriptor "([BII)J" = some ⟨[(.array .byte), .int, .int], some .long⟩ := by decide +kernel
theorem ef_ad0 (m : MethodId) (a1 : Addr) (a2 : Addr) (p3 : Int32) (p4 : Int32) (p5 : Int32) : entryFrame m #[(.ref a1), (.ref a2), (.int p3), (.int p4), (.int p5)] 9 = (mkF m 0 #[.val (.ref a1), .val (.ref a2), .val (.int p3), .val (.int p4), .val (.int p5), .unset, .unset, .unset, .unset] []) := by first | (simp [entryFrame, mkF, argsToLocals, Value.category]; done) | rfl
def Qad0 (Z : State) (a1 : Addr) (a2 : Addr) (p3 : Int32) (p4 : Int32) (p5 : Int32) (bA : Addr) (sA : Addr) (lA : Addr) (kb : ClassId) (ks : ClassId) (kl : ClassId) (k2 : ClassId) (vb : List Value) (vl : List Value) (vs : List Value) (h0 : Heap) (n0 : Nat) (v : Option Value) (h : Heap) (L : List Loc) : Prop := v = some (.int (0 : Int32)) ∧ Fr n0 L ∧ Keep h0 h [a1, bA, sA, lA] ∧ Fld Z h a1 "com/example/amherst/amherst/ByteStringTable" "size" "I" (.int (1 : Int32)) ∧ Fld Z h a1 "com/example/amherst/amherst/ByteStringTable" "bytes" "[B" (.ref bA) ∧ Fld Z h a1 "com/example/amherst/amherst/ByteStringTable" "starts" "[I" (.ref sA) ∧ Fld Z h a1 "com/example/amherst/amherst/ByteStringTable" "slots" "[J" (.ref lA) ∧ (∃ vb' : List Value, vb'.length = 4096 ∧ Arv Z h bA kb .byte 4096 vb' (.int (0 : Int32))) ∧ Arv Z h sA ks .int 256 [(.int (0 : Int32)), (.int ((0 : Int32) + p4)), (.int (0 : Int32)), (.int (0 : Int32))] (.int (0 : Int32)) ∧ (∃ vl' : List Value, vl'.length = 1024 ∧ own_longs vl' ∧ own_occ 1 vl' ∧ Arv Z h lA kl .long 1024 vl' (.long (0 : Int64)))
set_option maxRecDepth 65536 in
set_option maxHeartbeats 40000000 in
theorem ad0 (l : Launch) (Z : State) (a0 : Array Value) (hw : ∀ d ∈ tables_1, d.before a0 Z = true) (ws : List Jvm.Cond) (a1 : Addr) (a2 : Addr) (p3 : Int32) (p4 : Int32) (p5 : Int32) (bA : Addr) (sA : Addr) (lA : Addr) (kb : ClassId) (ks : ClassId) (kl : ClassId) (k2 : ClassId) (vb : List Value) (vl : List Value) (vs : List Value) (h0 : Heap) (n0 : Nat) (Z0 : n0 ≤ h0.size) (E_a1 : Exa Z h0 a1 "com/example/amherst/amherst/ByteStringTable") (F_bytes : Fld Z h0 a1 "com/example/amherst/amherst/ByteStringTable" "bytes" "[B" (.ref bA)) (F_starts : Fld Z h0 a1 "com/example/amherst/amherst/ByteStringTable" "starts" "[I" (.ref sA)) (F_slots : Fld Z h0 a1 "com/example/amherst/amherst/ByteStringTable" "slots" "[J" (.ref lA)) (F_size : Fld Z h0 a1 "com/example/amherst/amherst/ByteStringTable" "size" "I" (.int (0 : Int32))) (V_bA : Arv Z h0 bA kb .byte 4096 vb (.int (0 : Int32))) (V_sA : Arv Z h0 sA ks .int 256 [(.int (0 : Int32)), (.int (0 : Int32)), (.int (0 : Int32)), (.int (0 : Int32))] (.int (0 : Int32))) (V_lA : Arv Z h0 lA kl .long 1024 vl (.long (0 : Int64))) (V_a2 : Arv Z h0 a2 k2 .byte 32 vs (.int (0 : Int32))) (hvb : vb.length = 4096) (hlen : vl.length = 1024) (hlong : own_longs vl) (hocc : own_occ 0 vl) (hint : own_ints vs) (hp : own_in p3 15) (hn : own_in p4 16) (hxn : own_in (0 : Int32) 0) (ne_a1_a2 : a1 ≠ a2) (ne_a1_bA : a1 ≠ bA) (ne_a1_sA : a1 ≠ sA) (ne_a1_lA : a1 ≠ lA) (ne_a2_bA : a2 ≠ bA) (ne_a2_sA : a2 ≠ sA) (ne_a2_lA : a2 ≠ lA) (ne_bA_sA : bA ≠ sA) (ne_bA_lA : bA ≠ lA) (ne_sA_lA : sA ≠ lA) (g_a1 : n0 ≤ a1) (g_bA : n0 ≤ bA) (g_sA : n0 ≤ sA) (g_lA : n0 ≤ lA) :
    MetFree l (⟨"com/example/amherst/amherst/ByteStringTable", "add", "([BIII)I"⟩ : MethodName) (head1 (Jvm.Cond.code (⟨"com/example/amherst/amherst/ByteStringTable", "add", "([BIII)I"⟩ : MethodName) prog_4_method_4_code 9 (some .int) :: ws) ({ frames := 2, cells := 0, slots := 0, locals := 40 } : Room)) (fun a U => a = #[(.ref a1), (.ref a2), (.int p3), (.int p4), (.int p5)] ∧ Z.Warmed39 U.vm ∧ U.heap = h0) (fun _ _ _ _ _ => True) (fun _ U o U' => ∃ v L, o = .returned v ∧ Qad0 Z a1 a2 p3 p4 p5 bA sA lA kb ks kl k2 vb vl vs h0 n0 v U'.heap L ∧ FrameEnd U o U' L ({ frames := 2, cells := 0, slots := 0, locals := 40 } : Room).cells ({ frames := 2, cells := 0, slots := 0, locals := 40 } : Room).slots) := by
  refine MetFree.of_bodySF (plainFor_of_name pn_3) hisR ?_
  intro p e s m args below meth c s₁ Bd hml0 hP hK
  obtain ⟨rfl, hZ, hh⟩ := hP
  have hx := Bd.exec
  have hby := Bd.bytes
  have hml : c.maxLocals = 9 := hml0
  have hown : s.vm.findClass "com/example/amherst/amherst/ByteStringTable" = some m.cls := findClass_of_methodNamed Bd.named
  have hnm := (name_of_methodNamed Bd.named Bd.method).1
  have X0 : Stand p l e ({ frames := 2, cells := 0, slots := 0, locals := 40 } : Room) s m #[(.ref a1), (.ref a2), (.int p3), (.int p4), (.int p5)] below meth c s₁ [] 0 0 := Stand.of_body Bd
  have e0 : s₁.heap = h0 := by rw [← hh, Bd.state]; rfl
  have N0 := Fr.nil n0
  have K0 := Keep.refl h0 ([a1, bA, sA, lA] : List Addr)
  have pre0 : ∀ t, Steps p.tables e below (s₁.setTop (mkF m 0 #[.val (.ref a1), .val (.ref a2), .val (.int p3), .val (.int p4), .val (.int p5), .unset, .unset, .unset, .unset] [])) t → Steps p.tables e below (s₁.setTop (entryFrame m #[(.ref a1), (.ref a2), (.int p3), (.int p4), (.int p5)] 9)) t := fun t k => castTop (ef_ad0 m a1 a2 p3 p4 p5) k
  obtain ⟨T1, X1, e1, st1⟩ := getF X0 hx hZ hown (host := "") (Or.inl (hw _ (List.mem_of_getElem? (i := 23) rfl))) Via.refl e0 F_size (g := (mkF m 2 #[.val (.ref a1), .val (.ref a2), .val (.int p3), .val (.int p4), .val (.int p5), .unset, .unset, .unset, .unset] [(.ref a1), (.ref a1)])) rfl rfl (hb hby d3_2)
  obtain ⟨T2, h2, X2, e2, W2, st2⟩ := putF X1 hx hZ hown (host := "") (Or.inl (hw _ (List.mem_of_getElem? (i := 23) rfl))) Via.refl e1 F_size E_a1 (Or.inl (hw _ (List.mem_of_getElem? (i := 24) rfl))) (hw _ (List.mem_of_getElem? (i := 2) rfl)) (ty := .int) (by decide) rfl rfl (g := (mkF m 8 #[.val (.ref a1), .val (.ref a2), .val (.int p3), .val (.int p4), .val (.int p5), .unset, .unset, .unset, .unset] [(.int (1 : Int32)), (.ref a1), (.int (0 : Int32))])) rfl rfl (hb hby d3_8)
  have Fw2 := F_size.same W2
  have K2 := K0.wr W2 (Or.inl (List.mem_of_getElem? (i := 0) rfl))
  have N2 := Fr.snoc X2 N0 g_a1
  have c3 := (F_starts.other W2 (Or.inr (slot_ne (Or.inl (hw _ (List.mem_of_getElem? (i := 14) rfl))) (Or.inl (hw _ (List.mem_of_getElem? (i := 24) rfl))) (by decide) (t := (.array .int)) (t' := .int) (by decide) (by decide))))
  obtain ⟨T4, X4, e4, st4⟩ := getF X2 hx hZ hown (host := "") (Or.inl (hw _ (List.mem_of_getElem? (i := 13) rfl))) Via.refl e2 c3 (g := (mkF m 18 #[.val (.ref a1), .val (.ref a2), .val (.int p3), .val (.int p4), .val (.int p5), .val (.int (0 : Int32)), .unset, .unset, .unset] [(.ref a1), (.int (1 : Int32))])) rfl rfl (hb hby d3_18)
  have c5 := (V_sA.other W2 (Ne.symm ne_a1_sA))
  obtain ⟨clo6, Aro6, -, So6, No6, -, -⟩ := id c5
  obtain ⟨T7, X7, e7, st7⟩ := getF X4 hx hZ hown (host := "") (Or.inl (hw _ (List.mem_of_getElem? (i := 13) rfl))) Via.refl e4 c3 (g := (mkF m 44 #[.val (.ref a1), .val (.ref a2), .val (.int p3), .val (.int p4), .val (.int p5), .val (.int (0 : Int32)), .unset, .unset, .unset] [(.ref a1)])) rfl rfl (hb hby d3_44)
  obtain ⟨clo8, Aro8, -, So8, No8, Ho8, -⟩ := id c5
  have hino8 : ¬ ((0 : Int32) < 0 ∨ clo8.slots.size ≤ ((0 : Int32)).toNatClampNeg) := inb_of So8 ⟨by decide, by decide⟩
  have hato8 : clo8.slots[((0 : Int32)).toNatClampNeg]? = some (.int (0 : Int32)) := Ho8.at hino8 rfl
  obtain ⟨ev9, hev9⟩ : ∃ z, z = ((0 : Int32) + p4) := ⟨_, rfl⟩
  have pre10 : ∀ t, Steps p.tables e below (T7.setTop (mkF m 52 #[.val (.ref a1), .val (.ref a2), .val (.int p3), .val (.int p4), .val (.int p5), .val (.int (0 : Int32)), .unset, .unset, .unset] [(.int ev9)])) t → Steps p.tables e below (s₁.setTop (entryFrame m #[(.ref a1), (.ref a2), (.int p3), (.int p4), (.int p5)] 9)) t := by
    intro t kt
    rw [hev9] at kt
    refine pre0 _ ?_
    show Steps p.tables e below (s₁.setTop (mkF m 0 #[.val (.ref a1), .val (.ref a2), .val (.int p3), .val (.int p4), .val (.int p5), .unset, .unset, .unset, .unset] [])) _
    refine XS.aloadN X0.here hx rfl (hb hby d3_0) rfl rfl ?_
    show Steps p.tables e below (s₁.setTop (mkF m 1 #[.val (.ref a1), .val (.ref a2), .val (.int p3), .val (.int p4), .val (.int p5), .unset, .unset, .unset, .unset] [(.ref a1)])) _
    refine XS.dup X0.here hx rfl (hb hby d3_1) rfl rfl ?_
    show Steps p.tables e below (s₁.setTop (mkF m 2 #[.val (.ref a1), .val (.ref a2), .val (.int p3), .val (.int p4), .val (.int p5), .unset, .unset, .unset, .unset] [(.ref a1), (.ref a1)])) _
    refine st1 _ ?_
    show Steps p.tables e below (T1.setTop (mkF m 5 #[.val (.ref a1), .val (.ref a2), .val (.int p3), .val (.int p4), .val (.int p5), .unset, .unset, .unset, .unset] [(.int (0 : Int32)), (.ref a1)])) _
    refine XS.dupX1 X1.here hx rfl (hb hby d3_5) rfl rfl rfl ?_
    show Steps p.tables e below (T1.setTop (mkF m 6 #[.val (.ref a1), .val (.ref a2), .val (.int p3), .val (.int p4), .val (.int p5), .unset, .unset, .unset, .unset] [(.int (0 : Int32)), (.ref a1), (.int (0 : Int32))])) _
    refine XS.iconst X1.here hx rfl (hb hby d3_6) ?_
    show Steps p.tables e below (T1.setTop (mkF m 7 #[.val (.ref a1), .val (.ref a2), .val (.int p3), .val (.int p4), .val (.int p5), .unset, .unset, .unset, .unset] [(.int (1 : Int32)), (.int (0 : Int32)), (.ref a1), (.int (0 : Int32))])) _
    refine XS.iadd X1.here hx rfl (hb hby d3_7) rfl ?_
    show Steps p.tables e below (T1.setTop (mkF m 8 #[.val (.ref a1), .val (.ref a2), .val (.int p3), .val (.int p4), .val (.int p5), .unset, .unset, .unset, .unset] [(.int (1 : Int32)), (.ref a1), (.int (0 : Int32))])) _
    refine st2 _ ?_
    show Steps p.tables e below (T2.setTop (mkF m 11 #[.val (.ref a1), .val (.ref a2), .val (.int p3), .val (.int p4), .val (.int p5), .unset, .unset, .unset, .unset] [(.int (0 : Int32))])) _
    refine XS.istore X2.here hx rfl (hb hby d3_11) rfl (l' := #[.val (.ref a1), .val (.ref a2), .val (.int p3), .val (.int p4), .val (.int p5), .val (.int (0 : Int32)), .unset, .unset, .unset]) rfl ?_
    show Steps p.tables e below (T2.setTop (mkF m 13 #[.val (.ref a1), .val (.ref a2), .val (.int p3), .val (.int p4), .val (.int p5), .val (.int (0 : Int32)), .unset, .unset, .unset] [])) _
    refine XS.iload X2.here hx rfl (hb hby d3_13) rfl ?_
    show Steps p.tables e below (T2.setTop (mkF m 15 #[.val (.ref a1), .val (.ref a2), .val (.int p3), .val (.int p4), .val (.int p5), .val (.int (0 : Int32)), .unset, .unset, .unset] [(.int (0 : Int32))])) _
    refine XS.iconst X2.here hx rfl (hb hby d3_15) ?_
    show Steps p.tables e below (T2.setTop (mkF m 16 #[.val (.ref a1), .val (.ref a2), .val (.int p3), .val (.int p4), .val (.int p5), .val (.int (0 : Int32)), .unset, .unset, .unset] [(.int (1 : Int32)), (.int (0 : Int32))])) _
    refine XS.iadd X2.here hx rfl (hb hby d3_16) rfl ?_
    show Steps p.tables e below (T2.setTop (mkF m 17 #[.val (.ref a1), .val (.ref a2), .val (.int p3), .val (.int p4), .val (.int p5), .val (.int (0 : Int32)), .unset, .unset, .unset] [(.int (1 : Int32))])) _
    refine XS.aloadN X2.here hx rfl (hb hby d3_17) rfl rfl ?_
    show Steps p.tables e below (T2.setTop (mkF m 18 #[.val (.ref a1), .val (.ref a2), .val (.int p3), .val (.int p4), .val (.int p5), .val (.int (0 : Int32)), .unset, .unset, .unset] [(.ref a1), (.int (1 : Int32))])) _
    refine st4 _ ?_
    show Steps p.tables e below (T4.setTop (mkF m 21 #[.val (.ref a1), .val (.ref a2), .val (.int p3), .val (.int p4), .val (.int p5), .val (.int (0 : Int32)), .unset, .unset, .unset] [(.ref sA), (.int (1 : Int32))])) _
    refine X4.arraylength hx (by rw [e4]; exact Aro6.1) (State.isArrayOf_alike hZ.alike Aro6.2.1) (g := (mkF m 21 #[.val (.ref a1), .val (.ref a2), .val (.int p3), .val (.int p4), .val (.int p5), .val (.int (0 : Int32)), .unset, .unset, .unset] [(.ref sA), (.int (1 : Int32))])) rfl rfl (hb hby d3_21) _ ?_
    rw [len_of So6 No6]
    show Steps p.tables e below (T4.setTop (mkF m 22 #[.val (.ref a1), .val (.ref a2), .val (.int p3), .val (.int p4), .val (.int p5), .val (.int (0 : Int32)), .unset, .unset, .unset] [(.int (256 : Int32)), (.int (1 : Int32))])) _
    refine XS.icmpYes X4.here hx rfl (pc0 := 22) (pc' := 43) rfl (hb hby d3_22) rfl (feq (by decide : ¬ ((1 : Int32) = (256 : Int32)))).2 (by decide) (by decide) ?_
    show Steps p.tables e below (T4.setTop (mkF m 43 #[.val (.ref a1), .val (.ref a2), .val (.int p3), .val (.int p4), .val (.int p5), .val (.int (0 : Int32)), .unset, .unset, .unset] [])) _
    refine XS.aloadN X4.here hx rfl (hb hby d3_43) rfl rfl ?_
    show Steps p.tables e below (T4.setTop (mkF m 44 #[.val (.ref a1), .val (.ref a2), .val (.int p3), .val (.int p4), .val (.int p5), .val (.int (0 : Int32)), .unset, .unset, .unset] [(.ref a1)])) _
    refine st7 _ ?_
    show Steps p.tables e below (T7.setTop (mkF m 47 #[.val (.ref a1), .val (.ref a2), .val (.int p3), .val (.int p4), .val (.int p5), .val (.int (0 : Int32)), .unset, .unset, .unset] [(.ref sA)])) _
    refine XS.iload X7.here hx rfl (hb hby d3_47) rfl ?_
    show Steps p.tables e below (T7.setTop (mkF m 49 #[.val (.ref a1), .val (.ref a2), .val (.int p3), .val (.int p4), .val (.int p5), .val (.int (0 : Int32)), .unset, .unset, .unset] [(.int (0 : Int32)), (.ref sA)])) _
    refine X7.iaload hx (j := (0 : Int32)) (v := (.int (0 : Int32))) (by rw [e7]; exact Aro8.1) (State.isArrayOf_alike hZ.alike Aro8.2.1) Aro8.2.2 hino8 hato8 (g := (mkF m 49 #[.val (.ref a1), .val (.ref a2), .val (.int p3), .val (.int p4), .val (.int p5), .val (.int (0 : Int32)), .unset, .unset, .unset] [(.int (0 : Int32)), (.ref sA)])) rfl rfl (hb hby d3_49) _ ?_
    show Steps p.tables e below (T7.setTop (mkF m 50 #[.val (.ref a1), .val (.ref a2), .val (.int p3), .val (.int p4), .val (.int p5), .val (.int (0 : Int32)), .unset, .unset, .unset] [(.int (0 : Int32))])) _
    refine XS.iloadN X7.here hx rfl (hb hby d3_50) rfl ?_
    show Steps p.tables e below (T7.setTop (mkF m 51 #[.val (.ref a1), .val (.ref a2), .val (.int p3), .val (.int p4), .val (.int p5), .val (.int (0 : Int32)), .unset, .unset, .unset] [(.int p4), (.int (0 : Int32))])) _
    refine XS.iadd X7.here hx rfl (hb hby d3_51) rfl ?_
    show Steps p.tables e below (T7.setTop (mkF m 52 #[.val (.ref a1), .val (.ref a2), .val (.int p3), .val (.int p4), .val (.int p5), .val (.int (0 : Int32)), .unset, .unset, .unset] [(.int ((0 : Int32) + p4))])) _
    exact kt
  have c11 := (F_bytes.other W2 (Or.inr (slot_ne (Or.inl (hw _ (List.mem_of_getElem? (i := 11) rfl))) (Or.inl (hw _ (List.mem_of_getElem? (i := 24) rfl))) (by decide) (t := (.array .byte)) (t' := .int) (by decide) (by decide))))
  obtain ⟨T12, X12, e12, st12⟩ := getF X7 hx hZ hown (host := "") (Or.inl (hw _ (List.mem_of_getElem? (i := 10) rfl))) Via.refl e7 c11 (g := (mkF m 57 #[.val (.ref a1), .val (.ref a2), .val (.int p3), .val (.int p4), .val (.int p5), .val (.int (0 : Int32)), .val (.int ev9), .unset, .unset] [(.ref a1), (.int ev9)])) rfl rfl (hb hby d3_57)
  have c13 := (V_bA.other W2 (Ne.symm ne_a1_bA))
  obtain ⟨clo14, Aro14, -, So14, No14, -, -⟩ := id c13
  have hk15 : ¬ ((4096 : Int32) < ev9) := by rw [hev9]; exact own_end (own_le hxn (by decide)) hn
  obtain ⟨T16, X16, e16, st16⟩ := getF X12 hx hZ hown (host := "") (Or.inl (hw _ (List.mem_of_getElem? (i := 10) rfl))) Via.refl e12 c11 (g := (mkF m 96 #[.val (.ref a1), .val (.ref a2), .val (.int p3), .val (.int p4), .val (.int p5), .val (.int (0 : Int32)), .val (.int ev9), .unset, .unset] [(.ref a1), (.int p3), (.ref a2)])) rfl rfl (hb hby d3_96)
  obtain ⟨T17, X17, e17, st17⟩ := getF X16 hx hZ hown (host := "") (Or.inl (hw _ (List.mem_of_getElem? (i := 13) rfl))) Via.refl e16 c3 (g := (mkF m 100 #[.val (.ref a1), .val (.ref a2), .val (.int p3), .val (.int p4), .val (.int p5), .val (.int (0 : Int32)), .val (.int ev9), .unset, .unset] [(.ref a1), (.ref bA), (.int p3), (.ref a2)])) rfl rfl (hb hby d3_100)
  obtain ⟨clo18, Aro18, -, So18, No18, Ho18, -⟩ := id c5
  have hino18 : ¬ ((0 : Int32) < 0 ∨ clo18.slots.size ≤ ((0 : Int32)).toNatClampNeg) := inb_of So18 ⟨by decide, by decide⟩
  have hato18 : clo18.slots[((0 : Int32)).toNatClampNeg]? = some (.int (0 : Int32)) := Ho18.at hino18 rfl
  have c19 := (V_a2.other W2 (Ne.symm ne_a1_a2))
  obtain ⟨hx20, hy20⟩ := own_nat (k := 32) (own_le hxn (by decide) : own_in (0 : Int32) 32)
  obtain ⟨hp20, hr20⟩ := own_nat (k := 15) hp
  obtain ⟨hn20, ho20⟩ := own_nat (k := 16) hn
  obtain ⟨T20, h20, L20, X20, e20, N20, kc20, V20, st20⟩ := cpA X17 hx hZ hown (hw _ (List.mem_of_getElem? (i := 25) rfl)) (hw _ (List.mem_of_getElem? (i := 28) rfl)) (hw _ (List.mem_of_getElem? (i := 26) rfl)) (hw _ (List.mem_of_getElem? (i := 27) rfl)) e17 c19 c13 (Or.inl ⟨rfl, rfl⟩) hp20 hx20 hn20 (by show _ ≤ 32; omega) (by show _ ≤ 4096; omega) rfl (by rw [hvb]; omega) N2 g_bA (g := (mkF m 107 #[.val (.ref a1), .val (.ref a2), .val (.int p3), .val (.int p4), .val (.int p5), .val (.int (0 : Int32)), .val (.int ev9), .unset, .unset] [(.int p4), (.int (0 : Int32)), (.ref bA), (.int p3), (.ref a2)])) rfl (by rw [hml]; rfl) rfl (hb hby d3_107) (by decide) (W := 0) (by show 2 * 0 + _ ≤ _; exact Nat.le_of_eq rfl) (by decide)
  have hvc : (vb.take ((0 : Int32)).toNatClampNeg ++ ((List.range p4.toNatClampNeg).map fun i => vs.getD (p3.toNatClampNeg + i) (.int (0 : Int32))) ++ vb.drop (((0 : Int32)).toNatClampNeg + p4.toNatClampNeg)).length = 4096 := own_cat_len hvb (by simp) (by omega)
  have K20 := K2.trans kc20 (allS (Or.inl (List.mem_of_getElem? (i := 1) rfl)) all0)
  have c21 := (c3.keep kc20 (ninS ne_a1_bA nin0))
  obtain ⟨T22, X22, e22, st22⟩ := getF X20 hx hZ hown (host := "") (Or.inl (hw _ (List.mem_of_getElem? (i := 13) rfl))) Via.refl e20 c21 (g := (mkF m 111 #[.val (.ref a1), .val (.ref a2), .val (.int p3), .val (.int p4), .val (.int p5), .val (.int (0 : Int32)), .val (.int ev9), .unset, .unset] [(.ref a1)])) rfl rfl (hb hby d3_111)
  have c23 := (c5.keep kc20 (ninS (Ne.symm ne_bA_sA) nin0))
  obtain ⟨clo24, Aro24, qo24, So24, No24, Ho24, Go24⟩ := id c23
  have hino24 : ¬ ((1 : Int32) < 0 ∨ clo24.slots.size ≤ ((1 : Int32)).toNatClampNeg) := inb_of So24 ⟨by decide, by decide⟩
  obtain ⟨T25, h25, X25, e25, W25, st25⟩ := stI X22 hx hZ e22 Aro24 (j := (1 : Int32)) hino24 (g := (mkF m 120 #[.val (.ref a1), .val (.ref a2), .val (.int p3), .val (.int p4), .val (.int p5), .val (.int (0 : Int32)), .val (.int ev9), .unset, .unset] [(.int ev9), (.int (1 : Int32)), (.ref sA)])) rfl rfl (hb hby d3_120)
  have V25 : Arv Z h25 sA ks .int (256 : Int32) [(.int (0 : Int32)), (.int ev9), (.int (0 : Int32)), (.int (0 : Int32))] (.int (0 : Int32)) := Arv.set Aro24 qo24 So24 No24 Ho24 Go24 rfl W25 1 rfl (Nat.le_of_ble_eq_true rfl)
  have K25 := K20.wr W25 (Or.inl (List.mem_of_getElem? (i := 2) rfl))
  have N25 := Fr.snoc X25 N20 g_sA
  have c26 := ((Fw2.keep kc20 (ninS ne_a1_bA nin0)).other W25 (Or.inl ne_a1_sA))
  obtain ⟨T27, X27, e27, st27⟩ := getF X25 hx hZ hown (host := "") (Or.inl (hw _ (List.mem_of_getElem? (i := 23) rfl))) Via.refl e25 c26 (g := (mkF m 124 #[.val (.ref a1), .val (.ref a2), .val (.int p3), .val (.int p4), .val (.int p5), .val (.int (0 : Int32)), .val (.int ev9), .unset, .unset] [(.ref a1), (.int (10 : Int32))])) rfl rfl (hb hby d3_124)
  have c28 := (((F_slots.other W2 (Or.inr (slot_ne (Or.inl (hw _ (List.mem_of_getElem? (i := 17) rfl))) (Or.inl (hw _ (List.mem_of_getElem? (i := 24) rfl))) (by decide) (t := (.array .long)) (t' := .int) (by decide) (by decide)))).keep kc20 (ninS ne_a1_bA nin0)).other W25 (Or.inl ne_a1_sA))
  obtain ⟨T29, X29, e29, st29⟩ := getF X27 hx hZ hown (host := "") (Or.inl (hw _ (List.mem_of_getElem? (i := 16) rfl))) Via.refl e27 c28 (g := (mkF m 131 #[.val (.ref a1), .val (.ref a2), .val (.int p3), .val (.int p4), .val (.int p5), .val (.int (0 : Int32)), .val (.int ev9), .unset, .unset] [(.ref a1), (.int (7 : Int32)), (.int (10 : Int32))])) rfl rfl (hb hby d3_131)
  have c30 := (((V_lA.other W2 (Ne.symm ne_a1_lA)).keep kc20 (ninS (Ne.symm ne_bA_lA) nin0)).other W25 (Ne.symm ne_sA_lA))
  obtain ⟨clo31, Aro31, -, So31, No31, -, -⟩ := id c30
  have c33 := ((c19.keep kc20 (ninS ne_a2_bA nin0)).other W25 ne_a2_sA)
  obtain ⟨_, _, ⟨T32, L32, k32, n32⟩, -, X32, ⟨Lc32, hQ32, l32, y32, z32⟩, st32⟩ := Jvm.LawKit.callS X29 hx (y := (⟨"com/example/amherst/amherst/ByteStringTable", "key", "([BII)J"⟩ : MethodName)) hown (mvT hZ (hw _ (List.mem_of_getElem? (i := 29) rfl))) (mvT hZ (hw _ (List.mem_of_getElem? (i := 30) rfl))) (mvT hZ (hw _ (List.mem_of_getElem? (i := 3) rfl))) (mvT hZ (hw _ (List.mem_of_getElem? (i := 31) rfl))) (by decide) (backOf (W := 1) (rm4 l Z a0 hw [] a2 p3 p4 k2 vs h25 n0 (Nat.le_trans Z0 K25.1) c33 hint hp hn) hZ (hw _ (List.mem_of_getElem? (i := 31) rfl)) (hw _ (List.mem_of_getElem? (i := 3) rfl)) (by decide) (by decide)) (g := (mkF m 205 #[.val (.ref a1), .val (.ref a2), .val (.int p3), .val (.int p4), .val (.int p5), .val (.int (0 : Int32)), .val (.int ev9), .unset, .unset] [(.int p4), (.int p3), (.ref a2), (.ref a1)])) rfl (by rw [hml]; rfl) (argsL := [(.ref a2), (.int p3), (.int p4)]) (rest := [(.ref a1)]) (lenOf pd___BII_J rfl) rfl (by show 2 * 0 + _ ≤ _; exact Nat.le_of_eq rfl) (hb hby d3_205) (fun _ _ => ⟨rfl, e29, (by decide : 0 + 0 ≤ _), (by decide : 0 + 0 ≤ _)⟩)
  dsimp only [Pt.U, Pt.locs, Pt.cells, Pt.slots] at X32 l32 y32 z32 st32 hQ32
  subst l32 y32 z32
  obtain ⟨z32, rfl, N32q, hq32⟩ := hQ32
  have N32 := Fr.app N25 N32q
  have E32 : Ext h25 T32.heap := by rw [hq32]; exact ⟨Nat.le_refl _, fun _ _ q => q⟩
  have K32 := K25.ext E32
  have c35 := ((((E_a1.wr W2).keep kc20).wr W25).ext E32)
  have c36 := (c28.ext E32)
  have c37 := (c30.ext E32)
  obtain ⟨cq34, q34, q34'⟩ := c35.cell
  obtain ⟨_, _, ⟨T34, L34, k34, n34⟩, -, X34, ⟨Lc34, hQ34, l34, y34, z34⟩, st34⟩ := X32.privateBack hx (y := (⟨"com/example/amherst/amherst/ByteStringTable", "place", "(JJ)V"⟩ : MethodName)) hown (mvT hZ (hw _ (List.mem_of_getElem? (i := 37) rfl))) (mvT hZ (hw _ (List.mem_of_getElem? (i := 38) rfl))) (own_sel (mvT hZ (hw _ (List.mem_of_getElem? (i := 2) rfl))) (Cond.privateMethod_at (mvP hZ (hw _ (List.mem_of_getElem? (i := 39) rfl)) (args := #[]))) (mvT hZ (hw _ (List.mem_of_getElem? (i := 38) rfl))) (by decide)) (Cond.privateMethod_at (mvP hZ (hw _ (List.mem_of_getElem? (i := 39) rfl)) (args := #[]))) (mvT hZ (hw _ (List.mem_of_getElem? (i := 40) rfl))) (by decide) (backOf (W := 0) (rm6 l Z a0 hw [] a1 z32 ((((0 : Int32).toInt64) <<< ((32 : Int32) &&& 0x3f).toInt64) ||| ((p5.toInt64) &&& (4294967295 : Int64))) lA kl vl 0 T32.heap n0 (Nat.le_trans Z0 K32.1) c35 c36 c37 hlen hlong hocc (by decide) ne_a1_lA g_lA) hZ (hw _ (List.mem_of_getElem? (i := 40) rfl)) (hw _ (List.mem_of_getElem? (i := 3) rfl)) (by decide) (by decide)) (g := (mkF m 222 #[.val (.ref a1), .val (.ref a2), .val (.int p3), .val (.int p4), .val (.int p5), .val (.int (0 : Int32)), .val (.int ev9), .unset, .unset] [(.long ((((0 : Int32).toInt64) <<< ((32 : Int32) &&& 0x3f).toInt64) ||| ((p5.toInt64) &&& (4294967295 : Int64)))), (.long z32), (.ref a1)])) rfl (by rw [hml]; rfl) (Steps.refl _) (a := a1) q34 q34' (argsL := [(.long z32), (.long ((((0 : Int32).toInt64) <<< ((32 : Int32) &&& 0x3f).toInt64) ||| ((p5.toInt64) &&& (4294967295 : Int64))))]) (rest := []) (lenOf pd__JJ_V rfl) rfl (by show 2 * 0 + _ ≤ _; exact Nat.le_of_eq rfl) (hb hby d3_222) (fun _ _ => ⟨rfl, rfl, (by decide : 0 + 0 ≤ _), (by decide : 0 + 0 ≤ _)⟩)
  dsimp only [Pt.U, Pt.locs, Pt.cells, Pt.slots] at X34 l34 y34 z34 st34 hQ34
  subst l34 y34 z34
  obtain ⟨rfl, N34q, kq34, vl34, w134, w234, w334, V34⟩ := hQ34
  have N34 := Fr.app N32 N34q
  have K34 := K32.trans kq34 (allS (Or.inl (List.mem_of_getElem? (i := 3) rfl)) all0)
  have c38 := ((c26.ext E32).keep kq34 (ninS ne_a1_lA nin0))
  have c39 := ((((c11.keep kc20 (ninS ne_a1_bA nin0)).other W25 (Or.inl ne_a1_sA)).ext E32).keep kq34 (ninS ne_a1_lA nin0))
  have c40 := (((c21.other W25 (Or.inl ne_a1_sA)).ext E32).keep kq34 (ninS ne_a1_lA nin0))
  have c41 := (c36.keep kq34 (ninS ne_a1_lA nin0))
  have c42 := (((V20.other W25 ne_bA_sA).ext E32).keep kq34 (ninS ne_bA_lA nin0))
  have c43 := ((V25.ext E32).keep kq34 (ninS ne_sA_lA nin0))
  rw [hev9] at c43
  obtain ⟨fs, hr, hrun, hended, hW, hsame⟩ := X34.leave (v := some (.int (0 : Int32))) (fun h => by rw [Bd.returns] at h; cases h)
  refine ⟨_, _, pre10 _ ?_, hrun, hended, _, _, rfl, ?_, ⟨_, rfl⟩, hW, hsame.mono (by decide) (by decide)⟩
  ·
    show Steps p.tables e below (T7.setTop (mkF m 52 #[.val (.ref a1), .val (.ref a2), .val (.int p3), .val (.int p4), .val (.int p5), .val (.int (0 : Int32)), .unset, .unset, .unset] [(.int ev9)])) _
    refine XS.istore X7.here hx rfl (hb hby d3_52) rfl (l' := #[.val (.ref a1), .val (.ref a2), .val (.int p3), .val (.int p4), .val (.int p5), .val (.int (0 : Int32)), .val (.int ev9), .unset, .unset]) rfl ?_
    show Steps p.tables e below (T7.setTop (mkF m 54 #[.val (.ref a1), .val (.ref a2), .val (.int p3), .val (.int p4), .val (.int p5), .val (.int (0 : Int32)), .val (.int ev9), .unset, .unset] [])) _
    refine XS.iload X7.here hx rfl (hb hby d3_54) rfl ?_
    show Steps p.tables e below (T7.setTop (mkF m 56 #[.val (.ref a1), .val (.ref a2), .val (.int p3), .val (.int p4), .val (.int p5), .val (.int (0 : Int32)), .val (.int ev9), .unset, .unset] [(.int ev9)])) _
    refine XS.aloadN X7.here hx rfl (hb hby d3_56) rfl rfl ?_
    show Steps p.tables e below (T7.setTop (mkF m 57 #[.val (.ref a1), .val (.ref a2), .val (.int p3), .val (.int p4), .val (.int p5), .val (.int (0 : Int32)), .val (.int ev9), .unset, .unset] [(.ref a1), (.int ev9)])) _
    refine st12 _ ?_
    show Steps p.tables e below (T12.setTop (mkF m 60 #[.val (.ref a1), .val (.ref a2), .val (.int p3), .val (.int p4), .val (.int p5), .val (.int (0 : Int32)), .val (.int ev9), .unset, .unset] [(.ref bA), (.int ev9)])) _
    refine X12.arraylength hx (by rw [e12]; exact Aro14.1) (State.isArrayOf_alike hZ.alike Aro14.2.1) (g := (mkF m 60 #[.val (.ref a1), .val (.ref a2), .val (.int p3), .val (.int p4), .val (.int p5), .val (.int (0 : Int32)), .val (.int ev9), .unset, .unset] [(.ref bA), (.int ev9)])) rfl rfl (hb hby d3_60) _ ?_
    rw [len_of So14 No14]
    show Steps p.tables e below (T12.setTop (mkF m 61 #[.val (.ref a1), .val (.ref a2), .val (.int p3), .val (.int p4), .val (.int p5), .val (.int (0 : Int32)), .val (.int ev9), .unset, .unset] [(.int (4096 : Int32)), (.int ev9)])) _
    refine XS.icmpYes X12.here hx rfl (pc0 := 61) (pc' := 93) rfl (hb hby d3_61) rfl (flt hk15).2.2.2 (by decide) (by decide) ?_
    show Steps p.tables e below (T12.setTop (mkF m 93 #[.val (.ref a1), .val (.ref a2), .val (.int p3), .val (.int p4), .val (.int p5), .val (.int (0 : Int32)), .val (.int ev9), .unset, .unset] [])) _
    refine XS.aloadN X12.here hx rfl (hb hby d3_93) rfl rfl ?_
    show Steps p.tables e below (T12.setTop (mkF m 94 #[.val (.ref a1), .val (.ref a2), .val (.int p3), .val (.int p4), .val (.int p5), .val (.int (0 : Int32)), .val (.int ev9), .unset, .unset] [(.ref a2)])) _
    refine XS.iloadN X12.here hx rfl (hb hby d3_94) rfl ?_
    show Steps p.tables e below (T12.setTop (mkF m 95 #[.val (.ref a1), .val (.ref a2), .val (.int p3), .val (.int p4), .val (.int p5), .val (.int (0 : Int32)), .val (.int ev9), .unset, .unset] [(.int p3), (.ref a2)])) _
    refine XS.aloadN X12.here hx rfl (hb hby d3_95) rfl rfl ?_
    show Steps p.tables e below (T12.setTop (mkF m 96 #[.val (.ref a1), .val (.ref a2), .val (.int p3), .val (.int p4), .val (.int p5), .val (.int (0 : Int32)), .val (.int ev9), .unset, .unset] [(.ref a1), (.int p3), (.ref a2)])) _
    refine st16 _ ?_
    show Steps p.tables e below (T16.setTop (mkF m 99 #[.val (.ref a1), .val (.ref a2), .val (.int p3), .val (.int p4), .val (.int p5), .val (.int (0 : Int32)), .val (.int ev9), .unset, .unset] [(.ref bA), (.int p3), (.ref a2)])) _
    refine XS.aloadN X16.here hx rfl (hb hby d3_99) rfl rfl ?_
    show Steps p.tables e below (T16.setTop (mkF m 100 #[.val (.ref a1), .val (.ref a2), .val (.int p3), .val (.int p4), .val (.int p5), .val (.int (0 : Int32)), .val (.int ev9), .unset, .unset] [(.ref a1), (.ref bA), (.int p3), (.ref a2)])) _
    refine st17 _ ?_
    show Steps p.tables e below (T17.setTop (mkF m 103 #[.val (.ref a1), .val (.ref a2), .val (.int p3), .val (.int p4), .val (.int p5), .val (.int (0 : Int32)), .val (.int ev9), .unset, .unset] [(.ref sA), (.ref bA), (.int p3), (.ref a2)])) _
    refine XS.iload X17.here hx rfl (hb hby d3_103) rfl ?_
    show Steps p.tables e below (T17.setTop (mkF m 105 #[.val (.ref a1), .val (.ref a2), .val (.int p3), .val (.int p4), .val (.int p5), .val (.int (0 : Int32)), .val (.int ev9), .unset, .unset] [(.int (0 : Int32)), (.ref sA), (.ref bA), (.int p3), (.ref a2)])) _
    refine X17.iaload hx (j := (0 : Int32)) (v := (.int (0 : Int32))) (by rw [e17]; exact Aro18.1) (State.isArrayOf_alike hZ.alike Aro18.2.1) Aro18.2.2 hino18 hato18 (g := (mkF m 105 #[.val (.ref a1), .val (.ref a2), .val (.int p3), .val (.int p4), .val (.int p5), .val (.int (0 : Int32)), .val (.int ev9), .unset, .unset] [(.int (0 : Int32)), (.ref sA), (.ref bA), (.int p3), (.ref a2)])) rfl rfl (hb hby d3_105) _ ?_
    show Steps p.tables e below (T17.setTop (mkF m 106 #[.val (.ref a1), .val (.ref a2), .val (.int p3), .val (.int p4), .val (.int p5), .val (.int (0 : Int32)), .val (.int ev9), .unset, .unset] [(.int (0 : Int32)), (.ref bA), (.int p3), (.ref a2)])) _
    refine XS.iloadN X17.here hx rfl (hb hby d3_106) rfl ?_
    show Steps p.tables e below (T17.setTop (mkF m 107 #[.val (.ref a1), .val (.ref a2), .val (.int p3), .val (.int p4), .val (.int p5), .val (.int (0 : Int32)), .val (.int ev9), .unset, .unset] [(.int p4), (.int (0 : Int32)), (.ref bA), (.int p3), (.ref a2)])) _
    refine st20 _ ?_
    show Steps p.tables e below (T20.setTop (mkF m 110 #[.val (.ref a1), .val (.ref a2), .val (.int p3), .val (.int p4), .val (.int p5), .val (.int (0 : Int32)), .val (.int ev9), .unset, .unset] [])) _
    refine XS.aloadN X20.here hx rfl (hb hby d3_110) rfl rfl ?_
    show Steps p.tables e below (T20.setTop (mkF m 111 #[.val (.ref a1), .val (.ref a2), .val (.int p3), .val (.int p4), .val (.int p5), .val (.int (0 : Int32)), .val (.int ev9), .unset, .unset] [(.ref a1)])) _
    refine st22 _ ?_
    show Steps p.tables e below (T22.setTop (mkF m 114 #[.val (.ref a1), .val (.ref a2), .val (.int p3), .val (.int p4), .val (.int p5), .val (.int (0 : Int32)), .val (.int ev9), .unset, .unset] [(.ref sA)])) _
    refine XS.iload X22.here hx rfl (hb hby d3_114) rfl ?_
    show Steps p.tables e below (T22.setTop (mkF m 116 #[.val (.ref a1), .val (.ref a2), .val (.int p3), .val (.int p4), .val (.int p5), .val (.int (0 : Int32)), .val (.int ev9), .unset, .unset] [(.int (0 : Int32)), (.ref sA)])) _
    refine XS.iconst X22.here hx rfl (hb hby d3_116) ?_
    show Steps p.tables e below (T22.setTop (mkF m 117 #[.val (.ref a1), .val (.ref a2), .val (.int p3), .val (.int p4), .val (.int p5), .val (.int (0 : Int32)), .val (.int ev9), .unset, .unset] [(.int (1 : Int32)), (.int (0 : Int32)), (.ref sA)])) _
    refine XS.iadd X22.here hx rfl (hb hby d3_117) rfl ?_
    show Steps p.tables e below (T22.setTop (mkF m 118 #[.val (.ref a1), .val (.ref a2), .val (.int p3), .val (.int p4), .val (.int p5), .val (.int (0 : Int32)), .val (.int ev9), .unset, .unset] [(.int (1 : Int32)), (.ref sA)])) _
    refine XS.iload X22.here hx rfl (hb hby d3_118) rfl ?_
    show Steps p.tables e below (T22.setTop (mkF m 120 #[.val (.ref a1), .val (.ref a2), .val (.int p3), .val (.int p4), .val (.int p5), .val (.int (0 : Int32)), .val (.int ev9), .unset, .unset] [(.int ev9), (.int (1 : Int32)), (.ref sA)])) _
    refine st25 _ ?_
    show Steps p.tables e below (T25.setTop (mkF m 121 #[.val (.ref a1), .val (.ref a2), .val (.int p3), .val (.int p4), .val (.int p5), .val (.int (0 : Int32)), .val (.int ev9), .unset, .unset] [])) _
    refine XS.bipush X25.here hx rfl (hb hby d3_121) ?_
    show Steps p.tables e below (T25.setTop (mkF m 123 #[.val (.ref a1), .val (.ref a2), .val (.int p3), .val (.int p4), .val (.int p5), .val (.int (0 : Int32)), .val (.int ev9), .unset, .unset] [(.int (10 : Int32))])) _
    refine XS.aloadN X25.here hx rfl (hb hby d3_123) rfl rfl ?_
    show Steps p.tables e below (T25.setTop (mkF m 124 #[.val (.ref a1), .val (.ref a2), .val (.int p3), .val (.int p4), .val (.int p5), .val (.int (0 : Int32)), .val (.int ev9), .unset, .unset] [(.ref a1), (.int (10 : Int32))])) _
    refine st27 _ ?_
    show Steps p.tables e below (T27.setTop (mkF m 127 #[.val (.ref a1), .val (.ref a2), .val (.int p3), .val (.int p4), .val (.int p5), .val (.int (0 : Int32)), .val (.int ev9), .unset, .unset] [(.int (1 : Int32)), (.int (10 : Int32))])) _
    refine XS.imul X27.here hx rfl (hb hby d3_127) rfl ?_
    show Steps p.tables e below (T27.setTop (mkF m 128 #[.val (.ref a1), .val (.ref a2), .val (.int p3), .val (.int p4), .val (.int p5), .val (.int (0 : Int32)), .val (.int ev9), .unset, .unset] [(.int (10 : Int32))])) _
    refine XS.bipush X27.here hx rfl (hb hby d3_128) ?_
    show Steps p.tables e below (T27.setTop (mkF m 130 #[.val (.ref a1), .val (.ref a2), .val (.int p3), .val (.int p4), .val (.int p5), .val (.int (0 : Int32)), .val (.int ev9), .unset, .unset] [(.int (7 : Int32)), (.int (10 : Int32))])) _
    refine XS.aloadN X27.here hx rfl (hb hby d3_130) rfl rfl ?_
    show Steps p.tables e below (T27.setTop (mkF m 131 #[.val (.ref a1), .val (.ref a2), .val (.int p3), .val (.int p4), .val (.int p5), .val (.int (0 : Int32)), .val (.int ev9), .unset, .unset] [(.ref a1), (.int (7 : Int32)), (.int (10 : Int32))])) _
    refine st29 _ ?_
    show Steps p.tables e below (T29.setTop (mkF m 134 #[.val (.ref a1), .val (.ref a2), .val (.int p3), .val (.int p4), .val (.int p5), .val (.int (0 : Int32)), .val (.int ev9), .unset, .unset] [(.ref lA), (.int (7 : Int32)), (.int (10 : Int32))])) _
    refine X29.arraylength hx (by rw [e29]; exact Aro31.1) (State.isArrayOf_alike hZ.alike Aro31.2.1) (g := (mkF m 134 #[.val (.ref a1), .val (.ref a2), .val (.int p3), .val (.int p4), .val (.int p5), .val (.int (0 : Int32)), .val (.int ev9), .unset, .unset] [(.ref lA), (.int (7 : Int32)), (.int (10 : Int32))])) rfl rfl (hb hby d3_134) _ ?_
    rw [len_of So31 No31]
    show Steps p.tables e below (T29.setTop (mkF m 135 #[.val (.ref a1), .val (.ref a2), .val (.int p3), .val (.int p4), .val (.int p5), .val (.int (0 : Int32)), .val (.int ev9), .unset, .unset] [(.int (1024 : Int32)), (.int (7 : Int32)), (.int (10 : Int32))])) _
    refine XS.iconst X29.here hx rfl (hb hby d3_135) ?_
    show Steps p.tables e below (T29.setTop (mkF m 136 #[.val (.ref a1), .val (.ref a2), .val (.int p3), .val (.int p4), .val (.int p5), .val (.int (0 : Int32)), .val (.int ev9), .unset, .unset] [(.int (2 : Int32)), (.int (1024 : Int32)), (.int (7 : Int32)), (.int (10 : Int32))])) _
    refine XS.idiv X29.here hx rfl (hb hby d3_136) rfl (by decide) ?_
    show Steps p.tables e below (T29.setTop (mkF m 137 #[.val (.ref a1), .val (.ref a2), .val (.int p3), .val (.int p4), .val (.int p5), .val (.int (0 : Int32)), .val (.int ev9), .unset, .unset] [(.int (512 : Int32)), (.int (7 : Int32)), (.int (10 : Int32))])) _
    refine XS.imul X29.here hx rfl (hb hby d3_137) rfl ?_
    show Steps p.tables e below (T29.setTop (mkF m 138 #[.val (.ref a1), .val (.ref a2), .val (.int p3), .val (.int p4), .val (.int p5), .val (.int (0 : Int32)), .val (.int ev9), .unset, .unset] [(.int (3584 : Int32)), (.int (10 : Int32))])) _
    refine XS.icmpYes X29.here hx rfl (pc0 := 138) (pc' := 201) rfl (hb hby d3_138) rfl (flt (by decide : ¬ ((3584 : Int32) < (10 : Int32)))).2.2.2 (by decide) (by decide) ?_
    show Steps p.tables e below (T29.setTop (mkF m 201 #[.val (.ref a1), .val (.ref a2), .val (.int p3), .val (.int p4), .val (.int p5), .val (.int (0 : Int32)), .val (.int ev9), .unset, .unset] [])) _
    refine XS.aloadN X29.here hx rfl (hb hby d3_201) rfl rfl ?_
    show Steps p.tables e below (T29.setTop (mkF m 202 #[.val (.ref a1), .val (.ref a2), .val (.int p3), .val (.int p4), .val (.int p5), .val (.int (0 : Int32)), .val (.int ev9), .unset, .unset] [(.ref a1)])) _
    refine XS.aloadN X29.here hx rfl (hb hby d3_202) rfl rfl ?_
    show Steps p.tables e below (T29.setTop (mkF m 203 #[.val (.ref a1), .val (.ref a2), .val (.int p3), .val (.int p4), .val (.int p5), .val (.int (0 : Int32)), .val (.int ev9), .unset, .unset] [(.ref a2), (.ref a1)])) _
    refine XS.iloadN X29.here hx rfl (hb hby d3_203) rfl ?_
    show Steps p.tables e below (T29.setTop (mkF m 204 #[.val (.ref a1), .val (.ref a2), .val (.int p3), .val (.int p4), .val (.int p5), .val (.int (0 : Int32)), .val (.int ev9), .unset, .unset] [(.int p3), (.ref a2), (.ref a1)])) _
    refine XS.iloadN X29.here hx rfl (hb hby d3_204) rfl ?_
    show Steps p.tables e below (T29.setTop (mkF m 205 #[.val (.ref a1), .val (.ref a2), .val (.int p3), .val (.int p4), .val (.int p5), .val (.int (0 : Int32)), .val (.int ev9), .unset, .unset] [(.int p4), (.int p3), (.ref a2), (.ref a1)])) _
    refine st32 _ ?_
    show Steps p.tables e below (T32.setTop (mkF m 208 #[.val (.ref a1), .val (.ref a2), .val (.int p3), .val (.int p4), .val (.int p5), .val (.int (0 : Int32)), .val (.int ev9), .unset, .unset] [(.long z32), (.ref a1)])) _
    refine XS.iload X32.here hx rfl (hb hby d3_208) rfl ?_
    show Steps p.tables e below (T32.setTop (mkF m 210 #[.val (.ref a1), .val (.ref a2), .val (.int p3), .val (.int p4), .val (.int p5), .val (.int (0 : Int32)), .val (.int ev9), .unset, .unset] [(.int (0 : Int32)), (.long z32), (.ref a1)])) _
    refine XS.i2l X32.here hx rfl (hb hby d3_210) rfl ?_
    show Steps p.tables e below (T32.setTop (mkF m 211 #[.val (.ref a1), .val (.ref a2), .val (.int p3), .val (.int p4), .val (.int p5), .val (.int (0 : Int32)), .val (.int ev9), .unset, .unset] [(.long ((0 : Int32).toInt64)), (.long z32), (.ref a1)])) _
    refine XS.bipush X32.here hx rfl (hb hby d3_211) ?_
    show Steps p.tables e below (T32.setTop (mkF m 213 #[.val (.ref a1), .val (.ref a2), .val (.int p3), .val (.int p4), .val (.int p5), .val (.int (0 : Int32)), .val (.int ev9), .unset, .unset] [(.int (32 : Int32)), (.long ((0 : Int32).toInt64)), (.long z32), (.ref a1)])) _
    refine XS.lshl X32.here hx rfl (hb hby d3_213) rfl ?_
    show Steps p.tables e below (T32.setTop (mkF m 214 #[.val (.ref a1), .val (.ref a2), .val (.int p3), .val (.int p4), .val (.int p5), .val (.int (0 : Int32)), .val (.int ev9), .unset, .unset] [(.long (((0 : Int32).toInt64) <<< ((32 : Int32) &&& 0x3f).toInt64)), (.long z32), (.ref a1)])) _
    refine XS.iload X32.here hx rfl (hb hby d3_214) rfl ?_
    show Steps p.tables e below (T32.setTop (mkF m 216 #[.val (.ref a1), .val (.ref a2), .val (.int p3), .val (.int p4), .val (.int p5), .val (.int (0 : Int32)), .val (.int ev9), .unset, .unset] [(.int p5), (.long (((0 : Int32).toInt64) <<< ((32 : Int32) &&& 0x3f).toInt64)), (.long z32), (.ref a1)])) _
    refine XS.i2l X32.here hx rfl (hb hby d3_216) rfl ?_
    show Steps p.tables e below (T32.setTop (mkF m 217 #[.val (.ref a1), .val (.ref a2), .val (.int p3), .val (.int p4), .val (.int p5), .val (.int (0 : Int32)), .val (.int ev9), .unset, .unset] [(.long (p5.toInt64)), (.long (((0 : Int32).toInt64) <<< ((32 : Int32) &&& 0x3f).toInt64)), (.long z32), (.ref a1)])) _
    refine X32.ldc2Long hx hown (mvT hZ (hw _ (List.mem_of_getElem? (i := 36) rfl))) (g := (mkF m 217 #[.val (.ref a1), .val (.ref a2), .val (.int p3), .val (.int p4), .val (.int p5), .val (.int (0 : Int32)), .val (.int ev9), .unset, .unset] [(.long (p5.toInt64)), (.long (((0 : Int32).toInt64) <<< ((32 : Int32) &&& 0x3f).toInt64)), (.long z32), (.ref a1)])) rfl (hb hby d3_217) _ ?_
    show Steps p.tables e below (T32.setTop (mkF m 220 #[.val (.ref a1), .val (.ref a2), .val (.int p3), .val (.int p4), .val (.int p5), .val (.int (0 : Int32)), .val (.int ev9), .unset, .unset] [(.long (4294967295 : Int64)), (.long (p5.toInt64)), (.long (((0 : Int32).toInt64) <<< ((32 : Int32) &&& 0x3f).toInt64)), (.long z32), (.ref a1)])) _
    refine XS.land X32.here hx rfl (hb hby d3_220) rfl ?_
    show Steps p.tables e below (T32.setTop (mkF m 221 #[.val (.ref a1), .val (.ref a2), .val (.int p3), .val (.int p4), .val (.int p5), .val (.int (0 : Int32)), .val (.int ev9), .unset, .unset] [(.long ((p5.toInt64) &&& (4294967295 : Int64))), (.long (((0 : Int32).toInt64) <<< ((32 : Int32) &&& 0x3f).toInt64)), (.long z32), (.ref a1)])) _
    refine XS.lor X32.here hx rfl (hb hby d3_221) rfl ?_
    show Steps p.tables e below (T32.setTop (mkF m 222 #[.val (.ref a1), .val (.ref a2), .val (.int p3), .val (.int p4), .val (.int p5), .val (.int (0 : Int32)), .val (.int ev9), .unset, .unset] [(.long ((((0 : Int32).toInt64) <<< ((32 : Int32) &&& 0x3f).toInt64) ||| ((p5.toInt64) &&& (4294967295 : Int64)))), (.long z32), (.ref a1)])) _
    refine st34.trans ?_
    show Steps p.tables e below (T34.setTop (mkF m 225 #[.val (.ref a1), .val (.ref a2), .val (.int p3), .val (.int p4), .val (.int p5), .val (.int (0 : Int32)), .val (.int ev9), .unset, .unset] [])) _
    refine XS.iload X34.here hx rfl (hb hby d3_225) rfl ?_
    show Steps p.tables e below (T34.setTop (mkF m 227 #[.val (.ref a1), .val (.ref a2), .val (.int p3), .val (.int p4), .val (.int p5), .val (.int (0 : Int32)), .val (.int ev9), .unset, .unset] [(.int (0 : Int32))])) _
    exact retI X34 hx Bd.returns (hb hby d3_227) hr
  ·
    show Qad0 Z a1 a2 p3 p4 p5 bA sA lA kb ks kl k2 vb vl vs h0 n0 _ T34.heap _
    exact ⟨rfl, N34, K34, c38, c39, c40, c41, ⟨_, hvc, c42⟩, c43, ⟨_, w134, w234, w334, V34⟩⟩
theorem ef_ad1 (m : MethodId) (a1 : Addr) (a2 : Addr) (p3 : Int32) (p4 : Int32) (p5 : Int32) : entryFrame m #[(.ref a1), (.ref a2), (.int p3), (.int p4), (.int p5)] 9 = (mkF m 0 #[.val (.ref a1), .val (.ref a2), .val (.int p3), .val (.int p4), .val (.int p5), .unset, .unset, .unset, .unset] []) := by first | (simp [entryFrame, mkF, argsToLocals, Value.category]; done) | rfl
def Qad1 (Z : State) (a1 : Addr) (a2 : Addr) (p3 : Int32) (p4 : Int32) (p5 : Int32) (bA : Addr) (sA : Addr) (lA : Addr) (kb : ClassId) (ks : ClassId) (kl : ClassId) (k2 : ClassId) (vb : List Value) (vl : List Value) (vs : List Value) (x1 : Int32) (h0 : Heap) (n0 : Nat) (v : Option Value) (h : Heap) (L : List Loc) : Prop := v = some (.int (1 : Int32)) ∧ Fr n0 L ∧ Keep h0 h [a1, bA, sA, lA] ∧ Fld Z h a1 "com/example/amherst/amherst/ByteStringTable" "size" "I" (.int (2 : Int32)) ∧ Fld Z h a1 "com/example/amherst/amherst/ByteStringTable" "bytes" "[B" (.ref bA) ∧ Fld Z h a1 "com/example/amherst/amherst/ByteStringTable" "starts" "[I" (.ref sA) ∧ Fld Z h a1 "com/example/amherst/amherst/ByteStringTable" "slots" "[J" (.ref lA) ∧ (∃ vb' : List Value, vb'.length = 4096 ∧ Arv Z h bA kb .byte 4096 vb' (.int (0 : Int32))) ∧ Arv Z h sA ks .int 256 [(.int (0 : Int32)), (.int x1), (.int (x1 + p4)), (.int (0 : Int32))] (.int (0 : Int32)) ∧ (∃ vl' : List Value, vl'.length = 1024 ∧ own_longs vl' ∧ own_occ 2 vl' ∧ Arv Z h lA kl .long 1024 vl' (.long (0 : Int64)))
set_option maxRecDepth 65536 in
set_option maxHeartbeats 40000000 in
theorem ad1 (l : Launch) (Z : State) (a0 : Array Value) (hw : ∀ d ∈ tables_1, d.before a0 Z = true) (ws : List Jvm.Cond) (a1 : Addr) (a2 : Addr) (p3 : Int32) (p4 : Int32) (p5 : Int32) (bA : Addr) (sA : Addr) (lA : Addr) (kb : ClassId) (ks : ClassId) (kl : ClassId) (k2 : ClassId) (vb : List Value) (vl : List Value) (vs : List Value) (x1 : Int32) (h0 : Heap) (n0 : Nat) (Z0 : n0 ≤ h0.size) (E_a1 : Exa Z h0 a1 "com/example/amherst/amherst/ByteStringTable") (F_bytes : Fld Z h0 a1 "com/example/amherst/amherst/ByteStringTable" "bytes" "[B" (.ref bA)) (F_starts : Fld Z h0 a1 "com/example/amherst/amherst/ByteStringTable" "starts" "[I" (.ref sA)) (F_slots : Fld Z h0 a1 "com/example/amherst/amherst/ByteStringTable" "slots" "[J" (.ref lA)) (F_size : Fld Z h0 a1 "com/example/amherst/amherst/ByteStringTable" "size" "I" (.int (1 : Int32))) (V_bA : Arv Z h0 bA kb .byte 4096 vb (.int (0 : Int32))) (V_sA : Arv Z h0 sA ks .int 256 [(.int (0 : Int32)), (.int x1), (.int (0 : Int32)), (.int (0 : Int32))] (.int (0 : Int32))) (V_lA : Arv Z h0 lA kl .long 1024 vl (.long (0 : Int64))) (V_a2 : Arv Z h0 a2 k2 .byte 32 vs (.int (0 : Int32))) (hvb : vb.length = 4096) (hlen : vl.length = 1024) (hlong : own_longs vl) (hocc : own_occ 1 vl) (hint : own_ints vs) (hp : own_in p3 15) (hn : own_in p4 16) (hxn : own_in x1 16) (ne_a1_a2 : a1 ≠ a2) (ne_a1_bA : a1 ≠ bA) (ne_a1_sA : a1 ≠ sA) (ne_a1_lA : a1 ≠ lA) (ne_a2_bA : a2 ≠ bA) (ne_a2_sA : a2 ≠ sA) (ne_a2_lA : a2 ≠ lA) (ne_bA_sA : bA ≠ sA) (ne_bA_lA : bA ≠ lA) (ne_sA_lA : sA ≠ lA) (g_a1 : n0 ≤ a1) (g_bA : n0 ≤ bA) (g_sA : n0 ≤ sA) (g_lA : n0 ≤ lA) :
    MetFree l (⟨"com/example/amherst/amherst/ByteStringTable", "add", "([BIII)I"⟩ : MethodName) (head1 (Jvm.Cond.code (⟨"com/example/amherst/amherst/ByteStringTable", "add", "([BIII)I"⟩ : MethodName) prog_4_method_4_code 9 (some .int) :: ws) ({ frames := 2, cells := 0, slots := 0, locals := 40 } : Room)) (fun a U => a = #[(.ref a1), (.ref a2), (.int p3), (.int p4), (.int p5)] ∧ Z.Warmed39 U.vm ∧ U.heap = h0) (fun _ _ _ _ _ => True) (fun _ U o U' => ∃ v L, o = .returned v ∧ Qad1 Z a1 a2 p3 p4 p5 bA sA lA kb ks kl k2 vb vl vs x1 h0 n0 v U'.heap L ∧ FrameEnd U o U' L ({ frames := 2, cells := 0, slots := 0, locals := 40 } : Room).cells ({ frames := 2, cells := 0, slots := 0, locals := 40 } : Room).slots) := by
  refine MetFree.of_bodySF (plainFor_of_name pn_3) hisR ?_
  intro p e s m args below meth c s₁ Bd hml0 hP hK
  obtain ⟨rfl, hZ, hh⟩ := hP
  have hx := Bd.exec
  have hby := Bd.bytes
  have hml : c.maxLocals = 9 := hml0
  have hown : s.vm.findClass "com/example/amherst/amherst/ByteStringTable" = some m.cls := findClass_of_methodNamed Bd.named
  have hnm := (name_of_methodNamed Bd.named Bd.method).1
  have X0 : Stand p l e ({ frames := 2, cells := 0, slots := 0, locals := 40 } : Room) s m #[(.ref a1), (.ref a2), (.int p3), (.int p4), (.int p5)] below meth c s₁ [] 0 0 := Stand.of_body Bd
  have e0 : s₁.heap = h0 := by rw [← hh, Bd.state]; rfl
  have N0 := Fr.nil n0
  have K0 := Keep.refl h0 ([a1, bA, sA, lA] : List Addr)
  have pre0 : ∀ t, Steps p.tables e below (s₁.setTop (mkF m 0 #[.val (.ref a1), .val (.ref a2), .val (.int p3), .val (.int p4), .val (.int p5), .unset, .unset, .unset, .unset] [])) t → Steps p.tables e below (s₁.setTop (entryFrame m #[(.ref a1), (.ref a2), (.int p3), (.int p4), (.int p5)] 9)) t := fun t k => castTop (ef_ad1 m a1 a2 p3 p4 p5) k
  obtain ⟨T1, X1, e1, st1⟩ := getF X0 hx hZ hown (host := "") (Or.inl (hw _ (List.mem_of_getElem? (i := 23) rfl))) Via.refl e0 F_size (g := (mkF m 2 #[.val (.ref a1), .val (.ref a2), .val (.int p3), .val (.int p4), .val (.int p5), .unset, .unset, .unset, .unset] [(.ref a1), (.ref a1)])) rfl rfl (hb hby d3_2)
  obtain ⟨T2, h2, X2, e2, W2, st2⟩ := putF X1 hx hZ hown (host := "") (Or.inl (hw _ (List.mem_of_getElem? (i := 23) rfl))) Via.refl e1 F_size E_a1 (Or.inl (hw _ (List.mem_of_getElem? (i := 24) rfl))) (hw _ (List.mem_of_getElem? (i := 2) rfl)) (ty := .int) (by decide) rfl rfl (g := (mkF m 8 #[.val (.ref a1), .val (.ref a2), .val (.int p3), .val (.int p4), .val (.int p5), .unset, .unset, .unset, .unset] [(.int (2 : Int32)), (.ref a1), (.int (1 : Int32))])) rfl rfl (hb hby d3_8)
  have Fw2 := F_size.same W2
  have K2 := K0.wr W2 (Or.inl (List.mem_of_getElem? (i := 0) rfl))
  have N2 := Fr.snoc X2 N0 g_a1
  have c3 := (F_starts.other W2 (Or.inr (slot_ne (Or.inl (hw _ (List.mem_of_getElem? (i := 14) rfl))) (Or.inl (hw _ (List.mem_of_getElem? (i := 24) rfl))) (by decide) (t := (.array .int)) (t' := .int) (by decide) (by decide))))
  obtain ⟨T4, X4, e4, st4⟩ := getF X2 hx hZ hown (host := "") (Or.inl (hw _ (List.mem_of_getElem? (i := 13) rfl))) Via.refl e2 c3 (g := (mkF m 18 #[.val (.ref a1), .val (.ref a2), .val (.int p3), .val (.int p4), .val (.int p5), .val (.int (1 : Int32)), .unset, .unset, .unset] [(.ref a1), (.int (2 : Int32))])) rfl rfl (hb hby d3_18)
  have c5 := (V_sA.other W2 (Ne.symm ne_a1_sA))
  obtain ⟨clo6, Aro6, -, So6, No6, -, -⟩ := id c5
  obtain ⟨T7, X7, e7, st7⟩ := getF X4 hx hZ hown (host := "") (Or.inl (hw _ (List.mem_of_getElem? (i := 13) rfl))) Via.refl e4 c3 (g := (mkF m 44 #[.val (.ref a1), .val (.ref a2), .val (.int p3), .val (.int p4), .val (.int p5), .val (.int (1 : Int32)), .unset, .unset, .unset] [(.ref a1)])) rfl rfl (hb hby d3_44)
  obtain ⟨clo8, Aro8, -, So8, No8, Ho8, -⟩ := id c5
  have hino8 : ¬ ((1 : Int32) < 0 ∨ clo8.slots.size ≤ ((1 : Int32)).toNatClampNeg) := inb_of So8 ⟨by decide, by decide⟩
  have hato8 : clo8.slots[((1 : Int32)).toNatClampNeg]? = some (.int x1) := Ho8.at hino8 rfl
  obtain ⟨ev9, hev9⟩ : ∃ z, z = (x1 + p4) := ⟨_, rfl⟩
  have pre10 : ∀ t, Steps p.tables e below (T7.setTop (mkF m 52 #[.val (.ref a1), .val (.ref a2), .val (.int p3), .val (.int p4), .val (.int p5), .val (.int (1 : Int32)), .unset, .unset, .unset] [(.int ev9)])) t → Steps p.tables e below (s₁.setTop (entryFrame m #[(.ref a1), (.ref a2), (.int p3), (.int p4), (.int p5)] 9)) t := by
    intro t kt
    rw [hev9] at kt
    refine pre0 _ ?_
    show Steps p.tables e below (s₁.setTop (mkF m 0 #[.val (.ref a1), .val (.ref a2), .val (.int p3), .val (.int p4), .val (.int p5), .unset, .unset, .unset, .unset] [])) _
    refine XS.aloadN X0.here hx rfl (hb hby d3_0) rfl rfl ?_
    show Steps p.tables e below (s₁.setTop (mkF m 1 #[.val (.ref a1), .val (.ref a2), .val (.int p3), .val (.int p4), .val (.int p5), .unset, .unset, .unset, .unset] [(.ref a1)])) _
    refine XS.dup X0.here hx rfl (hb hby d3_1) rfl rfl ?_
    show Steps p.tables e below (s₁.setTop (mkF m 2 #[.val (.ref a1), .val (.ref a2), .val (.int p3), .val (.int p4), .val (.int p5), .unset, .unset, .unset, .unset] [(.ref a1), (.ref a1)])) _
    refine st1 _ ?_
    show Steps p.tables e below (T1.setTop (mkF m 5 #[.val (.ref a1), .val (.ref a2), .val (.int p3), .val (.int p4), .val (.int p5), .unset, .unset, .unset, .unset] [(.int (1 : Int32)), (.ref a1)])) _
    refine XS.dupX1 X1.here hx rfl (hb hby d3_5) rfl rfl rfl ?_
    show Steps p.tables e below (T1.setTop (mkF m 6 #[.val (.ref a1), .val (.ref a2), .val (.int p3), .val (.int p4), .val (.int p5), .unset, .unset, .unset, .unset] [(.int (1 : Int32)), (.ref a1), (.int (1 : Int32))])) _
    refine XS.iconst X1.here hx rfl (hb hby d3_6) ?_
    show Steps p.tables e below (T1.setTop (mkF m 7 #[.val (.ref a1), .val (.ref a2), .val (.int p3), .val (.int p4), .val (.int p5), .unset, .unset, .unset, .unset] [(.int (1 : Int32)), (.int (1 : Int32)), (.ref a1), (.int (1 : Int32))])) _
    refine XS.iadd X1.here hx rfl (hb hby d3_7) rfl ?_
    show Steps p.tables e below (T1.setTop (mkF m 8 #[.val (.ref a1), .val (.ref a2), .val (.int p3), .val (.int p4), .val (.int p5), .unset, .unset, .unset, .unset] [(.int (2 : Int32)), (.ref a1), (.int (1 : Int32))])) _
    refine st2 _ ?_
    show Steps p.tables e below (T2.setTop (mkF m 11 #[.val (.ref a1), .val (.ref a2), .val (.int p3), .val (.int p4), .val (.int p5), .unset, .unset, .unset, .unset] [(.int (1 : Int32))])) _
    refine XS.istore X2.here hx rfl (hb hby d3_11) rfl (l' := #[.val (.ref a1), .val (.ref a2), .val (.int p3), .val (.int p4), .val (.int p5), .val (.int (1 : Int32)), .unset, .unset, .unset]) rfl ?_
    show Steps p.tables e below (T2.setTop (mkF m 13 #[.val (.ref a1), .val (.ref a2), .val (.int p3), .val (.int p4), .val (.int p5), .val (.int (1 : Int32)), .unset, .unset, .unset] [])) _
    refine XS.iload X2.here hx rfl (hb hby d3_13) rfl ?_
    show Steps p.tables e below (T2.setTop (mkF m 15 #[.val (.ref a1), .val (.ref a2), .val (.int p3), .val (.int p4), .val (.int p5), .val (.int (1 : Int32)), .unset, .unset, .unset] [(.int (1 : Int32))])) _
    refine XS.iconst X2.here hx rfl (hb hby d3_15) ?_
    show Steps p.tables e below (T2.setTop (mkF m 16 #[.val (.ref a1), .val (.ref a2), .val (.int p3), .val (.int p4), .val (.int p5), .val (.int (1 : Int32)), .unset, .unset, .unset] [(.int (1 : Int32)), (.int (1 : Int32))])) _
    refine XS.iadd X2.here hx rfl (hb hby d3_16) rfl ?_
    show Steps p.tables e below (T2.setTop (mkF m 17 #[.val (.ref a1), .val (.ref a2), .val (.int p3), .val (.int p4), .val (.int p5), .val (.int (1 : Int32)), .unset, .unset, .unset] [(.int (2 : Int32))])) _
    refine XS.aloadN X2.here hx rfl (hb hby d3_17) rfl rfl ?_
    show Steps p.tables e below (T2.setTop (mkF m 18 #[.val (.ref a1), .val (.ref a2), .val (.int p3), .val (.int p4), .val (.int p5), .val (.int (1 : Int32)), .unset, .unset, .unset] [(.ref a1), (.int (2 : Int32))])) _
    refine st4 _ ?_
    show Steps p.tables e below (T4.setTop (mkF m 21 #[.val (.ref a1), .val (.ref a2), .val (.int p3), .val (.int p4), .val (.int p5), .val (.int (1 : Int32)), .unset, .unset, .unset] [(.ref sA), (.int (2 : Int32))])) _
    refine X4.arraylength hx (by rw [e4]; exact Aro6.1) (State.isArrayOf_alike hZ.alike Aro6.2.1) (g := (mkF m 21 #[.val (.ref a1), .val (.ref a2), .val (.int p3), .val (.int p4), .val (.int p5), .val (.int (1 : Int32)), .unset, .unset, .unset] [(.ref sA), (.int (2 : Int32))])) rfl rfl (hb hby d3_21) _ ?_
    rw [len_of So6 No6]
    show Steps p.tables e below (T4.setTop (mkF m 22 #[.val (.ref a1), .val (.ref a2), .val (.int p3), .val (.int p4), .val (.int p5), .val (.int (1 : Int32)), .unset, .unset, .unset] [(.int (256 : Int32)), (.int (2 : Int32))])) _
    refine XS.icmpYes X4.here hx rfl (pc0 := 22) (pc' := 43) rfl (hb hby d3_22) rfl (feq (by decide : ¬ ((2 : Int32) = (256 : Int32)))).2 (by decide) (by decide) ?_
    show Steps p.tables e below (T4.setTop (mkF m 43 #[.val (.ref a1), .val (.ref a2), .val (.int p3), .val (.int p4), .val (.int p5), .val (.int (1 : Int32)), .unset, .unset, .unset] [])) _
    refine XS.aloadN X4.here hx rfl (hb hby d3_43) rfl rfl ?_
    show Steps p.tables e below (T4.setTop (mkF m 44 #[.val (.ref a1), .val (.ref a2), .val (.int p3), .val (.int p4), .val (.int p5), .val (.int (1 : Int32)), .unset, .unset, .unset] [(.ref a1)])) _
    refine st7 _ ?_
    show Steps p.tables e below (T7.setTop (mkF m 47 #[.val (.ref a1), .val (.ref a2), .val (.int p3), .val (.int p4), .val (.int p5), .val (.int (1 : Int32)), .unset, .unset, .unset] [(.ref sA)])) _
    refine XS.iload X7.here hx rfl (hb hby d3_47) rfl ?_
    show Steps p.tables e below (T7.setTop (mkF m 49 #[.val (.ref a1), .val (.ref a2), .val (.int p3), .val (.int p4), .val (.int p5), .val (.int (1 : Int32)), .unset, .unset, .unset] [(.int (1 : Int32)), (.ref sA)])) _
    refine X7.iaload hx (j := (1 : Int32)) (v := (.int x1)) (by rw [e7]; exact Aro8.1) (State.isArrayOf_alike hZ.alike Aro8.2.1) Aro8.2.2 hino8 hato8 (g := (mkF m 49 #[.val (.ref a1), .val (.ref a2), .val (.int p3), .val (.int p4), .val (.int p5), .val (.int (1 : Int32)), .unset, .unset, .unset] [(.int (1 : Int32)), (.ref sA)])) rfl rfl (hb hby d3_49) _ ?_
    show Steps p.tables e below (T7.setTop (mkF m 50 #[.val (.ref a1), .val (.ref a2), .val (.int p3), .val (.int p4), .val (.int p5), .val (.int (1 : Int32)), .unset, .unset, .unset] [(.int x1)])) _
    refine XS.iloadN X7.here hx rfl (hb hby d3_50) rfl ?_
    show Steps p.tables e below (T7.setTop (mkF m 51 #[.val (.ref a1), .val (.ref a2), .val (.int p3), .val (.int p4), .val (.int p5), .val (.int (1 : Int32)), .unset, .unset, .unset] [(.int p4), (.int x1)])) _
    refine XS.iadd X7.here hx rfl (hb hby d3_51) rfl ?_
    show Steps p.tables e below (T7.setTop (mkF m 52 #[.val (.ref a1), .val (.ref a2), .val (.int p3), .val (.int p4), .val (.int p5), .val (.int (1 : Int32)), .unset, .unset, .unset] [(.int (x1 + p4))])) _
    exact kt
  have c11 := (F_bytes.other W2 (Or.inr (slot_ne (Or.inl (hw _ (List.mem_of_getElem? (i := 11) rfl))) (Or.inl (hw _ (List.mem_of_getElem? (i := 24) rfl))) (by decide) (t := (.array .byte)) (t' := .int) (by decide) (by decide))))
  obtain ⟨T12, X12, e12, st12⟩ := getF X7 hx hZ hown (host := "") (Or.inl (hw _ (List.mem_of_getElem? (i := 10) rfl))) Via.refl e7 c11 (g := (mkF m 57 #[.val (.ref a1), .val (.ref a2), .val (.int p3), .val (.int p4), .val (.int p5), .val (.int (1 : Int32)), .val (.int ev9), .unset, .unset] [(.ref a1), (.int ev9)])) rfl rfl (hb hby d3_57)
  have c13 := (V_bA.other W2 (Ne.symm ne_a1_bA))
  obtain ⟨clo14, Aro14, -, So14, No14, -, -⟩ := id c13
  have hk15 : ¬ ((4096 : Int32) < ev9) := by rw [hev9]; exact own_end (own_le hxn (by decide)) hn
  obtain ⟨T16, X16, e16, st16⟩ := getF X12 hx hZ hown (host := "") (Or.inl (hw _ (List.mem_of_getElem? (i := 10) rfl))) Via.refl e12 c11 (g := (mkF m 96 #[.val (.ref a1), .val (.ref a2), .val (.int p3), .val (.int p4), .val (.int p5), .val (.int (1 : Int32)), .val (.int ev9), .unset, .unset] [(.ref a1), (.int p3), (.ref a2)])) rfl rfl (hb hby d3_96)
  obtain ⟨T17, X17, e17, st17⟩ := getF X16 hx hZ hown (host := "") (Or.inl (hw _ (List.mem_of_getElem? (i := 13) rfl))) Via.refl e16 c3 (g := (mkF m 100 #[.val (.ref a1), .val (.ref a2), .val (.int p3), .val (.int p4), .val (.int p5), .val (.int (1 : Int32)), .val (.int ev9), .unset, .unset] [(.ref a1), (.ref bA), (.int p3), (.ref a2)])) rfl rfl (hb hby d3_100)
  obtain ⟨clo18, Aro18, -, So18, No18, Ho18, -⟩ := id c5
  have hino18 : ¬ ((1 : Int32) < 0 ∨ clo18.slots.size ≤ ((1 : Int32)).toNatClampNeg) := inb_of So18 ⟨by decide, by decide⟩
  have hato18 : clo18.slots[((1 : Int32)).toNatClampNeg]? = some (.int x1) := Ho18.at hino18 rfl
  have c19 := (V_a2.other W2 (Ne.symm ne_a1_a2))
  obtain ⟨hx20, hy20⟩ := own_nat (k := 32) (own_le hxn (by decide) : own_in x1 32)
  obtain ⟨hp20, hr20⟩ := own_nat (k := 15) hp
  obtain ⟨hn20, ho20⟩ := own_nat (k := 16) hn
  obtain ⟨T20, h20, L20, X20, e20, N20, kc20, V20, st20⟩ := cpA X17 hx hZ hown (hw _ (List.mem_of_getElem? (i := 25) rfl)) (hw _ (List.mem_of_getElem? (i := 28) rfl)) (hw _ (List.mem_of_getElem? (i := 26) rfl)) (hw _ (List.mem_of_getElem? (i := 27) rfl)) e17 c19 c13 (Or.inl ⟨rfl, rfl⟩) hp20 hx20 hn20 (by show _ ≤ 32; omega) (by show _ ≤ 4096; omega) rfl (by rw [hvb]; omega) N2 g_bA (g := (mkF m 107 #[.val (.ref a1), .val (.ref a2), .val (.int p3), .val (.int p4), .val (.int p5), .val (.int (1 : Int32)), .val (.int ev9), .unset, .unset] [(.int p4), (.int x1), (.ref bA), (.int p3), (.ref a2)])) rfl (by rw [hml]; rfl) rfl (hb hby d3_107) (by decide) (W := 0) (by show 2 * 0 + _ ≤ _; exact Nat.le_of_eq rfl) (by decide)
  have hvc : (vb.take (x1).toNatClampNeg ++ ((List.range p4.toNatClampNeg).map fun i => vs.getD (p3.toNatClampNeg + i) (.int (0 : Int32))) ++ vb.drop ((x1).toNatClampNeg + p4.toNatClampNeg)).length = 4096 := own_cat_len hvb (by simp) (by omega)
  have K20 := K2.trans kc20 (allS (Or.inl (List.mem_of_getElem? (i := 1) rfl)) all0)
  have c21 := (c3.keep kc20 (ninS ne_a1_bA nin0))
  obtain ⟨T22, X22, e22, st22⟩ := getF X20 hx hZ hown (host := "") (Or.inl (hw _ (List.mem_of_getElem? (i := 13) rfl))) Via.refl e20 c21 (g := (mkF m 111 #[.val (.ref a1), .val (.ref a2), .val (.int p3), .val (.int p4), .val (.int p5), .val (.int (1 : Int32)), .val (.int ev9), .unset, .unset] [(.ref a1)])) rfl rfl (hb hby d3_111)
  have c23 := (c5.keep kc20 (ninS (Ne.symm ne_bA_sA) nin0))
  obtain ⟨clo24, Aro24, qo24, So24, No24, Ho24, Go24⟩ := id c23
  have hino24 : ¬ ((2 : Int32) < 0 ∨ clo24.slots.size ≤ ((2 : Int32)).toNatClampNeg) := inb_of So24 ⟨by decide, by decide⟩
  obtain ⟨T25, h25, X25, e25, W25, st25⟩ := stI X22 hx hZ e22 Aro24 (j := (2 : Int32)) hino24 (g := (mkF m 120 #[.val (.ref a1), .val (.ref a2), .val (.int p3), .val (.int p4), .val (.int p5), .val (.int (1 : Int32)), .val (.int ev9), .unset, .unset] [(.int ev9), (.int (2 : Int32)), (.ref sA)])) rfl rfl (hb hby d3_120)
  have V25 : Arv Z h25 sA ks .int (256 : Int32) [(.int (0 : Int32)), (.int x1), (.int ev9), (.int (0 : Int32))] (.int (0 : Int32)) := Arv.set Aro24 qo24 So24 No24 Ho24 Go24 rfl W25 2 rfl (Nat.le_of_ble_eq_true rfl)
  have K25 := K20.wr W25 (Or.inl (List.mem_of_getElem? (i := 2) rfl))
  have N25 := Fr.snoc X25 N20 g_sA
  have c26 := ((Fw2.keep kc20 (ninS ne_a1_bA nin0)).other W25 (Or.inl ne_a1_sA))
  obtain ⟨T27, X27, e27, st27⟩ := getF X25 hx hZ hown (host := "") (Or.inl (hw _ (List.mem_of_getElem? (i := 23) rfl))) Via.refl e25 c26 (g := (mkF m 124 #[.val (.ref a1), .val (.ref a2), .val (.int p3), .val (.int p4), .val (.int p5), .val (.int (1 : Int32)), .val (.int ev9), .unset, .unset] [(.ref a1), (.int (10 : Int32))])) rfl rfl (hb hby d3_124)
  have c28 := (((F_slots.other W2 (Or.inr (slot_ne (Or.inl (hw _ (List.mem_of_getElem? (i := 17) rfl))) (Or.inl (hw _ (List.mem_of_getElem? (i := 24) rfl))) (by decide) (t := (.array .long)) (t' := .int) (by decide) (by decide)))).keep kc20 (ninS ne_a1_bA nin0)).other W25 (Or.inl ne_a1_sA))
  obtain ⟨T29, X29, e29, st29⟩ := getF X27 hx hZ hown (host := "") (Or.inl (hw _ (List.mem_of_getElem? (i := 16) rfl))) Via.refl e27 c28 (g := (mkF m 131 #[.val (.ref a1), .val (.ref a2), .val (.int p3), .val (.int p4), .val (.int p5), .val (.int (1 : Int32)), .val (.int ev9), .unset, .unset] [(.ref a1), (.int (7 : Int32)), (.int (20 : Int32))])) rfl rfl (hb hby d3_131)
  have c30 := (((V_lA.other W2 (Ne.symm ne_a1_lA)).keep kc20 (ninS (Ne.symm ne_bA_lA) nin0)).other W25 (Ne.symm ne_sA_lA))
  obtain ⟨clo31, Aro31, -, So31, No31, -, -⟩ := id c30
  have c33 := ((c19.keep kc20 (ninS ne_a2_bA nin0)).other W25 ne_a2_sA)
  obtain ⟨_, _, ⟨T32, L32, k32, n32⟩, -, X32, ⟨Lc32, hQ32, l32, y32, z32⟩, st32⟩ := Jvm.LawKit.callS X29 hx (y := (⟨"com/example/amherst/amherst/ByteStringTable", "key", "([BII)J"⟩ : MethodName)) hown (mvT hZ (hw _ (List.mem_of_getElem? (i := 29) rfl))) (mvT hZ (hw _ (List.mem_of_getElem? (i := 30) rfl))) (mvT hZ (hw _ (List.mem_of_getElem? (i := 3) rfl))) (mvT hZ (hw _ (List.mem_of_getElem? (i := 31) rfl))) (by decide) (backOf (W := 1) (rm4 l Z a0 hw [] a2 p3 p4 k2 vs h25 n0 (Nat.le_trans Z0 K25.1) c33 hint hp hn) hZ (hw _ (List.mem_of_getElem? (i := 31) rfl)) (hw _ (List.mem_of_getElem? (i := 3) rfl)) (by decide) (by decide)) (g := (mkF m 205 #[.val (.ref a1), .val (.ref a2), .val (.int p3), .val (.int p4), .val (.int p5), .val (.int (1 : Int32)), .val (.int ev9), .unset, .unset] [(.int p4), (.int p3), (.ref a2), (.ref a1)])) rfl (by rw [hml]; rfl) (argsL := [(.ref a2), (.int p3), (.int p4)]) (rest := [(.ref a1)]) (lenOf pd___BII_J rfl) rfl (by show 2 * 0 + _ ≤ _; exact Nat.le_of_eq rfl) (hb hby d3_205) (fun _ _ => ⟨rfl, e29, (by decide : 0 + 0 ≤ _), (by decide : 0 + 0 ≤ _)⟩)
  dsimp only [Pt.U, Pt.locs, Pt.cells, Pt.slots] at X32 l32 y32 z32 st32 hQ32
  subst l32 y32 z32
  obtain ⟨z32, rfl, N32q, hq32⟩ := hQ32
  have N32 := Fr.app N25 N32q
  have E32 : Ext h25 T32.heap := by rw [hq32]; exact ⟨Nat.le_refl _, fun _ _ q => q⟩
  have K32 := K25.ext E32
  have c35 := ((((E_a1.wr W2).keep kc20).wr W25).ext E32)
  have c36 := (c28.ext E32)
  have c37 := (c30.ext E32)
  obtain ⟨cq34, q34, q34'⟩ := c35.cell
  obtain ⟨_, _, ⟨T34, L34, k34, n34⟩, -, X34, ⟨Lc34, hQ34, l34, y34, z34⟩, st34⟩ := X32.privateBack hx (y := (⟨"com/example/amherst/amherst/ByteStringTable", "place", "(JJ)V"⟩ : MethodName)) hown (mvT hZ (hw _ (List.mem_of_getElem? (i := 37) rfl))) (mvT hZ (hw _ (List.mem_of_getElem? (i := 38) rfl))) (own_sel (mvT hZ (hw _ (List.mem_of_getElem? (i := 2) rfl))) (Cond.privateMethod_at (mvP hZ (hw _ (List.mem_of_getElem? (i := 39) rfl)) (args := #[]))) (mvT hZ (hw _ (List.mem_of_getElem? (i := 38) rfl))) (by decide)) (Cond.privateMethod_at (mvP hZ (hw _ (List.mem_of_getElem? (i := 39) rfl)) (args := #[]))) (mvT hZ (hw _ (List.mem_of_getElem? (i := 40) rfl))) (by decide) (backOf (W := 0) (rm6 l Z a0 hw [] a1 z32 ((((1 : Int32).toInt64) <<< ((32 : Int32) &&& 0x3f).toInt64) ||| ((p5.toInt64) &&& (4294967295 : Int64))) lA kl vl 1 T32.heap n0 (Nat.le_trans Z0 K32.1) c35 c36 c37 hlen hlong hocc (by decide) ne_a1_lA g_lA) hZ (hw _ (List.mem_of_getElem? (i := 40) rfl)) (hw _ (List.mem_of_getElem? (i := 3) rfl)) (by decide) (by decide)) (g := (mkF m 222 #[.val (.ref a1), .val (.ref a2), .val (.int p3), .val (.int p4), .val (.int p5), .val (.int (1 : Int32)), .val (.int ev9), .unset, .unset] [(.long ((((1 : Int32).toInt64) <<< ((32 : Int32) &&& 0x3f).toInt64) ||| ((p5.toInt64) &&& (4294967295 : Int64)))), (.long z32), (.ref a1)])) rfl (by rw [hml]; rfl) (Steps.refl _) (a := a1) q34 q34' (argsL := [(.long z32), (.long ((((1 : Int32).toInt64) <<< ((32 : Int32) &&& 0x3f).toInt64) ||| ((p5.toInt64) &&& (4294967295 : Int64))))]) (rest := []) (lenOf pd__JJ_V rfl) rfl (by show 2 * 0 + _ ≤ _; exact Nat.le_of_eq rfl) (hb hby d3_222) (fun _ _ => ⟨rfl, rfl, (by decide : 0 + 0 ≤ _), (by decide : 0 + 0 ≤ _)⟩)
  dsimp only [Pt.U, Pt.locs, Pt.cells, Pt.slots] at X34 l34 y34 z34 st34 hQ34
  subst l34 y34 z34
  obtain ⟨rfl, N34q, kq34, vl34, w134, w234, w334, V34⟩ := hQ34
  have N34 := Fr.app N32 N34q
  have K34 := K32.trans kq34 (allS (Or.inl (List.mem_of_getElem? (i := 3) rfl)) all0)
  have c38 := ((c26.ext E32).keep kq34 (ninS ne_a1_lA nin0))
  have c39 := ((((c11.keep kc20 (ninS ne_a1_bA nin0)).other W25 (Or.inl ne_a1_sA)).ext E32).keep kq34 (ninS ne_a1_lA nin0))
  have c40 := (((c21.other W25 (Or.inl ne_a1_sA)).ext E32).keep kq34 (ninS ne_a1_lA nin0))
  have c41 := (c36.keep kq34 (ninS ne_a1_lA nin0))
  have c42 := (((V20.other W25 ne_bA_sA).ext E32).keep kq34 (ninS ne_bA_lA nin0))
  have c43 := ((V25.ext E32).keep kq34 (ninS ne_sA_lA nin0))
  rw [hev9] at c43
  obtain ⟨fs, hr, hrun, hended, hW, hsame⟩ := X34.leave (v := some (.int (1 : Int32))) (fun h => by rw [Bd.returns] at h; cases h)
  refine ⟨_, _, pre10 _ ?_, hrun, hended, _, _, rfl, ?_, ⟨_, rfl⟩, hW, hsame.mono (by decide) (by decide)⟩
  ·
    show Steps p.tables e below (T7.setTop (mkF m 52 #[.val (.ref a1), .val (.ref a2), .val (.int p3), .val (.int p4), .val (.int p5), .val (.int (1 : Int32)), .unset, .unset, .unset] [(.int ev9)])) _
    refine XS.istore X7.here hx rfl (hb hby d3_52) rfl (l' := #[.val (.ref a1), .val (.ref a2), .val (.int p3), .val (.int p4), .val (.int p5), .val (.int (1 : Int32)), .val (.int ev9), .unset, .unset]) rfl ?_
    show Steps p.tables e below (T7.setTop (mkF m 54 #[.val (.ref a1), .val (.ref a2), .val (.int p3), .val (.int p4), .val (.int p5), .val (.int (1 : Int32)), .val (.int ev9), .unset, .unset] [])) _
    refine XS.iload X7.here hx rfl (hb hby d3_54) rfl ?_
    show Steps p.tables e below (T7.setTop (mkF m 56 #[.val (.ref a1), .val (.ref a2), .val (.int p3), .val (.int p4), .val (.int p5), .val (.int (1 : Int32)), .val (.int ev9), .unset, .unset] [(.int ev9)])) _
    refine XS.aloadN X7.here hx rfl (hb hby d3_56) rfl rfl ?_
    show Steps p.tables e below (T7.setTop (mkF m 57 #[.val (.ref a1), .val (.ref a2), .val (.int p3), .val (.int p4), .val (.int p5), .val (.int (1 : Int32)), .val (.int ev9), .unset, .unset] [(.ref a1), (.int ev9)])) _
    refine st12 _ ?_
    show Steps p.tables e below (T12.setTop (mkF m 60 #[.val (.ref a1), .val (.ref a2), .val (.int p3), .val (.int p4), .val (.int p5), .val (.int (1 : Int32)), .val (.int ev9), .unset, .unset] [(.ref bA), (.int ev9)])) _
    refine X12.arraylength hx (by rw [e12]; exact Aro14.1) (State.isArrayOf_alike hZ.alike Aro14.2.1) (g := (mkF m 60 #[.val (.ref a1), .val (.ref a2), .val (.int p3), .val (.int p4), .val (.int p5), .val (.int (1 : Int32)), .val (.int ev9), .unset, .unset] [(.ref bA), (.int ev9)])) rfl rfl (hb hby d3_60) _ ?_
    rw [len_of So14 No14]
    show Steps p.tables e below (T12.setTop (mkF m 61 #[.val (.ref a1), .val (.ref a2), .val (.int p3), .val (.int p4), .val (.int p5), .val (.int (1 : Int32)), .val (.int ev9), .unset, .unset] [(.int (4096 : Int32)), (.int ev9)])) _
    refine XS.icmpYes X12.here hx rfl (pc0 := 61) (pc' := 93) rfl (hb hby d3_61) rfl (flt hk15).2.2.2 (by decide) (by decide) ?_
    show Steps p.tables e below (T12.setTop (mkF m 93 #[.val (.ref a1), .val (.ref a2), .val (.int p3), .val (.int p4), .val (.int p5), .val (.int (1 : Int32)), .val (.int ev9), .unset, .unset] [])) _
    refine XS.aloadN X12.here hx rfl (hb hby d3_93) rfl rfl ?_
    show Steps p.tables e below (T12.setTop (mkF m 94 #[.val (.ref a1), .val (.ref a2), .val (.int p3), .val (.int p4), .val (.int p5), .val (.int (1 : Int32)), .val (.int ev9), .unset, .unset] [(.ref a2)])) _
    refine XS.iloadN X12.here hx rfl (hb hby d3_94) rfl ?_
    show Steps p.tables e below (T12.setTop (mkF m 95 #[.val (.ref a1), .val (.ref a2), .val (.int p3), .val (.int p4), .val (.int p5), .val (.int (1 : Int32)), .val (.int ev9), .unset, .unset] [(.int p3), (.ref a2)])) _
    refine XS.aloadN X12.here hx rfl (hb hby d3_95) rfl rfl ?_
    show Steps p.tables e below (T12.setTop (mkF m 96 #[.val (.ref a1), .val (.ref a2), .val (.int p3), .val (.int p4), .val (.int p5), .val (.int (1 : Int32)), .val (.int ev9), .unset, .unset] [(.ref a1), (.int p3), (.ref a2)])) _
    refine st16 _ ?_
    show Steps p.tables e below (T16.setTop (mkF m 99 #[.val (.ref a1), .val (.ref a2), .val (.int p3), .val (.int p4), .val (.int p5), .val (.int (1 : Int32)), .val (.int ev9), .unset, .unset] [(.ref bA), (.int p3), (.ref a2)])) _
    refine XS.aloadN X16.here hx rfl (hb hby d3_99) rfl rfl ?_
    show Steps p.tables e below (T16.setTop (mkF m 100 #[.val (.ref a1), .val (.ref a2), .val (.int p3), .val (.int p4), .val (.int p5), .val (.int (1 : Int32)), .val (.int ev9), .unset, .unset] [(.ref a1), (.ref bA), (.int p3), (.ref a2)])) _
    refine st17 _ ?_
    show Steps p.tables e below (T17.setTop (mkF m 103 #[.val (.ref a1), .val (.ref a2), .val (.int p3), .val (.int p4), .val (.int p5), .val (.int (1 : Int32)), .val (.int ev9), .unset, .unset] [(.ref sA), (.ref bA), (.int p3), (.ref a2)])) _
    refine XS.iload X17.here hx rfl (hb hby d3_103) rfl ?_
    show Steps p.tables e below (T17.setTop (mkF m 105 #[.val (.ref a1), .val (.ref a2), .val (.int p3), .val (.int p4), .val (.int p5), .val (.int (1 : Int32)), .val (.int ev9), .unset, .unset] [(.int (1 : Int32)), (.ref sA), (.ref bA), (.int p3), (.ref a2)])) _
    refine X17.iaload hx (j := (1 : Int32)) (v := (.int x1)) (by rw [e17]; exact Aro18.1) (State.isArrayOf_alike hZ.alike Aro18.2.1) Aro18.2.2 hino18 hato18 (g := (mkF m 105 #[.val (.ref a1), .val (.ref a2), .val (.int p3), .val (.int p4), .val (.int p5), .val (.int (1 : Int32)), .val (.int ev9), .unset, .unset] [(.int (1 : Int32)), (.ref sA), (.ref bA), (.int p3), (.ref a2)])) rfl rfl (hb hby d3_105) _ ?_
    show Steps p.tables e below (T17.setTop (mkF m 106 #[.val (.ref a1), .val (.ref a2), .val (.int p3), .val (.int p4), .val (.int p5), .val (.int (1 : Int32)), .val (.int ev9), .unset, .unset] [(.int x1), (.ref bA), (.int p3), (.ref a2)])) _
    refine XS.iloadN X17.here hx rfl (hb hby d3_106) rfl ?_
    show Steps p.tables e below (T17.setTop (mkF m 107 #[.val (.ref a1), .val (.ref a2), .val (.int p3), .val (.int p4), .val (.int p5), .val (.int (1 : Int32)), .val (.int ev9), .unset, .unset] [(.int p4), (.int x1), (.ref bA), (.int p3), (.ref a2)])) _
    refine st20 _ ?_
    show Steps p.tables e below (T20.setTop (mkF m 110 #[.val (.ref a1), .val (.ref a2), .val (.int p3), .val (.int p4), .val (.int p5), .val (.int (1 : Int32)), .val (.int ev9), .unset, .unset] [])) _
    refine XS.aloadN X20.here hx rfl (hb hby d3_110) rfl rfl ?_
    show Steps p.tables e below (T20.setTop (mkF m 111 #[.val (.ref a1), .val (.ref a2), .val (.int p3), .val (.int p4), .val (.int p5), .val (.int (1 : Int32)), .val (.int ev9), .unset, .unset] [(.ref a1)])) _
    refine st22 _ ?_
    show Steps p.tables e below (T22.setTop (mkF m 114 #[.val (.ref a1), .val (.ref a2), .val (.int p3), .val (.int p4), .val (.int p5), .val (.int (1 : Int32)), .val (.int ev9), .unset, .unset] [(.ref sA)])) _
    refine XS.iload X22.here hx rfl (hb hby d3_114) rfl ?_
    show Steps p.tables e below (T22.setTop (mkF m 116 #[.val (.ref a1), .val (.ref a2), .val (.int p3), .val (.int p4), .val (.int p5), .val (.int (1 : Int32)), .val (.int ev9), .unset, .unset] [(.int (1 : Int32)), (.ref sA)])) _
    refine XS.iconst X22.here hx rfl (hb hby d3_116) ?_
    show Steps p.tables e below (T22.setTop (mkF m 117 #[.val (.ref a1), .val (.ref a2), .val (.int p3), .val (.int p4), .val (.int p5), .val (.int (1 : Int32)), .val (.int ev9), .unset, .unset] [(.int (1 : Int32)), (.int (1 : Int32)), (.ref sA)])) _
    refine XS.iadd X22.here hx rfl (hb hby d3_117) rfl ?_
    show Steps p.tables e below (T22.setTop (mkF m 118 #[.val (.ref a1), .val (.ref a2), .val (.int p3), .val (.int p4), .val (.int p5), .val (.int (1 : Int32)), .val (.int ev9), .unset, .unset] [(.int (2 : Int32)), (.ref sA)])) _
    refine XS.iload X22.here hx rfl (hb hby d3_118) rfl ?_
    show Steps p.tables e below (T22.setTop (mkF m 120 #[.val (.ref a1), .val (.ref a2), .val (.int p3), .val (.int p4), .val (.int p5), .val (.int (1 : Int32)), .val (.int ev9), .unset, .unset] [(.int ev9), (.int (2 : Int32)), (.ref sA)])) _
    refine st25 _ ?_
    show Steps p.tables e below (T25.setTop (mkF m 121 #[.val (.ref a1), .val (.ref a2), .val (.int p3), .val (.int p4), .val (.int p5), .val (.int (1 : Int32)), .val (.int ev9), .unset, .unset] [])) _
    refine XS.bipush X25.here hx rfl (hb hby d3_121) ?_
    show Steps p.tables e below (T25.setTop (mkF m 123 #[.val (.ref a1), .val (.ref a2), .val (.int p3), .val (.int p4), .val (.int p5), .val (.int (1 : Int32)), .val (.int ev9), .unset, .unset] [(.int (10 : Int32))])) _
    refine XS.aloadN X25.here hx rfl (hb hby d3_123) rfl rfl ?_
    show Steps p.tables e below (T25.setTop (mkF m 124 #[.val (.ref a1), .val (.ref a2), .val (.int p3), .val (.int p4), .val (.int p5), .val (.int (1 : Int32)), .val (.int ev9), .unset, .unset] [(.ref a1), (.int (10 : Int32))])) _
    refine st27 _ ?_
    show Steps p.tables e below (T27.setTop (mkF m 127 #[.val (.ref a1), .val (.ref a2), .val (.int p3), .val (.int p4), .val (.int p5), .val (.int (1 : Int32)), .val (.int ev9), .unset, .unset] [(.int (2 : Int32)), (.int (10 : Int32))])) _
    refine XS.imul X27.here hx rfl (hb hby d3_127) rfl ?_
    show Steps p.tables e below (T27.setTop (mkF m 128 #[.val (.ref a1), .val (.ref a2), .val (.int p3), .val (.int p4), .val (.int p5), .val (.int (1 : Int32)), .val (.int ev9), .unset, .unset] [(.int (20 : Int32))])) _
    refine XS.bipush X27.here hx rfl (hb hby d3_128) ?_
    show Steps p.tables e below (T27.setTop (mkF m 130 #[.val (.ref a1), .val (.ref a2), .val (.int p3), .val (.int p4), .val (.int p5), .val (.int (1 : Int32)), .val (.int ev9), .unset, .unset] [(.int (7 : Int32)), (.int (20 : Int32))])) _
    refine XS.aloadN X27.here hx rfl (hb hby d3_130) rfl rfl ?_
    show Steps p.tables e below (T27.setTop (mkF m 131 #[.val (.ref a1), .val (.ref a2), .val (.int p3), .val (.int p4), .val (.int p5), .val (.int (1 : Int32)), .val (.int ev9), .unset, .unset] [(.ref a1), (.int (7 : Int32)), (.int (20 : Int32))])) _
    refine st29 _ ?_
    show Steps p.tables e below (T29.setTop (mkF m 134 #[.val (.ref a1), .val (.ref a2), .val (.int p3), .val (.int p4), .val (.int p5), .val (.int (1 : Int32)), .val (.int ev9), .unset, .unset] [(.ref lA), (.int (7 : Int32)), (.int (20 : Int32))])) _
    refine X29.arraylength hx (by rw [e29]; exact Aro31.1) (State.isArrayOf_alike hZ.alike Aro31.2.1) (g := (mkF m 134 #[.val (.ref a1), .val (.ref a2), .val (.int p3), .val (.int p4), .val (.int p5), .val (.int (1 : Int32)), .val (.int ev9), .unset, .unset] [(.ref lA), (.int (7 : Int32)), (.int (20 : Int32))])) rfl rfl (hb hby d3_134) _ ?_
    rw [len_of So31 No31]
    show Steps p.tables e below (T29.setTop (mkF m 135 #[.val (.ref a1), .val (.ref a2), .val (.int p3), .val (.int p4), .val (.int p5), .val (.int (1 : Int32)), .val (.int ev9), .unset, .unset] [(.int (1024 : Int32)), (.int (7 : Int32)), (.int (20 : Int32))])) _
    refine XS.iconst X29.here hx rfl (hb hby d3_135) ?_
    show Steps p.tables e below (T29.setTop (mkF m 136 #[.val (.ref a1), .val (.ref a2), .val (.int p3), .val (.int p4), .val (.int p5), .val (.int (1 : Int32)), .val (.int ev9), .unset, .unset] [(.int (2 : Int32)), (.int (1024 : Int32)), (.int (7 : Int32)), (.int (20 : Int32))])) _
    refine XS.idiv X29.here hx rfl (hb hby d3_136) rfl (by decide) ?_
    show Steps p.tables e below (T29.setTop (mkF m 137 #[.val (.ref a1), .val (.ref a2), .val (.int p3), .val (.int p4), .val (.int p5), .val (.int (1 : Int32)), .val (.int ev9), .unset, .unset] [(.int (512 : Int32)), (.int (7 : Int32)), (.int (20 : Int32))])) _
    refine XS.imul X29.here hx rfl (hb hby d3_137) rfl ?_
    show Steps p.tables e below (T29.setTop (mkF m 138 #[.val (.ref a1), .val (.ref a2), .val (.int p3), .val (.int p4), .val (.int p5), .val (.int (1 : Int32)), .val (.int ev9), .unset, .unset] [(.int (3584 : Int32)), (.int (20 : Int32))])) _
    refine XS.icmpYes X29.here hx rfl (pc0 := 138) (pc' := 201) rfl (hb hby d3_138) rfl (flt (by decide : ¬ ((3584 : Int32) < (20 : Int32)))).2.2.2 (by decide) (by decide) ?_
    show Steps p.tables e below (T29.setTop (mkF m 201 #[.val (.ref a1), .val (.ref a2), .val (.int p3), .val (.int p4), .val (.int p5), .val (.int (1 : Int32)), .val (.int ev9), .unset, .unset] [])) _
    refine XS.aloadN X29.here hx rfl (hb hby d3_201) rfl rfl ?_
    show Steps p.tables e below (T29.setTop (mkF m 202 #[.val (.ref a1), .val (.ref a2), .val (.int p3), .val (.int p4), .val (.int p5), .val (.int (1 : Int32)), .val (.int ev9), .unset, .unset] [(.ref a1)])) _
    refine XS.aloadN X29.here hx rfl (hb hby d3_202) rfl rfl ?_
    show Steps p.tables e below (T29.setTop (mkF m 203 #[.val (.ref a1), .val (.ref a2), .val (.int p3), .val (.int p4), .val (.int p5), .val (.int (1 : Int32)), .val (.int ev9), .unset, .unset] [(.ref a2), (.ref a1)])) _
    refine XS.iloadN X29.here hx rfl (hb hby d3_203) rfl ?_
    show Steps p.tables e below (T29.setTop (mkF m 204 #[.val (.ref a1), .val (.ref a2), .val (.int p3), .val (.int p4), .val (.int p5), .val (.int (1 : Int32)), .val (.int ev9), .unset, .unset] [(.int p3), (.ref a2), (.ref a1)])) _
    refine XS.iloadN X29.here hx rfl (hb hby d3_204) rfl ?_
    show Steps p.tables e below (T29.setTop (mkF m 205 #[.val (.ref a1), .val (.ref a2), .val (.int p3), .val (.int p4), .val (.int p5), .val (.int (1 : Int32)), .val (.int ev9), .unset, .unset] [(.int p4), (.int p3), (.ref a2), (.ref a1)])) _
    refine st32 _ ?_
    show Steps p.tables e below (T32.setTop (mkF m 208 #[.val (.ref a1), .val (.ref a2), .val (.int p3), .val (.int p4), .val (.int p5), .val (.int (1 : Int32)), .val (.int ev9), .unset, .unset] [(.long z32), (.ref a1)])) _
    refine XS.iload X32.here hx rfl (hb hby d3_208) rfl ?_
    show Steps p.tables e below (T32.setTop (mkF m 210 #[.val (.ref a1), .val (.ref a2), .val (.int p3), .val (.int p4), .val (.int p5), .val (.int (1 : Int32)), .val (.int ev9), .unset, .unset] [(.int (1 : Int32)), (.long z32), (.ref a1)])) _
    refine XS.i2l X32.here hx rfl (hb hby d3_210) rfl ?_
    show Steps p.tables e below (T32.setTop (mkF m 211 #[.val (.ref a1), .val (.ref a2), .val (.int p3), .val (.int p4), .val (.int p5), .val (.int (1 : Int32)), .val (.int ev9), .unset, .unset] [(.long ((1 : Int32).toInt64)), (.long z32), (.ref a1)])) _
    refine XS.bipush X32.here hx rfl (hb hby d3_211) ?_
    show Steps p.tables e below (T32.setTop (mkF m 213 #[.val (.ref a1), .val (.ref a2), .val (.int p3), .val (.int p4), .val (.int p5), .val (.int (1 : Int32)), .val (.int ev9), .unset, .unset] [(.int (32 : Int32)), (.long ((1 : Int32).toInt64)), (.long z32), (.ref a1)])) _
    refine XS.lshl X32.here hx rfl (hb hby d3_213) rfl ?_
    show Steps p.tables e below (T32.setTop (mkF m 214 #[.val (.ref a1), .val (.ref a2), .val (.int p3), .val (.int p4), .val (.int p5), .val (.int (1 : Int32)), .val (.int ev9), .unset, .unset] [(.long (((1 : Int32).toInt64) <<< ((32 : Int32) &&& 0x3f).toInt64)), (.long z32), (.ref a1)])) _
    refine XS.iload X32.here hx rfl (hb hby d3_214) rfl ?_
    show Steps p.tables e below (T32.setTop (mkF m 216 #[.val (.ref a1), .val (.ref a2), .val (.int p3), .val (.int p4), .val (.int p5), .val (.int (1 : Int32)), .val (.int ev9), .unset, .unset] [(.int p5), (.long (((1 : Int32).toInt64) <<< ((32 : Int32) &&& 0x3f).toInt64)), (.long z32), (.ref a1)])) _
    refine XS.i2l X32.here hx rfl (hb hby d3_216) rfl ?_
    show Steps p.tables e below (T32.setTop (mkF m 217 #[.val (.ref a1), .val (.ref a2), .val (.int p3), .val (.int p4), .val (.int p5), .val (.int (1 : Int32)), .val (.int ev9), .unset, .unset] [(.long (p5.toInt64)), (.long (((1 : Int32).toInt64) <<< ((32 : Int32) &&& 0x3f).toInt64)), (.long z32), (.ref a1)])) _
    refine X32.ldc2Long hx hown (mvT hZ (hw _ (List.mem_of_getElem? (i := 36) rfl))) (g := (mkF m 217 #[.val (.ref a1), .val (.ref a2), .val (.int p3), .val (.int p4), .val (.int p5), .val (.int (1 : Int32)), .val (.int ev9), .unset, .unset] [(.long (p5.toInt64)), (.long (((1 : Int32).toInt64) <<< ((32 : Int32) &&& 0x3f).toInt64)), (.long z32), (.ref a1)])) rfl (hb hby d3_217) _ ?_
    show Steps p.tables e below (T32.setTop (mkF m 220 #[.val (.ref a1), .val (.ref a2), .val (.int p3), .val (.int p4), .val (.int p5), .val (.int (1 : Int32)), .val (.int ev9), .unset, .unset] [(.long (4294967295 : Int64)), (.long (p5.toInt64)), (.long (((1 : Int32).toInt64) <<< ((32 : Int32) &&& 0x3f).toInt64)), (.long z32), (.ref a1)])) _
    refine XS.land X32.here hx rfl (hb hby d3_220) rfl ?_
    show Steps p.tables e below (T32.setTop (mkF m 221 #[.val (.ref a1), .val (.ref a2), .val (.int p3), .val (.int p4), .val (.int p5), .val (.int (1 : Int32)), .val (.int ev9), .unset, .unset] [(.long ((p5.toInt64) &&& (4294967295 : Int64))), (.long (((1 : Int32).toInt64) <<< ((32 : Int32) &&& 0x3f).toInt64)), (.long z32), (.ref a1)])) _
    refine XS.lor X32.here hx rfl (hb hby d3_221) rfl ?_
    show Steps p.tables e below (T32.setTop (mkF m 222 #[.val (.ref a1), .val (.ref a2), .val (.int p3), .val (.int p4), .val (.int p5), .val (.int (1 : Int32)), .val (.int ev9), .unset, .unset] [(.long ((((1 : Int32).toInt64) <<< ((32 : Int32) &&& 0x3f).toInt64) ||| ((p5.toInt64) &&& (4294967295 : Int64)))), (.long z32), (.ref a1)])) _
    refine st34.trans ?_
    show Steps p.tables e below (T34.setTop (mkF m 225 #[.val (.ref a1), .val (.ref a2), .val (.int p3), .val (.int p4), .val (.int p5), .val (.int (1 : Int32)), .val (.int ev9), .unset, .unset] [])) _
    refine XS.iload X34.here hx rfl (hb hby d3_225) rfl ?_
    show Steps p.tables e below (T34.setTop (mkF m 227 #[.val (.ref a1), .val (.ref a2), .val (.int p3), .val (.int p4), .val (.int p5), .val (.int (1 : Int32)), .val (.int ev9), .unset, .unset] [(.int (1 : Int32))])) _
    exact retI X34 hx Bd.returns (hb hby d3_227) hr
  ·
    show Qad1 Z a1 a2 p3 p4 p5 bA sA lA kb ks kl k2 vb vl vs x1 h0 n0 _ T34.heap _
    exact ⟨rfl, N34, K34, c38, c39, c40, c41, ⟨_, hvc, c42⟩, c43, ⟨_, w134, w234, w334, V34⟩⟩
theorem ef_ad2 (m : MethodId) (a1 : Addr) (a2 : Addr) (p3 : Int32) (p4 : Int32) (p5 : Int32) : entryFrame m #[(.ref a1), (.ref a2), (.int p3), (.int p4), (.int p5)] 9 = (mkF m 0 #[.val (.ref a1), .val (.ref a2), .val (.int p3), .val (.int p4), .val (.int p5), .unset, .unset, .unset, .unset] []) := by first | (simp [entryFrame, mkF, argsToLocals, Value.category]; done) | rfl
def Qad2 (Z : State) (a1 : Addr) (a2 : Addr) (p3 : Int32) (p4 : Int32) (p5 : Int32) (bA : Addr) (sA : Addr) (lA : Addr) (kb : ClassId) (ks : ClassId) (kl : ClassId) (k2 : ClassId) (vb : List Value) (vl : List Value) (vs : List Value) (x1 : Int32) (x2 : Int32) (h0 : Heap) (n0 : Nat) (v : Option Value) (h : Heap) (L : List Loc) : Prop := v = some (.int (2 : Int32)) ∧ Fr n0 L ∧ Keep h0 h [a1, bA, sA, lA] ∧ Fld Z h a1 "com/example/amherst/amherst/ByteStringTable" "size" "I" (.int (3 : Int32)) ∧ Fld Z h a1 "com/example/amherst/amherst/ByteStringTable" "bytes" "[B" (.ref bA) ∧ Fld Z h a1 "com/example/amherst/amherst/ByteStringTable" "starts" "[I" (.ref sA) ∧ Fld Z h a1 "com/example/amherst/amherst/ByteStringTable" "slots" "[J" (.ref lA) ∧ (∃ vb' : List Value, vb'.length = 4096 ∧ Arv Z h bA kb .byte 4096 vb' (.int (0 : Int32))) ∧ Arv Z h sA ks .int 256 [(.int (0 : Int32)), (.int x1), (.int x2), (.int (x2 + p4))] (.int (0 : Int32)) ∧ (∃ vl' : List Value, vl'.length = 1024 ∧ own_longs vl' ∧ own_occ 3 vl' ∧ Arv Z h lA kl .long 1024 vl' (.long (0 : Int64)))
set_option maxRecDepth 65536 in
set_option maxHeartbeats 40000000 in
theorem ad2 (l : Launch) (Z : State) (a0 : Array Value) (hw : ∀ d ∈ tables_1, d.before a0 Z = true) (ws : List Jvm.Cond) (a1 : Addr) (a2 : Addr) (p3 : Int32) (p4 : Int32) (p5 : Int32) (bA : Addr) (sA : Addr) (lA : Addr) (kb : ClassId) (ks : ClassId) (kl : ClassId) (k2 : ClassId) (vb : List Value) (vl : List Value) (vs : List Value) (x1 : Int32) (x2 : Int32) (h0 : Heap) (n0 : Nat) (Z0 : n0 ≤ h0.size) (E_a1 : Exa Z h0 a1 "com/example/amherst/amherst/ByteStringTable") (F_bytes : Fld Z h0 a1 "com/example/amherst/amherst/ByteStringTable" "bytes" "[B" (.ref bA)) (F_starts : Fld Z h0 a1 "com/example/amherst/amherst/ByteStringTable" "starts" "[I" (.ref sA)) (F_slots : Fld Z h0 a1 "com/example/amherst/amherst/ByteStringTable" "slots" "[J" (.ref lA)) (F_size : Fld Z h0 a1 "com/example/amherst/amherst/ByteStringTable" "size" "I" (.int (2 : Int32))) (V_bA : Arv Z h0 bA kb .byte 4096 vb (.int (0 : Int32))) (V_sA : Arv Z h0 sA ks .int 256 [(.int (0 : Int32)), (.int x1), (.int x2), (.int (0 : Int32))] (.int (0 : Int32))) (V_lA : Arv Z h0 lA kl .long 1024 vl (.long (0 : Int64))) (V_a2 : Arv Z h0 a2 k2 .byte 32 vs (.int (0 : Int32))) (hvb : vb.length = 4096) (hlen : vl.length = 1024) (hlong : own_longs vl) (hocc : own_occ 2 vl) (hint : own_ints vs) (hp : own_in p3 15) (hn : own_in p4 16) (hxn : own_in x2 32) (ne_a1_a2 : a1 ≠ a2) (ne_a1_bA : a1 ≠ bA) (ne_a1_sA : a1 ≠ sA) (ne_a1_lA : a1 ≠ lA) (ne_a2_bA : a2 ≠ bA) (ne_a2_sA : a2 ≠ sA) (ne_a2_lA : a2 ≠ lA) (ne_bA_sA : bA ≠ sA) (ne_bA_lA : bA ≠ lA) (ne_sA_lA : sA ≠ lA) (g_a1 : n0 ≤ a1) (g_bA : n0 ≤ bA) (g_sA : n0 ≤ sA) (g_lA : n0 ≤ lA) :
    MetFree l (⟨"com/example/amherst/amherst/ByteStringTable", "add", "([BIII)I"⟩ : MethodName) (head1 (Jvm.Cond.code (⟨"com/example/amherst/amherst/ByteStringTable", "add", "([BIII)I"⟩ : MethodName) prog_4_method_4_code 9 (some .int) :: ws) ({ frames := 2, cells := 0, slots := 0, locals := 40 } : Room)) (fun a U => a = #[(.ref a1), (.ref a2), (.int p3), (.int p4), (.int p5)] ∧ Z.Warmed39 U.vm ∧ U.heap = h0) (fun _ _ _ _ _ => True) (fun _ U o U' => ∃ v L, o = .returned v ∧ Qad2 Z a1 a2 p3 p4 p5 bA sA lA kb ks kl k2 vb vl vs x1 x2 h0 n0 v U'.heap L ∧ FrameEnd U o U' L ({ frames := 2, cells := 0, slots := 0, locals := 40 } : Room).cells ({ frames := 2, cells := 0, slots := 0, locals := 40 } : Room).slots) := by
  refine MetFree.of_bodySF (plainFor_of_name pn_3) hisR ?_
  intro p e s m args below meth c s₁ Bd hml0 hP hK
  obtain ⟨rfl, hZ, hh⟩ := hP
  have hx := Bd.exec
  have hby := Bd.bytes
  have hml : c.maxLocals = 9 := hml0
  have hown : s.vm.findClass "com/example/amherst/amherst/ByteStringTable" = some m.cls := findClass_of_methodNamed Bd.named
  have hnm := (name_of_methodNamed Bd.named Bd.method).1
  have X0 : Stand p l e ({ frames := 2, cells := 0, slots := 0, locals := 40 } : Room) s m #[(.ref a1), (.ref a2), (.int p3), (.int p4), (.int p5)] below meth c s₁ [] 0 0 := Stand.of_body Bd
  have e0 : s₁.heap = h0 := by rw [← hh, Bd.state]; rfl
  have N0 := Fr.nil n0
  have K0 := Keep.refl h0 ([a1, bA, sA, lA] : List Addr)
  have pre0 : ∀ t, Steps p.tables e below (s₁.setTop (mkF m 0 #[.val (.ref a1), .val (.ref a2), .val (.int p3), .val (.int p4), .val (.int p5), .unset, .unset, .unset, .unset] [])) t → Steps p.tables e below (s₁.setTop (entryFrame m #[(.ref a1), (.ref a2), (.int p3), (.int p4), (.int p5)] 9)) t := fun t k => castTop (ef_ad2 m a1 a2 p3 p4 p5) k
  obtain ⟨T1, X1, e1, st1⟩ := getF X0 hx hZ hown (host := "") (Or.inl (hw _ (List.mem_of_getElem? (i := 23) rfl))) Via.refl e0 F_size (g := (mkF m 2 #[.val (.ref a1), .val (.ref a2), .val (.int p3), .val (.int p4), .val (.int p5), .unset, .unset, .unset, .unset] [(.ref a1), (.ref a1)])) rfl rfl (hb hby d3_2)
  obtain ⟨T2, h2, X2, e2, W2, st2⟩ := putF X1 hx hZ hown (host := "") (Or.inl (hw _ (List.mem_of_getElem? (i := 23) rfl))) Via.refl e1 F_size E_a1 (Or.inl (hw _ (List.mem_of_getElem? (i := 24) rfl))) (hw _ (List.mem_of_getElem? (i := 2) rfl)) (ty := .int) (by decide) rfl rfl (g := (mkF m 8 #[.val (.ref a1), .val (.ref a2), .val (.int p3), .val (.int p4), .val (.int p5), .unset, .unset, .unset, .unset] [(.int (3 : Int32)), (.ref a1), (.int (2 : Int32))])) rfl rfl (hb hby d3_8)
  have Fw2 := F_size.same W2
  have K2 := K0.wr W2 (Or.inl (List.mem_of_getElem? (i := 0) rfl))
  have N2 := Fr.snoc X2 N0 g_a1
  have c3 := (F_starts.other W2 (Or.inr (slot_ne (Or.inl (hw _ (List.mem_of_getElem? (i := 14) rfl))) (Or.inl (hw _ (List.mem_of_getElem? (i := 24) rfl))) (by decide) (t := (.array .int)) (t' := .int) (by decide) (by decide))))
  obtain ⟨T4, X4, e4, st4⟩ := getF X2 hx hZ hown (host := "") (Or.inl (hw _ (List.mem_of_getElem? (i := 13) rfl))) Via.refl e2 c3 (g := (mkF m 18 #[.val (.ref a1), .val (.ref a2), .val (.int p3), .val (.int p4), .val (.int p5), .val (.int (2 : Int32)), .unset, .unset, .unset] [(.ref a1), (.int (3 : Int32))])) rfl rfl (hb hby d3_18)
  have c5 := (V_sA.other W2 (Ne.symm ne_a1_sA))
  obtain ⟨clo6, Aro6, -, So6, No6, -, -⟩ := id c5
  obtain ⟨T7, X7, e7, st7⟩ := getF X4 hx hZ hown (host := "") (Or.inl (hw _ (List.mem_of_getElem? (i := 13) rfl))) Via.refl e4 c3 (g := (mkF m 44 #[.val (.ref a1), .val (.ref a2), .val (.int p3), .val (.int p4), .val (.int p5), .val (.int (2 : Int32)), .unset, .unset, .unset] [(.ref a1)])) rfl rfl (hb hby d3_44)
  obtain ⟨clo8, Aro8, -, So8, No8, Ho8, -⟩ := id c5
  have hino8 : ¬ ((2 : Int32) < 0 ∨ clo8.slots.size ≤ ((2 : Int32)).toNatClampNeg) := inb_of So8 ⟨by decide, by decide⟩
  have hato8 : clo8.slots[((2 : Int32)).toNatClampNeg]? = some (.int x2) := Ho8.at hino8 rfl
  obtain ⟨ev9, hev9⟩ : ∃ z, z = (x2 + p4) := ⟨_, rfl⟩
  have pre10 : ∀ t, Steps p.tables e below (T7.setTop (mkF m 52 #[.val (.ref a1), .val (.ref a2), .val (.int p3), .val (.int p4), .val (.int p5), .val (.int (2 : Int32)), .unset, .unset, .unset] [(.int ev9)])) t → Steps p.tables e below (s₁.setTop (entryFrame m #[(.ref a1), (.ref a2), (.int p3), (.int p4), (.int p5)] 9)) t := by
    intro t kt
    rw [hev9] at kt
    refine pre0 _ ?_
    show Steps p.tables e below (s₁.setTop (mkF m 0 #[.val (.ref a1), .val (.ref a2), .val (.int p3), .val (.int p4), .val (.int p5), .unset, .unset, .unset, .unset] [])) _
    refine XS.aloadN X0.here hx rfl (hb hby d3_0) rfl rfl ?_
    show Steps p.tables e below (s₁.setTop (mkF m 1 #[.val (.ref a1), .val (.ref a2), .val (.int p3), .val (.int p4), .val (.int p5), .unset, .unset, .unset, .unset] [(.ref a1)])) _
    refine XS.dup X0.here hx rfl (hb hby d3_1) rfl rfl ?_
    show Steps p.tables e below (s₁.setTop (mkF m 2 #[.val (.ref a1), .val (.ref a2), .val (.int p3), .val (.int p4), .val (.int p5), .unset, .unset, .unset, .unset] [(.ref a1), (.ref a1)])) _
    refine st1 _ ?_
    show Steps p.tables e below (T1.setTop (mkF m 5 #[.val (.ref a1), .val (.ref a2), .val (.int p3), .val (.int p4), .val (.int p5), .unset, .unset, .unset, .unset] [(.int (2 : Int32)), (.ref a1)])) _
    refine XS.dupX1 X1.here hx rfl (hb hby d3_5) rfl rfl rfl ?_
    show Steps p.tables e below (T1.setTop (mkF m 6 #[.val (.ref a1), .val (.ref a2), .val (.int p3), .val (.int p4), .val (.int p5), .unset, .unset, .unset, .unset] [(.int (2 : Int32)), (.ref a1), (.int (2 : Int32))])) _
    refine XS.iconst X1.here hx rfl (hb hby d3_6) ?_
    show Steps p.tables e below (T1.setTop (mkF m 7 #[.val (.ref a1), .val (.ref a2), .val (.int p3), .val (.int p4), .val (.int p5), .unset, .unset, .unset, .unset] [(.int (1 : Int32)), (.int (2 : Int32)), (.ref a1), (.int (2 : Int32))])) _
    refine XS.iadd X1.here hx rfl (hb hby d3_7) rfl ?_
    show Steps p.tables e below (T1.setTop (mkF m 8 #[.val (.ref a1), .val (.ref a2), .val (.int p3), .val (.int p4), .val (.int p5), .unset, .unset, .unset, .unset] [(.int (3 : Int32)), (.ref a1), (.int (2 : Int32))])) _
    refine st2 _ ?_
    show Steps p.tables e below (T2.setTop (mkF m 11 #[.val (.ref a1), .val (.ref a2), .val (.int p3), .val (.int p4), .val (.int p5), .unset, .unset, .unset, .unset] [(.int (2 : Int32))])) _
    refine XS.istore X2.here hx rfl (hb hby d3_11) rfl (l' := #[.val (.ref a1), .val (.ref a2), .val (.int p3), .val (.int p4), .val (.int p5), .val (.int (2 : Int32)), .unset, .unset, .unset]) rfl ?_
    show Steps p.tables e below (T2.setTop (mkF m 13 #[.val (.ref a1), .val (.ref a2), .val (.int p3), .val (.int p4), .val (.int p5), .val (.int (2 : Int32)), .unset, .unset, .unset] [])) _
    refine XS.iload X2.here hx rfl (hb hby d3_13) rfl ?_
    show Steps p.tables e below (T2.setTop (mkF m 15 #[.val (.ref a1), .val (.ref a2), .val (.int p3), .val (.int p4), .val (.int p5), .val (.int (2 : Int32)), .unset, .unset, .unset] [(.int (2 : Int32))])) _
    refine XS.iconst X2.here hx rfl (hb hby d3_15) ?_
    show Steps p.tables e below (T2.setTop (mkF m 16 #[.val (.ref a1), .val (.ref a2), .val (.int p3), .val (.int p4), .val (.int p5), .val (.int (2 : Int32)), .unset, .unset, .unset] [(.int (1 : Int32)), (.int (2 : Int32))])) _
    refine XS.iadd X2.here hx rfl (hb hby d3_16) rfl ?_
    show Steps p.tables e below (T2.setTop (mkF m 17 #[.val (.ref a1), .val (.ref a2), .val (.int p3), .val (.int p4), .val (.int p5), .val (.int (2 : Int32)), .unset, .unset, .unset] [(.int (3 : Int32))])) _
    refine XS.aloadN X2.here hx rfl (hb hby d3_17) rfl rfl ?_
    show Steps p.tables e below (T2.setTop (mkF m 18 #[.val (.ref a1), .val (.ref a2), .val (.int p3), .val (.int p4), .val (.int p5), .val (.int (2 : Int32)), .unset, .unset, .unset] [(.ref a1), (.int (3 : Int32))])) _
    refine st4 _ ?_
    show Steps p.tables e below (T4.setTop (mkF m 21 #[.val (.ref a1), .val (.ref a2), .val (.int p3), .val (.int p4), .val (.int p5), .val (.int (2 : Int32)), .unset, .unset, .unset] [(.ref sA), (.int (3 : Int32))])) _
    refine X4.arraylength hx (by rw [e4]; exact Aro6.1) (State.isArrayOf_alike hZ.alike Aro6.2.1) (g := (mkF m 21 #[.val (.ref a1), .val (.ref a2), .val (.int p3), .val (.int p4), .val (.int p5), .val (.int (2 : Int32)), .unset, .unset, .unset] [(.ref sA), (.int (3 : Int32))])) rfl rfl (hb hby d3_21) _ ?_
    rw [len_of So6 No6]
    show Steps p.tables e below (T4.setTop (mkF m 22 #[.val (.ref a1), .val (.ref a2), .val (.int p3), .val (.int p4), .val (.int p5), .val (.int (2 : Int32)), .unset, .unset, .unset] [(.int (256 : Int32)), (.int (3 : Int32))])) _
    refine XS.icmpYes X4.here hx rfl (pc0 := 22) (pc' := 43) rfl (hb hby d3_22) rfl (feq (by decide : ¬ ((3 : Int32) = (256 : Int32)))).2 (by decide) (by decide) ?_
    show Steps p.tables e below (T4.setTop (mkF m 43 #[.val (.ref a1), .val (.ref a2), .val (.int p3), .val (.int p4), .val (.int p5), .val (.int (2 : Int32)), .unset, .unset, .unset] [])) _
    refine XS.aloadN X4.here hx rfl (hb hby d3_43) rfl rfl ?_
    show Steps p.tables e below (T4.setTop (mkF m 44 #[.val (.ref a1), .val (.ref a2), .val (.int p3), .val (.int p4), .val (.int p5), .val (.int (2 : Int32)), .unset, .unset, .unset] [(.ref a1)])) _
    refine st7 _ ?_
    show Steps p.tables e below (T7.setTop (mkF m 47 #[.val (.ref a1), .val (.ref a2), .val (.int p3), .val (.int p4), .val (.int p5), .val (.int (2 : Int32)), .unset, .unset, .unset] [(.ref sA)])) _
    refine XS.iload X7.here hx rfl (hb hby d3_47) rfl ?_
    show Steps p.tables e below (T7.setTop (mkF m 49 #[.val (.ref a1), .val (.ref a2), .val (.int p3), .val (.int p4), .val (.int p5), .val (.int (2 : Int32)), .unset, .unset, .unset] [(.int (2 : Int32)), (.ref sA)])) _
    refine X7.iaload hx (j := (2 : Int32)) (v := (.int x2)) (by rw [e7]; exact Aro8.1) (State.isArrayOf_alike hZ.alike Aro8.2.1) Aro8.2.2 hino8 hato8 (g := (mkF m 49 #[.val (.ref a1), .val (.ref a2), .val (.int p3), .val (.int p4), .val (.int p5), .val (.int (2 : Int32)), .unset, .unset, .unset] [(.int (2 : Int32)), (.ref sA)])) rfl rfl (hb hby d3_49) _ ?_
    show Steps p.tables e below (T7.setTop (mkF m 50 #[.val (.ref a1), .val (.ref a2), .val (.int p3), .val (.int p4), .val (.int p5), .val (.int (2 : Int32)), .unset, .unset, .unset] [(.int x2)])) _
    refine XS.iloadN X7.here hx rfl (hb hby d3_50) rfl ?_
    show Steps p.tables e below (T7.setTop (mkF m 51 #[.val (.ref a1), .val (.ref a2), .val (.int p3), .val (.int p4), .val (.int p5), .val (.int (2 : Int32)), .unset, .unset, .unset] [(.int p4), (.int x2)])) _
    refine XS.iadd X7.here hx rfl (hb hby d3_51) rfl ?_
    show Steps p.tables e below (T7.setTop (mkF m 52 #[.val (.ref a1), .val (.ref a2), .val (.int p3), .val (.int p4), .val (.int p5), .val (.int (2 : Int32)), .unset, .unset, .unset] [(.int (x2 + p4))])) _
    exact kt
  have c11 := (F_bytes.other W2 (Or.inr (slot_ne (Or.inl (hw _ (List.mem_of_getElem? (i := 11) rfl))) (Or.inl (hw _ (List.mem_of_getElem? (i := 24) rfl))) (by decide) (t := (.array .byte)) (t' := .int) (by decide) (by decide))))
  obtain ⟨T12, X12, e12, st12⟩ := getF X7 hx hZ hown (host := "") (Or.inl (hw _ (List.mem_of_getElem? (i := 10) rfl))) Via.refl e7 c11 (g := (mkF m 57 #[.val (.ref a1), .val (.ref a2), .val (.int p3), .val (.int p4), .val (.int p5), .val (.int (2 : Int32)), .val (.int ev9), .unset, .unset] [(.ref a1), (.int ev9)])) rfl rfl (hb hby d3_57)
  have c13 := (V_bA.other W2 (Ne.symm ne_a1_bA))
  obtain ⟨clo14, Aro14, -, So14, No14, -, -⟩ := id c13
  have hk15 : ¬ ((4096 : Int32) < ev9) := by rw [hev9]; exact own_end (own_le hxn (by decide)) hn
  obtain ⟨T16, X16, e16, st16⟩ := getF X12 hx hZ hown (host := "") (Or.inl (hw _ (List.mem_of_getElem? (i := 10) rfl))) Via.refl e12 c11 (g := (mkF m 96 #[.val (.ref a1), .val (.ref a2), .val (.int p3), .val (.int p4), .val (.int p5), .val (.int (2 : Int32)), .val (.int ev9), .unset, .unset] [(.ref a1), (.int p3), (.ref a2)])) rfl rfl (hb hby d3_96)
  obtain ⟨T17, X17, e17, st17⟩ := getF X16 hx hZ hown (host := "") (Or.inl (hw _ (List.mem_of_getElem? (i := 13) rfl))) Via.refl e16 c3 (g := (mkF m 100 #[.val (.ref a1), .val (.ref a2), .val (.int p3), .val (.int p4), .val (.int p5), .val (.int (2 : Int32)), .val (.int ev9), .unset, .unset] [(.ref a1), (.ref bA), (.int p3), (.ref a2)])) rfl rfl (hb hby d3_100)
  obtain ⟨clo18, Aro18, -, So18, No18, Ho18, -⟩ := id c5
  have hino18 : ¬ ((2 : Int32) < 0 ∨ clo18.slots.size ≤ ((2 : Int32)).toNatClampNeg) := inb_of So18 ⟨by decide, by decide⟩
  have hato18 : clo18.slots[((2 : Int32)).toNatClampNeg]? = some (.int x2) := Ho18.at hino18 rfl
  have c19 := (V_a2.other W2 (Ne.symm ne_a1_a2))
  obtain ⟨hx20, hy20⟩ := own_nat (k := 32) (own_le hxn (by decide) : own_in x2 32)
  obtain ⟨hp20, hr20⟩ := own_nat (k := 15) hp
  obtain ⟨hn20, ho20⟩ := own_nat (k := 16) hn
  obtain ⟨T20, h20, L20, X20, e20, N20, kc20, V20, st20⟩ := cpA X17 hx hZ hown (hw _ (List.mem_of_getElem? (i := 25) rfl)) (hw _ (List.mem_of_getElem? (i := 28) rfl)) (hw _ (List.mem_of_getElem? (i := 26) rfl)) (hw _ (List.mem_of_getElem? (i := 27) rfl)) e17 c19 c13 (Or.inl ⟨rfl, rfl⟩) hp20 hx20 hn20 (by show _ ≤ 32; omega) (by show _ ≤ 4096; omega) rfl (by rw [hvb]; omega) N2 g_bA (g := (mkF m 107 #[.val (.ref a1), .val (.ref a2), .val (.int p3), .val (.int p4), .val (.int p5), .val (.int (2 : Int32)), .val (.int ev9), .unset, .unset] [(.int p4), (.int x2), (.ref bA), (.int p3), (.ref a2)])) rfl (by rw [hml]; rfl) rfl (hb hby d3_107) (by decide) (W := 0) (by show 2 * 0 + _ ≤ _; exact Nat.le_of_eq rfl) (by decide)
  have hvc : (vb.take (x2).toNatClampNeg ++ ((List.range p4.toNatClampNeg).map fun i => vs.getD (p3.toNatClampNeg + i) (.int (0 : Int32))) ++ vb.drop ((x2).toNatClampNeg + p4.toNatClampNeg)).length = 4096 := own_cat_len hvb (by simp) (by omega)
  have K20 := K2.trans kc20 (allS (Or.inl (List.mem_of_getElem? (i := 1) rfl)) all0)
  have c21 := (c3.keep kc20 (ninS ne_a1_bA nin0))
  obtain ⟨T22, X22, e22, st22⟩ := getF X20 hx hZ hown (host := "") (Or.inl (hw _ (List.mem_of_getElem? (i := 13) rfl))) Via.refl e20 c21 (g := (mkF m 111 #[.val (.ref a1), .val (.ref a2), .val (.int p3), .val (.int p4), .val (.int p5), .val (.int (2 : Int32)), .val (.int ev9), .unset, .unset] [(.ref a1)])) rfl rfl (hb hby d3_111)
  have c23 := (c5.keep kc20 (ninS (Ne.symm ne_bA_sA) nin0))
  obtain ⟨clo24, Aro24, qo24, So24, No24, Ho24, Go24⟩ := id c23
  have hino24 : ¬ ((3 : Int32) < 0 ∨ clo24.slots.size ≤ ((3 : Int32)).toNatClampNeg) := inb_of So24 ⟨by decide, by decide⟩
  obtain ⟨T25, h25, X25, e25, W25, st25⟩ := stI X22 hx hZ e22 Aro24 (j := (3 : Int32)) hino24 (g := (mkF m 120 #[.val (.ref a1), .val (.ref a2), .val (.int p3), .val (.int p4), .val (.int p5), .val (.int (2 : Int32)), .val (.int ev9), .unset, .unset] [(.int ev9), (.int (3 : Int32)), (.ref sA)])) rfl rfl (hb hby d3_120)
  have V25 : Arv Z h25 sA ks .int (256 : Int32) [(.int (0 : Int32)), (.int x1), (.int x2), (.int ev9)] (.int (0 : Int32)) := Arv.set Aro24 qo24 So24 No24 Ho24 Go24 rfl W25 3 rfl (Nat.le_of_ble_eq_true rfl)
  have K25 := K20.wr W25 (Or.inl (List.mem_of_getElem? (i := 2) rfl))
  have N25 := Fr.snoc X25 N20 g_sA
  have c26 := ((Fw2.keep kc20 (ninS ne_a1_bA nin0)).other W25 (Or.inl ne_a1_sA))
  obtain ⟨T27, X27, e27, st27⟩ := getF X25 hx hZ hown (host := "") (Or.inl (hw _ (List.mem_of_getElem? (i := 23) rfl))) Via.refl e25 c26 (g := (mkF m 124 #[.val (.ref a1), .val (.ref a2), .val (.int p3), .val (.int p4), .val (.int p5), .val (.int (2 : Int32)), .val (.int ev9), .unset, .unset] [(.ref a1), (.int (10 : Int32))])) rfl rfl (hb hby d3_124)
  have c28 := (((F_slots.other W2 (Or.inr (slot_ne (Or.inl (hw _ (List.mem_of_getElem? (i := 17) rfl))) (Or.inl (hw _ (List.mem_of_getElem? (i := 24) rfl))) (by decide) (t := (.array .long)) (t' := .int) (by decide) (by decide)))).keep kc20 (ninS ne_a1_bA nin0)).other W25 (Or.inl ne_a1_sA))
  obtain ⟨T29, X29, e29, st29⟩ := getF X27 hx hZ hown (host := "") (Or.inl (hw _ (List.mem_of_getElem? (i := 16) rfl))) Via.refl e27 c28 (g := (mkF m 131 #[.val (.ref a1), .val (.ref a2), .val (.int p3), .val (.int p4), .val (.int p5), .val (.int (2 : Int32)), .val (.int ev9), .unset, .unset] [(.ref a1), (.int (7 : Int32)), (.int (30 : Int32))])) rfl rfl (hb hby d3_131)
  have c30 := (((V_lA.other W2 (Ne.symm ne_a1_lA)).keep kc20 (ninS (Ne.symm ne_bA_lA) nin0)).other W25 (Ne.symm ne_sA_lA))
  obtain ⟨clo31, Aro31, -, So31, No31, -, -⟩ := id c30
  have c33 := ((c19.keep kc20 (ninS ne_a2_bA nin0)).other W25 ne_a2_sA)
  obtain ⟨_, _, ⟨T32, L32, k32, n32⟩, -, X32, ⟨Lc32, hQ32, l32, y32, z32⟩, st32⟩ := Jvm.LawKit.callS X29 hx (y := (⟨"com/example/amherst/amherst/ByteStringTable", "key", "([BII)J"⟩ : MethodName)) hown (mvT hZ (hw _ (List.mem_of_getElem? (i := 29) rfl))) (mvT hZ (hw _ (List.mem_of_getElem? (i := 30) rfl))) (mvT hZ (hw _ (List.mem_of_getElem? (i := 3) rfl))) (mvT hZ (hw _ (List.mem_of_getElem? (i := 31) rfl))) (by decide) (backOf (W := 1) (rm4 l Z a0 hw [] a2 p3 p4 k2 vs h25 n0 (Nat.le_trans Z0 K25.1) c33 hint hp hn) hZ (hw _ (List.mem_of_getElem? (i := 31) rfl)) (hw _ (List.mem_of_getElem? (i := 3) rfl)) (by decide) (by decide)) (g := (mkF m 205 #[.val (.ref a1), .val (.ref a2), .val (.int p3), .val (.int p4), .val (.int p5), .val (.int (2 : Int32)), .val (.int ev9), .unset, .unset] [(.int p4), (.int p3), (.ref a2), (.ref a1)])) rfl (by rw [hml]; rfl) (argsL := [(.ref a2), (.int p3), (.int p4)]) (rest := [(.ref a1)]) (lenOf pd___BII_J rfl) rfl (by show 2 * 0 + _ ≤ _; exact Nat.le_of_eq rfl) (hb hby d3_205) (fun _ _ => ⟨rfl, e29, (by decide : 0 + 0 ≤ _), (by decide : 0 + 0 ≤ _)⟩)
  dsimp only [Pt.U, Pt.locs, Pt.cells, Pt.slots] at X32 l32 y32 z32 st32 hQ32
  subst l32 y32 z32
  obtain ⟨z32, rfl, N32q, hq32⟩ := hQ32
  have N32 := Fr.app N25 N32q
  have E32 : Ext h25 T32.heap := by rw [hq32]; exact ⟨Nat.le_refl _, fun _ _ q => q⟩
  have K32 := K25.ext E32
  have c35 := ((((E_a1.wr W2).keep kc20).wr W25).ext E32)
  have c36 := (c28.ext E32)
  have c37 := (c30.ext E32)
  obtain ⟨cq34, q34, q34'⟩ := c35.cell
  obtain ⟨_, _, ⟨T34, L34, k34, n34⟩, -, X34, ⟨Lc34, hQ34, l34, y34, z34⟩, st34⟩ := X32.privateBack hx (y := (⟨"com/example/amherst/amherst/ByteStringTable", "place", "(JJ)V"⟩ : MethodName)) hown (mvT hZ (hw _ (List.mem_of_getElem? (i := 37) rfl))) (mvT hZ (hw _ (List.mem_of_getElem? (i := 38) rfl))) (own_sel (mvT hZ (hw _ (List.mem_of_getElem? (i := 2) rfl))) (Cond.privateMethod_at (mvP hZ (hw _ (List.mem_of_getElem? (i := 39) rfl)) (args := #[]))) (mvT hZ (hw _ (List.mem_of_getElem? (i := 38) rfl))) (by decide)) (Cond.privateMethod_at (mvP hZ (hw _ (List.mem_of_getElem? (i := 39) rfl)) (args := #[]))) (mvT hZ (hw _ (List.mem_of_getElem? (i := 40) rfl))) (by decide) (backOf (W := 0) (rm6 l Z a0 hw [] a1 z32 ((((2 : Int32).toInt64) <<< ((32 : Int32) &&& 0x3f).toInt64) ||| ((p5.toInt64) &&& (4294967295 : Int64))) lA kl vl 2 T32.heap n0 (Nat.le_trans Z0 K32.1) c35 c36 c37 hlen hlong hocc (by decide) ne_a1_lA g_lA) hZ (hw _ (List.mem_of_getElem? (i := 40) rfl)) (hw _ (List.mem_of_getElem? (i := 3) rfl)) (by decide) (by decide)) (g := (mkF m 222 #[.val (.ref a1), .val (.ref a2), .val (.int p3), .val (.int p4), .val (.int p5), .val (.int (2 : Int32)), .val (.int ev9), .unset, .unset] [(.long ((((2 : Int32).toInt64) <<< ((32 : Int32) &&& 0x3f).toInt64) ||| ((p5.toInt64) &&& (4294967295 : Int64)))), (.long z32), (.ref a1)])) rfl (by rw [hml]; rfl) (Steps.refl _) (a := a1) q34 q34' (argsL := [(.long z32), (.long ((((2 : Int32).toInt64) <<< ((32 : Int32) &&& 0x3f).toInt64) ||| ((p5.toInt64) &&& (4294967295 : Int64))))]) (rest := []) (lenOf pd__JJ_V rfl) rfl (by show 2 * 0 + _ ≤ _; exact Nat.le_of_eq rfl) (hb hby d3_222) (fun _ _ => ⟨rfl, rfl, (by decide : 0 + 0 ≤ _), (by decide : 0 + 0 ≤ _)⟩)
  dsimp only [Pt.U, Pt.locs, Pt.cells, Pt.slots] at X34 l34 y34 z34 st34 hQ34
  subst l34 y34 z34
  obtain ⟨rfl, N34q, kq34, vl34, w134, w234, w334, V34⟩ := hQ34
  have N34 := Fr.app N32 N34q
  have K34 := K32.trans kq34 (allS (Or.inl (List.mem_of_getElem? (i := 3) rfl)) all0)
  have c38 := ((c26.ext E32).keep kq34 (ninS ne_a1_lA nin0))
  have c39 := ((((c11.keep kc20 (ninS ne_a1_bA nin0)).other W25 (Or.inl ne_a1_sA)).ext E32).keep kq34 (ninS ne_a1_lA nin0))
  have c40 := (((c21.other W25 (Or.inl ne_a1_sA)).ext E32).keep kq34 (ninS ne_a1_lA nin0))
  have c41 := (c36.keep kq34 (ninS ne_a1_lA nin0))
  have c42 := (((V20.other W25 ne_bA_sA).ext E32).keep kq34 (ninS ne_bA_lA nin0))
  have c43 := ((V25.ext E32).keep kq34 (ninS ne_sA_lA nin0))
  rw [hev9] at c43
  obtain ⟨fs, hr, hrun, hended, hW, hsame⟩ := X34.leave (v := some (.int (2 : Int32))) (fun h => by rw [Bd.returns] at h; cases h)
  refine ⟨_, _, pre10 _ ?_, hrun, hended, _, _, rfl, ?_, ⟨_, rfl⟩, hW, hsame.mono (by decide) (by decide)⟩
  ·
    show Steps p.tables e below (T7.setTop (mkF m 52 #[.val (.ref a1), .val (.ref a2), .val (.int p3), .val (.int p4), .val (.int p5), .val (.int (2 : Int32)), .unset, .unset, .unset] [(.int ev9)])) _
    refine XS.istore X7.here hx rfl (hb hby d3_52) rfl (l' := #[.val (.ref a1), .val (.ref a2), .val (.int p3), .val (.int p4), .val (.int p5), .val (.int (2 : Int32)), .val (.int ev9), .unset, .unset]) rfl ?_
    show Steps p.tables e below (T7.setTop (mkF m 54 #[.val (.ref a1), .val (.ref a2), .val (.int p3), .val (.int p4), .val (.int p5), .val (.int (2 : Int32)), .val (.int ev9), .unset, .unset] [])) _
    refine XS.iload X7.here hx rfl (hb hby d3_54) rfl ?_
    show Steps p.tables e below (T7.setTop (mkF m 56 #[.val (.ref a1), .val (.ref a2), .val (.int p3), .val (.int p4), .val (.int p5), .val (.int (2 : Int32)), .val (.int ev9), .unset, .unset] [(.int ev9)])) _
    refine XS.aloadN X7.here hx rfl (hb hby d3_56) rfl rfl ?_
    show Steps p.tables e below (T7.setTop (mkF m 57 #[.val (.ref a1), .val (.ref a2), .val (.int p3), .val (.int p4), .val (.int p5), .val (.int (2 : Int32)), .val (.int ev9), .unset, .unset] [(.ref a1), (.int ev9)])) _
    refine st12 _ ?_
    show Steps p.tables e below (T12.setTop (mkF m 60 #[.val (.ref a1), .val (.ref a2), .val (.int p3), .val (.int p4), .val (.int p5), .val (.int (2 : Int32)), .val (.int ev9), .unset, .unset] [(.ref bA), (.int ev9)])) _
    refine X12.arraylength hx (by rw [e12]; exact Aro14.1) (State.isArrayOf_alike hZ.alike Aro14.2.1) (g := (mkF m 60 #[.val (.ref a1), .val (.ref a2), .val (.int p3), .val (.int p4), .val (.int p5), .val (.int (2 : Int32)), .val (.int ev9), .unset, .unset] [(.ref bA), (.int ev9)])) rfl rfl (hb hby d3_60) _ ?_
    rw [len_of So14 No14]
    show Steps p.tables e below (T12.setTop (mkF m 61 #[.val (.ref a1), .val (.ref a2), .val (.int p3), .val (.int p4), .val (.int p5), .val (.int (2 : Int32)), .val (.int ev9), .unset, .unset] [(.int (4096 : Int32)), (.int ev9)])) _
    refine XS.icmpYes X12.here hx rfl (pc0 := 61) (pc' := 93) rfl (hb hby d3_61) rfl (flt hk15).2.2.2 (by decide) (by decide) ?_
    show Steps p.tables e below (T12.setTop (mkF m 93 #[.val (.ref a1), .val (.ref a2), .val (.int p3), .val (.int p4), .val (.int p5), .val (.int (2 : Int32)), .val (.int ev9), .unset, .unset] [])) _
    refine XS.aloadN X12.here hx rfl (hb hby d3_93) rfl rfl ?_
    show Steps p.tables e below (T12.setTop (mkF m 94 #[.val (.ref a1), .val (.ref a2), .val (.int p3), .val (.int p4), .val (.int p5), .val (.int (2 : Int32)), .val (.int ev9), .unset, .unset] [(.ref a2)])) _
    refine XS.iloadN X12.here hx rfl (hb hby d3_94) rfl ?_
    show Steps p.tables e below (T12.setTop (mkF m 95 #[.val (.ref a1), .val (.ref a2), .val (.int p3), .val (.int p4), .val (.int p5), .val (.int (2 : Int32)), .val (.int ev9), .unset, .unset] [(.int p3), (.ref a2)])) _
    refine XS.aloadN X12.here hx rfl (hb hby d3_95) rfl rfl ?_
    show Steps p.tables e below (T12.setTop (mkF m 96 #[.val (.ref a1), .val (.ref a2), .val (.int p3), .val (.int p4), .val (.int p5), .val (.int (2 : Int32)), .val (.int ev9), .unset, .unset] [(.ref a1), (.int p3), (.ref a2)])) _
    refine st16 _ ?_
    show Steps p.tables e below (T16.setTop (mkF m 99 #[.val (.ref a1), .val (.ref a2), .val (.int p3), .val (.int p4), .val (.int p5), .val (.int (2 : Int32)), .val (.int ev9), .unset, .unset] [(.ref bA), (.int p3), (.ref a2)])) _
    refine XS.aloadN X16.here hx rfl (hb hby d3_99) rfl rfl ?_
    show Steps p.tables e below (T16.setTop (mkF m 100 #[.val (.ref a1), .val (.ref a2), .val (.int p3), .val (.int p4), .val (.int p5), .val (.int (2 : Int32)), .val (.int ev9), .unset, .unset] [(.ref a1), (.ref bA), (.int p3), (.ref a2)])) _
    refine st17 _ ?_
    show Steps p.tables e below (T17.setTop (mkF m 103 #[.val (.ref a1), .val (.ref a2), .val (.int p3), .val (.int p4), .val (.int p5), .val (.int (2 : Int32)), .val (.int ev9), .unset, .unset] [(.ref sA), (.ref bA), (.int p3), (.ref a2)])) _
    refine XS.iload X17.here hx rfl (hb hby d3_103) rfl ?_
    show Steps p.tables e below (T17.setTop (mkF m 105 #[.val (.ref a1), .val (.ref a2), .val (.int p3), .val (.int p4), .val (.int p5), .val (.int (2 : Int32)), .val (.int ev9), .unset, .unset] [(.int (2 : Int32)), (.ref sA), (.ref bA), (.int p3), (.ref a2)])) _
    refine X17.iaload hx (j := (2 : Int32)) (v := (.int x2)) (by rw [e17]; exact Aro18.1) (State.isArrayOf_alike hZ.alike Aro18.2.1) Aro18.2.2 hino18 hato18 (g := (mkF m 105 #[.val (.ref a1), .val (.ref a2), .val (.int p3), .val (.int p4), .val (.int p5), .val (.int (2 : Int32)), .val (.int ev9), .unset, .unset] [(.int (2 : Int32)), (.ref sA), (.ref bA), (.int p3), (.ref a2)])) rfl rfl (hb hby d3_105) _ ?_
    show Steps p.tables e below (T17.setTop (mkF m 106 #[.val (.ref a1), .val (.ref a2), .val (.int p3), .val (.int p4), .val (.int p5), .val (.int (2 : Int32)), .val (.int ev9), .unset, .unset] [(.int x2), (.ref bA), (.int p3), (.ref a2)])) _
    refine XS.iloadN X17.here hx rfl (hb hby d3_106) rfl ?_
    show Steps p.tables e below (T17.setTop (mkF m 107 #[.val (.ref a1), .val (.ref a2), .val (.int p3), .val (.int p4), .val (.int p5), .val (.int (2 : Int32)), .val (.int ev9), .unset, .unset] [(.int p4), (.int x2), (.ref bA), (.int p3), (.ref a2)])) _
    refine st20 _ ?_
    show Steps p.tables e below (T20.setTop (mkF m 110 #[.val (.ref a1), .val (.ref a2), .val (.int p3), .val (.int p4), .val (.int p5), .val (.int (2 : Int32)), .val (.int ev9), .unset, .unset] [])) _
    refine XS.aloadN X20.here hx rfl (hb hby d3_110) rfl rfl ?_
    show Steps p.tables e below (T20.setTop (mkF m 111 #[.val (.ref a1), .val (.ref a2), .val (.int p3), .val (.int p4), .val (.int p5), .val (.int (2 : Int32)), .val (.int ev9), .unset, .unset] [(.ref a1)])) _
    refine st22 _ ?_
    show Steps p.tables e below (T22.setTop (mkF m 114 #[.val (.ref a1), .val (.ref a2), .val (.int p3), .val (.int p4), .val (.int p5), .val (.int (2 : Int32)), .val (.int ev9), .unset, .unset] [(.ref sA)])) _
    refine XS.iload X22.here hx rfl (hb hby d3_114) rfl ?_
    show Steps p.tables e below (T22.setTop (mkF m 116 #[.val (.ref a1), .val (.ref a2), .val (.int p3), .val (.int p4), .val (.int p5), .val (.int (2 : Int32)), .val (.int ev9), .unset, .unset] [(.int (2 : Int32)), (.ref sA)])) _
    refine XS.iconst X22.here hx rfl (hb hby d3_116) ?_
    show Steps p.tables e below (T22.setTop (mkF m 117 #[.val (.ref a1), .val (.ref a2), .val (.int p3), .val (.int p4), .val (.int p5), .val (.int (2 : Int32)), .val (.int ev9), .unset, .unset] [(.int (1 : Int32)), (.int (2 : Int32)), (.ref sA)])) _
    refine XS.iadd X22.here hx rfl (hb hby d3_117) rfl ?_
    show Steps p.tables e below (T22.setTop (mkF m 118 #[.val (.ref a1), .val (.ref a2), .val (.int p3), .val (.int p4), .val (.int p5), .val (.int (2 : Int32)), .val (.int ev9), .unset, .unset] [(.int (3 : Int32)), (.ref sA)])) _
    refine XS.iload X22.here hx rfl (hb hby d3_118) rfl ?_
    show Steps p.tables e below (T22.setTop (mkF m 120 #[.val (.ref a1), .val (.ref a2), .val (.int p3), .val (.int p4), .val (.int p5), .val (.int (2 : Int32)), .val (.int ev9), .unset, .unset] [(.int ev9), (.int (3 : Int32)), (.ref sA)])) _
    refine st25 _ ?_
    show Steps p.tables e below (T25.setTop (mkF m 121 #[.val (.ref a1), .val (.ref a2), .val (.int p3), .val (.int p4), .val (.int p5), .val (.int (2 : Int32)), .val (.int ev9), .unset, .unset] [])) _
    refine XS.bipush X25.here hx rfl (hb hby d3_121) ?_
    show Steps p.tables e below (T25.setTop (mkF m 123 #[.val (.ref a1), .val (.ref a2), .val (.int p3), .val (.int p4), .val (.int p5), .val (.int (2 : Int32)), .val (.int ev9), .unset, .unset] [(.int (10 : Int32))])) _
    refine XS.aloadN X25.here hx rfl (hb hby d3_123) rfl rfl ?_
    show Steps p.tables e below (T25.setTop (mkF m 124 #[.val (.ref a1), .val (.ref a2), .val (.int p3), .val (.int p4), .val (.int p5), .val (.int (2 : Int32)), .val (.int ev9), .unset, .unset] [(.ref a1), (.int (10 : Int32))])) _
    refine st27 _ ?_
    show Steps p.tables e below (T27.setTop (mkF m 127 #[.val (.ref a1), .val (.ref a2), .val (.int p3), .val (.int p4), .val (.int p5), .val (.int (2 : Int32)), .val (.int ev9), .unset, .unset] [(.int (3 : Int32)), (.int (10 : Int32))])) _
    refine XS.imul X27.here hx rfl (hb hby d3_127) rfl ?_
    show Steps p.tables e below (T27.setTop (mkF m 128 #[.val (.ref a1), .val (.ref a2), .val (.int p3), .val (.int p4), .val (.int p5), .val (.int (2 : Int32)), .val (.int ev9), .unset, .unset] [(.int (30 : Int32))])) _
    refine XS.bipush X27.here hx rfl (hb hby d3_128) ?_
    show Steps p.tables e below (T27.setTop (mkF m 130 #[.val (.ref a1), .val (.ref a2), .val (.int p3), .val (.int p4), .val (.int p5), .val (.int (2 : Int32)), .val (.int ev9), .unset, .unset] [(.int (7 : Int32)), (.int (30 : Int32))])) _
    refine XS.aloadN X27.here hx rfl (hb hby d3_130) rfl rfl ?_
    show Steps p.tables e below (T27.setTop (mkF m 131 #[.val (.ref a1), .val (.ref a2), .val (.int p3), .val (.int p4), .val (.int p5), .val (.int (2 : Int32)), .val (.int ev9), .unset, .unset] [(.ref a1), (.int (7 : Int32)), (.int (30 : Int32))])) _
    refine st29 _ ?_
    show Steps p.tables e below (T29.setTop (mkF m 134 #[.val (.ref a1), .val (.ref a2), .val (.int p3), .val (.int p4), .val (.int p5), .val (.int (2 : Int32)), .val (.int ev9), .unset, .unset] [(.ref lA), (.int (7 : Int32)), (.int (30 : Int32))])) _
    refine X29.arraylength hx (by rw [e29]; exact Aro31.1) (State.isArrayOf_alike hZ.alike Aro31.2.1) (g := (mkF m 134 #[.val (.ref a1), .val (.ref a2), .val (.int p3), .val (.int p4), .val (.int p5), .val (.int (2 : Int32)), .val (.int ev9), .unset, .unset] [(.ref lA), (.int (7 : Int32)), (.int (30 : Int32))])) rfl rfl (hb hby d3_134) _ ?_
    rw [len_of So31 No31]
    show Steps p.tables e below (T29.setTop (mkF m 135 #[.val (.ref a1), .val (.ref a2), .val (.int p3), .val (.int p4), .val (.int p5), .val (.int (2 : Int32)), .val (.int ev9), .unset, .unset] [(.int (1024 : Int32)), (.int (7 : Int32)), (.int (30 : Int32))])) _
    refine XS.iconst X29.here hx rfl (hb hby d3_135) ?_
    show Steps p.tables e below (T29.setTop (mkF m 136 #[.val (.ref a1), .val (.ref a2), .val (.int p3), .val (.int p4), .val (.int p5), .val (.int (2 : Int32)), .val (.int ev9), .unset, .unset] [(.int (2 : Int32)), (.int (1024 : Int32)), (.int (7 : Int32)), (.int (30 : Int32))])) _
    refine XS.idiv X29.here hx rfl (hb hby d3_136) rfl (by decide) ?_
    show Steps p.tables e below (T29.setTop (mkF m 137 #[.val (.ref a1), .val (.ref a2), .val (.int p3), .val (.int p4), .val (.int p5), .val (.int (2 : Int32)), .val (.int ev9), .unset, .unset] [(.int (512 : Int32)), (.int (7 : Int32)), (.int (30 : Int32))])) _
    refine XS.imul X29.here hx rfl (hb hby d3_137) rfl ?_
    show Steps p.tables e below (T29.setTop (mkF m 138 #[.val (.ref a1), .val (.ref a2), .val (.int p3), .val (.int p4), .val (.int p5), .val (.int (2 : Int32)), .val (.int ev9), .unset, .unset] [(.int (3584 : Int32)), (.int (30 : Int32))])) _
    refine XS.icmpYes X29.here hx rfl (pc0 := 138) (pc' := 201) rfl (hb hby d3_138) rfl (flt (by decide : ¬ ((3584 : Int32) < (30 : Int32)))).2.2.2 (by decide) (by decide) ?_
    show Steps p.tables e below (T29.setTop (mkF m 201 #[.val (.ref a1), .val (.ref a2), .val (.int p3), .val (.int p4), .val (.int p5), .val (.int (2 : Int32)), .val (.int ev9), .unset, .unset] [])) _
    refine XS.aloadN X29.here hx rfl (hb hby d3_201) rfl rfl ?_
    show Steps p.tables e below (T29.setTop (mkF m 202 #[.val (.ref a1), .val (.ref a2), .val (.int p3), .val (.int p4), .val (.int p5), .val (.int (2 : Int32)), .val (.int ev9), .unset, .unset] [(.ref a1)])) _
    refine XS.aloadN X29.here hx rfl (hb hby d3_202) rfl rfl ?_
    show Steps p.tables e below (T29.setTop (mkF m 203 #[.val (.ref a1), .val (.ref a2), .val (.int p3), .val (.int p4), .val (.int p5), .val (.int (2 : Int32)), .val (.int ev9), .unset, .unset] [(.ref a2), (.ref a1)])) _
    refine XS.iloadN X29.here hx rfl (hb hby d3_203) rfl ?_
    show Steps p.tables e below (T29.setTop (mkF m 204 #[.val (.ref a1), .val (.ref a2), .val (.int p3), .val (.int p4), .val (.int p5), .val (.int (2 : Int32)), .val (.int ev9), .unset, .unset] [(.int p3), (.ref a2), (.ref a1)])) _
    refine XS.iloadN X29.here hx rfl (hb hby d3_204) rfl ?_
    show Steps p.tables e below (T29.setTop (mkF m 205 #[.val (.ref a1), .val (.ref a2), .val (.int p3), .val (.int p4), .val (.int p5), .val (.int (2 : Int32)), .val (.int ev9), .unset, .unset] [(.int p4), (.int p3), (.ref a2), (.ref a1)])) _
    refine st32 _ ?_
    show Steps p.tables e below (T32.setTop (mkF m 208 #[.val (.ref a1), .val (.ref a2), .val (.int p3), .val (.int p4), .val (.int p5), .val (.int (2 : Int32)), .val (.int ev9), .unset, .unset] [(.long z32), (.ref a1)])) _
    refine XS.iload X32.here hx rfl (hb hby d3_208) rfl ?_
    show Steps p.tables e below (T32.setTop (mkF m 210 #[.val (.ref a1), .val (.ref a2), .val (.int p3), .val (.int p4), .val (.int p5), .val (.int (2 : Int32)), .val (.int ev9), .unset, .unset] [(.int (2 : Int32)), (.long z32), (.ref a1)])) _
    refine XS.i2l X32.here hx rfl (hb hby d3_210) rfl ?_
    show Steps p.tables e below (T32.setTop (mkF m 211 #[.val (.ref a1), .val (.ref a2), .val (.int p3), .val (.int p4), .val (.int p5), .val (.int (2 : Int32)), .val (.int ev9), .unset, .unset] [(.long ((2 : Int32).toInt64)), (.long z32), (.ref a1)])) _
    refine XS.bipush X32.here hx rfl (hb hby d3_211) ?_
    show Steps p.tables e below (T32.setTop (mkF m 213 #[.val (.ref a1), .val (.ref a2), .val (.int p3), .val (.int p4), .val (.int p5), .val (.int (2 : Int32)), .val (.int ev9), .unset, .unset] [(.int (32 : Int32)), (.long ((2 : Int32).toInt64)), (.long z32), (.ref a1)])) _
    refine XS.lshl X32.here hx rfl (hb hby d3_213) rfl ?_
    show Steps p.tables e below (T32.setTop (mkF m 214 #[.val (.ref a1), .val (.ref a2), .val (.int p3), .val (.int p4), .val (.int p5), .val (.int (2 : Int32)), .val (.int ev9), .unset, .unset] [(.long (((2 : Int32).toInt64) <<< ((32 : Int32) &&& 0x3f).toInt64)), (.long z32), (.ref a1)])) _
    refine XS.iload X32.here hx rfl (hb hby d3_214) rfl ?_
    show Steps p.tables e below (T32.setTop (mkF m 216 #[.val (.ref a1), .val (.ref a2), .val (.int p3), .val (.int p4), .val (.int p5), .val (.int (2 : Int32)), .val (.int ev9), .unset, .unset] [(.int p5), (.long (((2 : Int32).toInt64) <<< ((32 : Int32) &&& 0x3f).toInt64)), (.long z32), (.ref a1)])) _
    refine XS.i2l X32.here hx rfl (hb hby d3_216) rfl ?_
    show Steps p.tables e below (T32.setTop (mkF m 217 #[.val (.ref a1), .val (.ref a2), .val (.int p3), .val (.int p4), .val (.int p5), .val (.int (2 : Int32)), .val (.int ev9), .unset, .unset] [(.long (p5.toInt64)), (.long (((2 : Int32).toInt64) <<< ((32 : Int32) &&& 0x3f).toInt64)), (.long z32), (.ref a1)])) _
    refine X32.ldc2Long hx hown (mvT hZ (hw _ (List.mem_of_getElem? (i := 36) rfl))) (g := (mkF m 217 #[.val (.ref a1), .val (.ref a2), .val (.int p3), .val (.int p4), .val (.int p5), .val (.int (2 : Int32)), .val (.int ev9), .unset, .unset] [(.long (p5.toInt64)), (.long (((2 : Int32).toInt64) <<< ((32 : Int32) &&& 0x3f).toInt64)), (.long z32), (.ref a1)])) rfl (hb hby d3_217) _ ?_
    show Steps p.tables e below (T32.setTop (mkF m 220 #[.val (.ref a1), .val (.ref a2), .val (.int p3), .val (.int p4), .val (.int p5), .val (.int (2 : Int32)), .val (.int ev9), .unset, .unset] [(.long (4294967295 : Int64)), (.long (p5.toInt64)), (.long (((2 : Int32).toInt64) <<< ((32 : Int32) &&& 0x3f).toInt64)), (.long z32), (.ref a1)])) _
    refine XS.land X32.here hx rfl (hb hby d3_220) rfl ?_
    show Steps p.tables e below (T32.setTop (mkF m 221 #[.val (.ref a1), .val (.ref a2), .val (.int p3), .val (.int p4), .val (.int p5), .val (.int (2 : Int32)), .val (.int ev9), .unset, .unset] [(.long ((p5.toInt64) &&& (4294967295 : Int64))), (.long (((2 : Int32).toInt64) <<< ((32 : Int32) &&& 0x3f).toInt64)), (.long z32), (.ref a1)])) _
    refine XS.lor X32.here hx rfl (hb hby d3_221) rfl ?_
    show Steps p.tables e below (T32.setTop (mkF m 222 #[.val (.ref a1), .val (.ref a2), .val (.int p3), .val (.int p4), .val (.int p5), .val (.int (2 : Int32)), .val (.int ev9), .unset, .unset] [(.long ((((2 : Int32).toInt64) <<< ((32 : Int32) &&& 0x3f).toInt64) ||| ((p5.toInt64) &&& (4294967295 : Int64)))), (.long z32), (.ref a1)])) _
    refine st34.trans ?_
    show Steps p.tables e below (T34.setTop (mkF m 225 #[.val (.ref a1), .val (.ref a2), .val (.int p3), .val (.int p4), .val (.int p5), .val (.int (2 : Int32)), .val (.int ev9), .unset, .unset] [])) _
    refine XS.iload X34.here hx rfl (hb hby d3_225) rfl ?_
    show Steps p.tables e below (T34.setTop (mkF m 227 #[.val (.ref a1), .val (.ref a2), .val (.int p3), .val (.int p4), .val (.int p5), .val (.int (2 : Int32)), .val (.int ev9), .unset, .unset] [(.int (2 : Int32))])) _
    exact retI X34 hx Bd.returns (hb hby d3_227) hr
  ·
    show Qad2 Z a1 a2 p3 p4 p5 bA sA lA kb ks kl k2 vb vl vs x1 x2 h0 n0 _ T34.heap _
    exact ⟨rfl, N34, K34, c38, c39, c40, c41, ⟨_, hvc, c42⟩, c43, ⟨_, w134, w234, w334, V34⟩⟩
theorem pn_0 : plainName "com/example/amherst/amherst/ByteStringTableLengthPinLaw" = true := by first | (simp [plainName, overriddenIn]; done) | decide +kernel
theorem pd___I : parseMethodDescriptor "()I" = some ⟨[], some .int⟩ := by decide +kernel
theorem pd___V : parseMethodDescriptor "()V" = some ⟨[], none⟩ := by decide +kernel
theorem pd__I_I : parseMethodDescriptor "(I)I" = some ⟨[.int], some .int⟩ := by decide +kernel
theorem pd___BIII_I : parseMethodDescriptor "([BIII)I" = some ⟨[(.array .byte), .int, .int, .int], some .int⟩ := by decide +kernel
theorem ef_0 (m : MethodId) (p0 : Int32) (p1 : Int32) (p2 : Int32) (p3 : Int32) (p4 : Int32) (p5 : Int32) : entryFrame m #[(.int p0), (.int p1), (.int p2), (.int p3), (.int p4), (.int p5)] maxLocals = (mkF m 0 #[.val (.int p0), .val (.int p1), .val (.int p2), .val (.int p3), .val (.int p4), .val (.int p5), .unset, .unset, .unset, .unset, .unset, .unset, .unset, .unset, .unset, .unset, .unset, .unset, .unset, .unset] []) := by first | (simp [entryFrame, mkF, argsToLocals, Value.category, maxLocals]; done) | rfl
def Q0 (Z : State) (p0 : Int32) (p1 : Int32) (p2 : Int32) (p3 : Int32) (p4 : Int32) (p5 : Int32) (h0 : Heap) (n0 : Nat) (v : Option Value) (h : Heap) (L : List Loc) : Prop := v = some (.int 1) ∧ Fr n0 L
set_option maxRecDepth 65536 in
set_option maxHeartbeats 40000000 in
theorem rm0 (l : Launch) (Z : State) (a0 : Array Value) (hw : ∀ d ∈ tables_1, d.before a0 Z = true) (ws : List Jvm.Cond) (p0 : Int32) (p1 : Int32) (p2 : Int32) (p3 : Int32) (p4 : Int32) (p5 : Int32) (h0 : Heap) (n0 : Nat) (Z0 : n0 ≤ h0.size) :
    MetFree l x (head1 (Jvm.Cond.code x code maxLocals ret :: ws) room_1) (fun a U => a = #[(.int p0), (.int p1), (.int p2), (.int p3), (.int p4), (.int p5)] ∧ Z.Warmed39 U.vm ∧ U.heap = h0) (fun _ _ _ _ _ => True) (fun _ U o U' => ∃ v L, o = .returned v ∧ Q0 Z p0 p1 p2 p3 p4 p5 h0 n0 v U'.heap L ∧ FrameEnd U o U' L 7 5476) := by
  refine MetFree.of_bodySF (plainFor_of_name pn_0) hisR ?_
  intro p e s m args below meth c s₁ Bd hml0 hP hK
  obtain ⟨rfl, hZ, hh⟩ := hP
  have hx := Bd.exec
  have hby := Bd.bytes
  have hml : c.maxLocals = 20 := hml0
  have hown : s.vm.findClass "com/example/amherst/amherst/ByteStringTableLengthPinLaw" = some m.cls := findClass_of_methodNamed Bd.named
  have hnm := (name_of_methodNamed Bd.named Bd.method).1
  have X0 : Stand p l e room_1 s m #[(.int p0), (.int p1), (.int p2), (.int p3), (.int p4), (.int p5)] below meth c s₁ [] 0 0 := Stand.of_body Bd
  have e0 : s₁.heap = h0 := by rw [← hh, Bd.state]; rfl
  have N0 := Fr.nil n0
  have K0 := Keep.refl h0 ([] : List Addr)
  have pre0 : ∀ t, Steps p.tables e below (s₁.setTop (mkF m 0 #[.val (.int p0), .val (.int p1), .val (.int p2), .val (.int p3), .val (.int p4), .val (.int p5), .unset, .unset, .unset, .unset, .unset, .unset, .unset, .unset, .unset, .unset, .unset, .unset, .unset, .unset] [])) t → Steps p.tables e below (s₁.setTop (entryFrame m #[(.int p0), (.int p1), (.int p2), (.int p3), (.int p4), (.int p5)] maxLocals)) t := fun t k => castTop (ef_0 m p0 p1 p2 p3 p4 p5) k
  obtain ⟨T1, h1, k1, X1, e1, E1, A1, st1⟩ := newP X0 hx hZ (hw _ (List.mem_of_getElem? (i := 0) rfl)) e0 (g := (mkF m 2 #[.val (.int p0), .val (.int p1), .val (.int p2), .val (.int p3), .val (.int p4), .val (.int p5), .unset, .unset, .unset, .unset, .unset, .unset, .unset, .unset, .unset, .unset, .unset, .unset, .unset, .unset] [(.int (32 : Int32))])) rfl (hb hby at_2) rfl (by decide) (cap := 32) (by decide) (by decide) (by decide) (by decide)
  obtain ⟨b1, g1⟩ : ∃ z, z = h0.size := ⟨_, rfl⟩
  rw [← g1] at A1 st1
  have g_b1 : n0 ≤ b1 := Nat.le_trans (Nat.le_trans Z0 K0.1) (Nat.le_of_eq g1.symm)
  have sz_b1 : h0.size ≤ b1 := Nat.le_trans K0.1 (Nat.le_of_eq g1.symm)
  have K1 := K0.ext E1
  have V_b1 : Arv Z h1 b1 k1 .byte (32 : Int32) [(.int (0 : Int32)), (.int (0 : Int32)), (.int (0 : Int32)), (.int (0 : Int32)), (.int (0 : Int32)), (.int (0 : Int32)), (.int (0 : Int32)), (.int (0 : Int32)), (.int (0 : Int32)), (.int (0 : Int32)), (.int (0 : Int32)), (.int (0 : Int32)), (.int (0 : Int32)), (.int (0 : Int32)), (.int (0 : Int32)), (.int (0 : Int32)), (.int (0 : Int32)), (.int (0 : Int32)), (.int (0 : Int32)), (.int (0 : Int32)), (.int (0 : Int32)), (.int (0 : Int32)), (.int (0 : Int32)), (.int (0 : Int32)), (.int (0 : Int32)), (.int (0 : Int32)), (.int (0 : Int32)), (.int (0 : Int32)), (.int (0 : Int32)), (.int (0 : Int32)), (.int (0 : Int32)), (.int (0 : Int32))] (.int (0 : Int32)) := (Arv.new A1 (by decide)).pad (pad_rep [] (.int (0 : Int32)) 32)
  obtain ⟨clo2, Aro2, qo2, So2, No2, Ho2, Go2⟩ := id V_b1
  have hino2 : ¬ ((0 : Int32) < 0 ∨ clo2.slots.size ≤ ((0 : Int32)).toNatClampNeg) := inb_of So2 ⟨by decide, by decide⟩
  obtain ⟨T3, h3, X3, e3, W3, st3⟩ := stB X1 hx hZ e1 Aro2 (j := (0 : Int32)) hino2 (g := (mkF m 7 #[.val (.int p0), .val (.int p1), .val (.int p2), .val (.int p3), .val (.int p4), .val (.int p5), .unset, .unset, .unset, .unset, .unset, .unset, .unset, .unset, .unset, .unset, .unset, .unset, .unset, .unset] [(.int (1 : Int32)), (.int (0 : Int32)), (.ref b1), (.ref b1)])) rfl rfl (hb hby at_7)
  have V3 : Arv Z h3 b1 k1 .byte (32 : Int32) [(.int (nar .byte (1 : Int32))), (.int (0 : Int32)), (.int (0 : Int32)), (.int (0 : Int32)), (.int (0 : Int32)), (.int (0 : Int32)), (.int (0 : Int32)), (.int (0 : Int32)), (.int (0 : Int32)), (.int (0 : Int32)), (.int (0 : Int32)), (.int (0 : Int32)), (.int (0 : Int32)), (.int (0 : Int32)), (.int (0 : Int32)), (.int (0 : Int32)), (.int (0 : Int32)), (.int (0 : Int32)), (.int (0 : Int32)), (.int (0 : Int32)), (.int (0 : Int32)), (.int (0 : Int32)), (.int (0 : Int32)), (.int (0 : Int32)), (.int (0 : Int32)), (.int (0 : Int32)), (.int (0 : Int32)), (.int (0 : Int32)), (.int (0 : Int32)), (.int (0 : Int32)), (.int (0 : Int32)), (.int (0 : Int32))] (.int (0 : Int32)) := Arv.set Aro2 qo2 So2 No2 Ho2 Go2 (fits_nar_byte _) W3 0 rfl (Nat.le_of_ble_eq_true rfl)
  have K3 := K1.wr W3 (Or.inr sz_b1)
  have N3 := Fr.snoc X3 N0 g_b1
  obtain ⟨clo4, Aro4, qo4, So4, No4, Ho4, Go4⟩ := id V3
  have hino4 : ¬ ((1 : Int32) < 0 ∨ clo4.slots.size ≤ ((1 : Int32)).toNatClampNeg) := inb_of So4 ⟨by decide, by decide⟩
  obtain ⟨T5, h5, X5, e5, W5, st5⟩ := stB X3 hx hZ e3 Aro4 (j := (1 : Int32)) hino4 (g := (mkF m 11 #[.val (.int p0), .val (.int p1), .val (.int p2), .val (.int p3), .val (.int p4), .val (.int p5), .unset, .unset, .unset, .unset, .unset, .unset, .unset, .unset, .unset, .unset, .unset, .unset, .unset, .unset] [(.int (1 : Int32)), (.int (1 : Int32)), (.ref b1), (.ref b1)])) rfl rfl (hb hby at_11)
  have V5 : Arv Z h5 b1 k1 .byte (32 : Int32) [(.int (nar .byte (1 : Int32))), (.int (nar .byte (1 : Int32))), (.int (0 : Int32)), (.int (0 : Int32)), (.int (0 : Int32)), (.int (0 : Int32)), (.int (0 : Int32)), (.int (0 : Int32)), (.int (0 : Int32)), (.int (0 : Int32)), (.int (0 : Int32)), (.int (0 : Int32)), (.int (0 : Int32)), (.int (0 : Int32)), (.int (0 : Int32)), (.int (0 : Int32)), (.int (0 : Int32)), (.int (0 : Int32)), (.int (0 : Int32)), (.int (0 : Int32)), (.int (0 : Int32)), (.int (0 : Int32)), (.int (0 : Int32)), (.int (0 : Int32)), (.int (0 : Int32)), (.int (0 : Int32)), (.int (0 : Int32)), (.int (0 : Int32)), (.int (0 : Int32)), (.int (0 : Int32)), (.int (0 : Int32)), (.int (0 : Int32))] (.int (0 : Int32)) := Arv.set Aro4 qo4 So4 No4 Ho4 Go4 (fits_nar_byte _) W5 1 rfl (Nat.le_of_ble_eq_true rfl)
  have K5 := K3.wr W5 (Or.inr sz_b1)
  have N5 := Fr.snoc X5 N3 g_b1
  obtain ⟨clo6, Aro6, qo6, So6, No6, Ho6, Go6⟩ := id V5
  have hino6 : ¬ ((2 : Int32) < 0 ∨ clo6.slots.size ≤ ((2 : Int32)).toNatClampNeg) := inb_of So6 ⟨by decide, by decide⟩
  obtain ⟨T7, h7, X7, e7, W7, st7⟩ := stB X5 hx hZ e5 Aro6 (j := (2 : Int32)) hino6 (g := (mkF m 15 #[.val (.int p0), .val (.int p1), .val (.int p2), .val (.int p3), .val (.int p4), .val (.int p5), .unset, .unset, .unset, .unset, .unset, .unset, .unset, .unset, .unset, .unset, .unset, .unset, .unset, .unset] [(.int (1 : Int32)), (.int (2 : Int32)), (.ref b1), (.ref b1)])) rfl rfl (hb hby at_15)
  have V7 : Arv Z h7 b1 k1 .byte (32 : Int32) [(.int (nar .byte (1 : Int32))), (.int (nar .byte (1 : Int32))), (.int (nar .byte (1 : Int32))), (.int (0 : Int32)), (.int (0 : Int32)), (.int (0 : Int32)), (.int (0 : Int32)), (.int (0 : Int32)), (.int (0 : Int32)), (.int (0 : Int32)), (.int (0 : Int32)), (.int (0 : Int32)), (.int (0 : Int32)), (.int (0 : Int32)), (.int (0 : Int32)), (.int (0 : Int32)), (.int (0 : Int32)), (.int (0 : Int32)), (.int (0 : Int32)), (.int (0 : Int32)), (.int (0 : Int32)), (.int (0 : Int32)), (.int (0 : Int32)), (.int (0 : Int32)), (.int (0 : Int32)), (.int (0 : Int32)), (.int (0 : Int32)), (.int (0 : Int32)), (.int (0 : Int32)), (.int (0 : Int32)), (.int (0 : Int32)), (.int (0 : Int32))] (.int (0 : Int32)) := Arv.set Aro6 qo6 So6 No6 Ho6 Go6 (fits_nar_byte _) W7 2 rfl (Nat.le_of_ble_eq_true rfl)
  have K7 := K5.wr W7 (Or.inr sz_b1)
  have N7 := Fr.snoc X7 N5 g_b1
  obtain ⟨clo8, Aro8, qo8, So8, No8, Ho8, Go8⟩ := id V7
  have hino8 : ¬ ((3 : Int32) < 0 ∨ clo8.slots.size ≤ ((3 : Int32)).toNatClampNeg) := inb_of So8 ⟨by decide, by decide⟩
  obtain ⟨T9, h9, X9, e9, W9, st9⟩ := stB X7 hx hZ e7 Aro8 (j := (3 : Int32)) hino8 (g := (mkF m 19 #[.val (.int p0), .val (.int p1), .val (.int p2), .val (.int p3), .val (.int p4), .val (.int p5), .unset, .unset, .unset, .unset, .unset, .unset, .unset, .unset, .unset, .unset, .unset, .unset, .unset, .unset] [(.int (1 : Int32)), (.int (3 : Int32)), (.ref b1), (.ref b1)])) rfl rfl (hb hby at_19)
  have V9 : Arv Z h9 b1 k1 .byte (32 : Int32) [(.int (nar .byte (1 : Int32))), (.int (nar .byte (1 : Int32))), (.int (nar .byte (1 : Int32))), (.int (nar .byte (1 : Int32))), (.int (0 : Int32)), (.int (0 : Int32)), (.int (0 : Int32)), (.int (0 : Int32)), (.int (0 : Int32)), (.int (0 : Int32)), (.int (0 : Int32)), (.int (0 : Int32)), (.int (0 : Int32)), (.int (0 : Int32)), (.int (0 : Int32)), (.int (0 : Int32)), (.int (0 : Int32)), (.int (0 : Int32)), (.int (0 : Int32)), (.int (0 : Int32)), (.int (0 : Int32)), (.int (0 : Int32)), (.int (0 : Int32)), (.int (0 : Int32)), (.int (0 : Int32)), (.int (0 : Int32)), (.int (0 : Int32)), (.int (0 : Int32)), (.int (0 : Int32)), (.int (0 : Int32)), (.int (0 : Int32)), (.int (0 : Int32))] (.int (0 : Int32)) := Arv.set Aro8 qo8 So8 No8 Ho8 Go8 (fits_nar_byte _) W9 3 rfl (Nat.le_of_ble_eq_true rfl)
  have K9 := K7.wr W9 (Or.inr sz_b1)
  have N9 := Fr.snoc X9 N7 g_b1
  obtain ⟨clo10, Aro10, qo10, So10, No10, Ho10, Go10⟩ := id V9
  have hino10 : ¬ ((4 : Int32) < 0 ∨ clo10.slots.size ≤ ((4 : Int32)).toNatClampNeg) := inb_of So10 ⟨by decide, by decide⟩
  obtain ⟨T11, h11, X11, e11, W11, st11⟩ := stB X9 hx hZ e9 Aro10 (j := (4 : Int32)) hino10 (g := (mkF m 23 #[.val (.int p0), .val (.int p1), .val (.int p2), .val (.int p3), .val (.int p4), .val (.int p5), .unset, .unset, .unset, .unset, .unset, .unset, .unset, .unset, .unset, .unset, .unset, .unset, .unset, .unset] [(.int (1 : Int32)), (.int (4 : Int32)), (.ref b1), (.ref b1)])) rfl rfl (hb hby at_23)
  have V11 : Arv Z h11 b1 k1 .byte (32 : Int32) [(.int (nar .byte (1 : Int32))), (.int (nar .byte (1 : Int32))), (.int (nar .byte (1 : Int32))), (.int (nar .byte (1 : Int32))), (.int (nar .byte (1 : Int32))), (.int (0 : Int32)), (.int (0 : Int32)), (.int (0 : Int32)), (.int (0 : Int32)), (.int (0 : Int32)), (.int (0 : Int32)), (.int (0 : Int32)), (.int (0 : Int32)), (.int (0 : Int32)), (.int (0 : Int32)), (.int (0 : Int32)), (.int (0 : Int32)), (.int (0 : Int32)), (.int (0 : Int32)), (.int (0 : Int32)), (.int (0 : Int32)), (.int (0 : Int32)), (.int (0 : Int32)), (.int (0 : Int32)), (.int (0 : Int32)), (.int (0 : Int32)), (.int (0 : Int32)), (.int (0 : Int32)), (.int (0 : Int32)), (.int (0 : Int32)), (.int (0 : Int32)), (.int (0 : Int32))] (.int (0 : Int32)) := Arv.set Aro10 qo10 So10 No10 Ho10 Go10 (fits_nar_byte _) W11 4 rfl (Nat.le_of_ble_eq_true rfl)
  have K11 := K9.wr W11 (Or.inr sz_b1)
  have N11 := Fr.snoc X11 N9 g_b1
  obtain ⟨clo12, Aro12, qo12, So12, No12, Ho12, Go12⟩ := id V11
  have hino12 : ¬ ((5 : Int32) < 0 ∨ clo12.slots.size ≤ ((5 : Int32)).toNatClampNeg) := inb_of So12 ⟨by decide, by decide⟩
  obtain ⟨T13, h13, X13, e13, W13, st13⟩ := stB X11 hx hZ e11 Aro12 (j := (5 : Int32)) hino12 (g := (mkF m 27 #[.val (.int p0), .val (.int p1), .val (.int p2), .val (.int p3), .val (.int p4), .val (.int p5), .unset, .unset, .unset, .unset, .unset, .unset, .unset, .unset, .unset, .unset, .unset, .unset, .unset, .unset] [(.int (1 : Int32)), (.int (5 : Int32)), (.ref b1), (.ref b1)])) rfl rfl (hb hby at_27)
  have V13 : Arv Z h13 b1 k1 .byte (32 : Int32) [(.int (nar .byte (1 : Int32))), (.int (nar .byte (1 : Int32))), (.int (nar .byte (1 : Int32))), (.int (nar .byte (1 : Int32))), (.int (nar .byte (1 : Int32))), (.int (nar .byte (1 : Int32))), (.int (0 : Int32)), (.int (0 : Int32)), (.int (0 : Int32)), (.int (0 : Int32)), (.int (0 : Int32)), (.int (0 : Int32)), (.int (0 : Int32)), (.int (0 : Int32)), (.int (0 : Int32)), (.int (0 : Int32)), (.int (0 : Int32)), (.int (0 : Int32)), (.int (0 : Int32)), (.int (0 : Int32)), (.int (0 : Int32)), (.int (0 : Int32)), (.int (0 : Int32)), (.int (0 : Int32)), (.int (0 : Int32)), (.int (0 : Int32)), (.int (0 : Int32)), (.int (0 : Int32)), (.int (0 : Int32)), (.int (0 : Int32)), (.int (0 : Int32)), (.int (0 : Int32))] (.int (0 : Int32)) := Arv.set Aro12 qo12 So12 No12 Ho12 Go12 (fits_nar_byte _) W13 5 rfl (Nat.le_of_ble_eq_true rfl)
  have K13 := K11.wr W13 (Or.inr sz_b1)
  have N13 := Fr.snoc X13 N11 g_b1
  obtain ⟨clo14, Aro14, qo14, So14, No14, Ho14, Go14⟩ := id V13
  have hino14 : ¬ ((6 : Int32) < 0 ∨ clo14.slots.size ≤ ((6 : Int32)).toNatClampNeg) := inb_of So14 ⟨by decide, by decide⟩
  obtain ⟨T15, h15, X15, e15, W15, st15⟩ := stB X13 hx hZ e13 Aro14 (j := (6 : Int32)) hino14 (g := (mkF m 32 #[.val (.int p0), .val (.int p1), .val (.int p2), .val (.int p3), .val (.int p4), .val (.int p5), .unset, .unset, .unset, .unset, .unset, .unset, .unset, .unset, .unset, .unset, .unset, .unset, .unset, .unset] [(.int (1 : Int32)), (.int (6 : Int32)), (.ref b1), (.ref b1)])) rfl rfl (hb hby at_32)
  have V15 : Arv Z h15 b1 k1 .byte (32 : Int32) [(.int (nar .byte (1 : Int32))), (.int (nar .byte (1 : Int32))), (.int (nar .byte (1 : Int32))), (.int (nar .byte (1 : Int32))), (.int (nar .byte (1 : Int32))), (.int (nar .byte (1 : Int32))), (.int (nar .byte (1 : Int32))), (.int (0 : Int32)), (.int (0 : Int32)), (.int (0 : Int32)), (.int (0 : Int32)), (.int (0 : Int32)), (.int (0 : Int32)), (.int (0 : Int32)), (.int (0 : Int32)), (.int (0 : Int32)), (.int (0 : Int32)), (.int (0 : Int32)), (.int (0 : Int32)), (.int (0 : Int32)), (.int (0 : Int32)), (.int (0 : Int32)), (.int (0 : Int32)), (.int (0 : Int32)), (.int (0 : Int32)), (.int (0 : Int32)), (.int (0 : Int32)), (.int (0 : Int32)), (.int (0 : Int32)), (.int (0 : Int32)), (.int (0 : Int32)), (.int (0 : Int32))] (.int (0 : Int32)) := Arv.set Aro14 qo14 So14 No14 Ho14 Go14 (fits_nar_byte _) W15 6 rfl (Nat.le_of_ble_eq_true rfl)
  have K15 := K13.wr W15 (Or.inr sz_b1)
  have N15 := Fr.snoc X15 N13 g_b1
  obtain ⟨clo16, Aro16, qo16, So16, No16, Ho16, Go16⟩ := id V15
  have hino16 : ¬ ((7 : Int32) < 0 ∨ clo16.slots.size ≤ ((7 : Int32)).toNatClampNeg) := inb_of So16 ⟨by decide, by decide⟩
  obtain ⟨T17, h17, X17, e17, W17, st17⟩ := stB X15 hx hZ e15 Aro16 (j := (7 : Int32)) hino16 (g := (mkF m 37 #[.val (.int p0), .val (.int p1), .val (.int p2), .val (.int p3), .val (.int p4), .val (.int p5), .unset, .unset, .unset, .unset, .unset, .unset, .unset, .unset, .unset, .unset, .unset, .unset, .unset, .unset] [(.int (1 : Int32)), (.int (7 : Int32)), (.ref b1), (.ref b1)])) rfl rfl (hb hby at_37)
  have V17 : Arv Z h17 b1 k1 .byte (32 : Int32) [(.int (nar .byte (1 : Int32))), (.int (nar .byte (1 : Int32))), (.int (nar .byte (1 : Int32))), (.int (nar .byte (1 : Int32))), (.int (nar .byte (1 : Int32))), (.int (nar .byte (1 : Int32))), (.int (nar .byte (1 : Int32))), (.int (nar .byte (1 : Int32))), (.int (0 : Int32)), (.int (0 : Int32)), (.int (0 : Int32)), (.int (0 : Int32)), (.int (0 : Int32)), (.int (0 : Int32)), (.int (0 : Int32)), (.int (0 : Int32)), (.int (0 : Int32)), (.int (0 : Int32)), (.int (0 : Int32)), (.int (0 : Int32)), (.int (0 : Int32)), (.int (0 : Int32)), (.int (0 : Int32)), (.int (0 : Int32)), (.int (0 : Int32)), (.int (0 : Int32)), (.int (0 : Int32)), (.int (0 : Int32)), (.int (0 : Int32)), (.int (0 : Int32)), (.int (0 : Int32)), (.int (0 : Int32))] (.int (0 : Int32)) := Arv.set Aro16 qo16 So16 No16 Ho16 Go16 (fits_nar_byte _) W17 7 rfl (Nat.le_of_ble_eq_true rfl)
  have K17 := K15.wr W17 (Or.inr sz_b1)
  have N17 := Fr.snoc X17 N15 g_b1
  obtain ⟨clo18, Aro18, qo18, So18, No18, Ho18, Go18⟩ := id V17
  have hino18 : ¬ ((8 : Int32) < 0 ∨ clo18.slots.size ≤ ((8 : Int32)).toNatClampNeg) := inb_of So18 ⟨by decide, by decide⟩
  obtain ⟨T19, h19, X19, e19, W19, st19⟩ := stB X17 hx hZ e17 Aro18 (j := (8 : Int32)) hino18 (g := (mkF m 42 #[.val (.int p0), .val (.int p1), .val (.int p2), .val (.int p3), .val (.int p4), .val (.int p5), .unset, .unset, .unset, .unset, .unset, .unset, .unset, .unset, .unset, .unset, .unset, .unset, .unset, .unset] [(.int (1 : Int32)), (.int (8 : Int32)), (.ref b1), (.ref b1)])) rfl rfl (hb hby at_42)
  have V19 : Arv Z h19 b1 k1 .byte (32 : Int32) [(.int (nar .byte (1 : Int32))), (.int (nar .byte (1 : Int32))), (.int (nar .byte (1 : Int32))), (.int (nar .byte (1 : Int32))), (.int (nar .byte (1 : Int32))), (.int (nar .byte (1 : Int32))), (.int (nar .byte (1 : Int32))), (.int (nar .byte (1 : Int32))), (.int (nar .byte (1 : Int32))), (.int (0 : Int32)), (.int (0 : Int32)), (.int (0 : Int32)), (.int (0 : Int32)), (.int (0 : Int32)), (.int (0 : Int32)), (.int (0 : Int32)), (.int (0 : Int32)), (.int (0 : Int32)), (.int (0 : Int32)), (.int (0 : Int32)), (.int (0 : Int32)), (.int (0 : Int32)), (.int (0 : Int32)), (.int (0 : Int32)), (.int (0 : Int32)), (.int (0 : Int32)), (.int (0 : Int32)), (.int (0 : Int32)), (.int (0 : Int32)), (.int (0 : Int32)), (.int (0 : Int32)), (.int (0 : Int32))] (.int (0 : Int32)) := Arv.set Aro18 qo18 So18 No18 Ho18 Go18 (fits_nar_byte _) W19 8 rfl (Nat.le_of_ble_eq_true rfl)
  have K19 := K17.wr W19 (Or.inr sz_b1)
  have N19 := Fr.snoc X19 N17 g_b1
  obtain ⟨clo20, Aro20, qo20, So20, No20, Ho20, Go20⟩ := id V19
  have hino20 : ¬ ((9 : Int32) < 0 ∨ clo20.slots.size ≤ ((9 : Int32)).toNatClampNeg) := inb_of So20 ⟨by decide, by decide⟩
  obtain ⟨T21, h21, X21, e21, W21, st21⟩ := stB X19 hx hZ e19 Aro20 (j := (9 : Int32)) hino20 (g := (mkF m 47 #[.val (.int p0), .val (.int p1), .val (.int p2), .val (.int p3), .val (.int p4), .val (.int p5), .unset, .unset, .unset, .unset, .unset, .unset, .unset, .unset, .unset, .unset, .unset, .unset, .unset, .unset] [(.int (1 : Int32)), (.int (9 : Int32)), (.ref b1), (.ref b1)])) rfl rfl (hb hby at_47)
  have V21 : Arv Z h21 b1 k1 .byte (32 : Int32) [(.int (nar .byte (1 : Int32))), (.int (nar .byte (1 : Int32))), (.int (nar .byte (1 : Int32))), (.int (nar .byte (1 : Int32))), (.int (nar .byte (1 : Int32))), (.int (nar .byte (1 : Int32))), (.int (nar .byte (1 : Int32))), (.int (nar .byte (1 : Int32))), (.int (nar .byte (1 : Int32))), (.int (nar .byte (1 : Int32))), (.int (0 : Int32)), (.int (0 : Int32)), (.int (0 : Int32)), (.int (0 : Int32)), (.int (0 : Int32)), (.int (0 : Int32)), (.int (0 : Int32)), (.int (0 : Int32)), (.int (0 : Int32)), (.int (0 : Int32)), (.int (0 : Int32)), (.int (0 : Int32)), (.int (0 : Int32)), (.int (0 : Int32)), (.int (0 : Int32)), (.int (0 : Int32)), (.int (0 : Int32)), (.int (0 : Int32)), (.int (0 : Int32)), (.int (0 : Int32)), (.int (0 : Int32)), (.int (0 : Int32))] (.int (0 : Int32)) := Arv.set Aro20 qo20 So20 No20 Ho20 Go20 (fits_nar_byte _) W21 9 rfl (Nat.le_of_ble_eq_true rfl)
  have K21 := K19.wr W21 (Or.inr sz_b1)
  have N21 := Fr.snoc X21 N19 g_b1
  obtain ⟨clo22, Aro22, qo22, So22, No22, Ho22, Go22⟩ := id V21
  have hino22 : ¬ ((10 : Int32) < 0 ∨ clo22.slots.size ≤ ((10 : Int32)).toNatClampNeg) := inb_of So22 ⟨by decide, by decide⟩
  obtain ⟨T23, h23, X23, e23, W23, st23⟩ := stB X21 hx hZ e21 Aro22 (j := (10 : Int32)) hino22 (g := (mkF m 52 #[.val (.int p0), .val (.int p1), .val (.int p2), .val (.int p3), .val (.int p4), .val (.int p5), .unset, .unset, .unset, .unset, .unset, .unset, .unset, .unset, .unset, .unset, .unset, .unset, .unset, .unset] [(.int (1 : Int32)), (.int (10 : Int32)), (.ref b1), (.ref b1)])) rfl rfl (hb hby at_52)
  have V23 : Arv Z h23 b1 k1 .byte (32 : Int32) [(.int (nar .byte (1 : Int32))), (.int (nar .byte (1 : Int32))), (.int (nar .byte (1 : Int32))), (.int (nar .byte (1 : Int32))), (.int (nar .byte (1 : Int32))), (.int (nar .byte (1 : Int32))), (.int (nar .byte (1 : Int32))), (.int (nar .byte (1 : Int32))), (.int (nar .byte (1 : Int32))), (.int (nar .byte (1 : Int32))), (.int (nar .byte (1 : Int32))), (.int (0 : Int32)), (.int (0 : Int32)), (.int (0 : Int32)), (.int (0 : Int32)), (.int (0 : Int32)), (.int (0 : Int32)), (.int (0 : Int32)), (.int (0 : Int32)), (.int (0 : Int32)), (.int (0 : Int32)), (.int (0 : Int32)), (.int (0 : Int32)), (.int (0 : Int32)), (.int (0 : Int32)), (.int (0 : Int32)), (.int (0 : Int32)), (.int (0 : Int32)), (.int (0 : Int32)), (.int (0 : Int32)), (.int (0 : Int32)), (.int (0 : Int32))] (.int (0 : Int32)) := Arv.set Aro22 qo22 So22 No22 Ho22 Go22 (fits_nar_byte _) W23 10 rfl (Nat.le_of_ble_eq_true rfl)
  have K23 := K21.wr W23 (Or.inr sz_b1)
  have N23 := Fr.snoc X23 N21 g_b1
  obtain ⟨clo24, Aro24, qo24, So24, No24, Ho24, Go24⟩ := id V23
  have hino24 : ¬ ((11 : Int32) < 0 ∨ clo24.slots.size ≤ ((11 : Int32)).toNatClampNeg) := inb_of So24 ⟨by decide, by decide⟩
  obtain ⟨T25, h25, X25, e25, W25, st25⟩ := stB X23 hx hZ e23 Aro24 (j := (11 : Int32)) hino24 (g := (mkF m 57 #[.val (.int p0), .val (.int p1), .val (.int p2), .val (.int p3), .val (.int p4), .val (.int p5), .unset, .unset, .unset, .unset, .unset, .unset, .unset, .unset, .unset, .unset, .unset, .unset, .unset, .unset] [(.int (1 : Int32)), (.int (11 : Int32)), (.ref b1), (.ref b1)])) rfl rfl (hb hby at_57)
  have V25 : Arv Z h25 b1 k1 .byte (32 : Int32) [(.int (nar .byte (1 : Int32))), (.int (nar .byte (1 : Int32))), (.int (nar .byte (1 : Int32))), (.int (nar .byte (1 : Int32))), (.int (nar .byte (1 : Int32))), (.int (nar .byte (1 : Int32))), (.int (nar .byte (1 : Int32))), (.int (nar .byte (1 : Int32))), (.int (nar .byte (1 : Int32))), (.int (nar .byte (1 : Int32))), (.int (nar .byte (1 : Int32))), (.int (nar .byte (1 : Int32))), (.int (0 : Int32)), (.int (0 : Int32)), (.int (0 : Int32)), (.int (0 : Int32)), (.int (0 : Int32)), (.int (0 : Int32)), (.int (0 : Int32)), (.int (0 : Int32)), (.int (0 : Int32)), (.int (0 : Int32)), (.int (0 : Int32)), (.int (0 : Int32)), (.int (0 : Int32)), (.int (0 : Int32)), (.int (0 : Int32)), (.int (0 : Int32)), (.int (0 : Int32)), (.int (0 : Int32)), (.int (0 : Int32)), (.int (0 : Int32))] (.int (0 : Int32)) := Arv.set Aro24 qo24 So24 No24 Ho24 Go24 (fits_nar_byte _) W25 11 rfl (Nat.le_of_ble_eq_true rfl)
  have K25 := K23.wr W25 (Or.inr sz_b1)
  have N25 := Fr.snoc X25 N23 g_b1
  obtain ⟨clo26, Aro26, qo26, So26, No26, Ho26, Go26⟩ := id V25
  have hino26 : ¬ ((12 : Int32) < 0 ∨ clo26.slots.size ≤ ((12 : Int32)).toNatClampNeg) := inb_of So26 ⟨by decide, by decide⟩
  obtain ⟨T27, h27, X27, e27, W27, st27⟩ := stB X25 hx hZ e25 Aro26 (j := (12 : Int32)) hino26 (g := (mkF m 62 #[.val (.int p0), .val (.int p1), .val (.int p2), .val (.int p3), .val (.int p4), .val (.int p5), .unset, .unset, .unset, .unset, .unset, .unset, .unset, .unset, .unset, .unset, .unset, .unset, .unset, .unset] [(.int (1 : Int32)), (.int (12 : Int32)), (.ref b1), (.ref b1)])) rfl rfl (hb hby at_62)
  have V27 : Arv Z h27 b1 k1 .byte (32 : Int32) [(.int (nar .byte (1 : Int32))), (.int (nar .byte (1 : Int32))), (.int (nar .byte (1 : Int32))), (.int (nar .byte (1 : Int32))), (.int (nar .byte (1 : Int32))), (.int (nar .byte (1 : Int32))), (.int (nar .byte (1 : Int32))), (.int (nar .byte (1 : Int32))), (.int (nar .byte (1 : Int32))), (.int (nar .byte (1 : Int32))), (.int (nar .byte (1 : Int32))), (.int (nar .byte (1 : Int32))), (.int (nar .byte (1 : Int32))), (.int (0 : Int32)), (.int (0 : Int32)), (.int (0 : Int32)), (.int (0 : Int32)), (.int (0 : Int32)), (.int (0 : Int32)), (.int (0 : Int32)), (.int (0 : Int32)), (.int (0 : Int32)), (.int (0 : Int32)), (.int (0 : Int32)), (.int (0 : Int32)), (.int (0 : Int32)), (.int (0 : Int32)), (.int (0 : Int32)), (.int (0 : Int32)), (.int (0 : Int32)), (.int (0 : Int32)), (.int (0 : Int32))] (.int (0 : Int32)) := Arv.set Aro26 qo26 So26 No26 Ho26 Go26 (fits_nar_byte _) W27 12 rfl (Nat.le_of_ble_eq_true rfl)
  have K27 := K25.wr W27 (Or.inr sz_b1)
  have N27 := Fr.snoc X27 N25 g_b1
  obtain ⟨clo28, Aro28, qo28, So28, No28, Ho28, Go28⟩ := id V27
  have hino28 : ¬ ((13 : Int32) < 0 ∨ clo28.slots.size ≤ ((13 : Int32)).toNatClampNeg) := inb_of So28 ⟨by decide, by decide⟩
  obtain ⟨T29, h29, X29, e29, W29, st29⟩ := stB X27 hx hZ e27 Aro28 (j := (13 : Int32)) hino28 (g := (mkF m 67 #[.val (.int p0), .val (.int p1), .val (.int p2), .val (.int p3), .val (.int p4), .val (.int p5), .unset, .unset, .unset, .unset, .unset, .unset, .unset, .unset, .unset, .unset, .unset, .unset, .unset, .unset] [(.int (1 : Int32)), (.int (13 : Int32)), (.ref b1), (.ref b1)])) rfl rfl (hb hby at_67)
  have V29 : Arv Z h29 b1 k1 .byte (32 : Int32) [(.int (nar .byte (1 : Int32))), (.int (nar .byte (1 : Int32))), (.int (nar .byte (1 : Int32))), (.int (nar .byte (1 : Int32))), (.int (nar .byte (1 : Int32))), (.int (nar .byte (1 : Int32))), (.int (nar .byte (1 : Int32))), (.int (nar .byte (1 : Int32))), (.int (nar .byte (1 : Int32))), (.int (nar .byte (1 : Int32))), (.int (nar .byte (1 : Int32))), (.int (nar .byte (1 : Int32))), (.int (nar .byte (1 : Int32))), (.int (nar .byte (1 : Int32))), (.int (0 : Int32)), (.int (0 : Int32)), (.int (0 : Int32)), (.int (0 : Int32)), (.int (0 : Int32)), (.int (0 : Int32)), (.int (0 : Int32)), (.int (0 : Int32)), (.int (0 : Int32)), (.int (0 : Int32)), (.int (0 : Int32)), (.int (0 : Int32)), (.int (0 : Int32)), (.int (0 : Int32)), (.int (0 : Int32)), (.int (0 : Int32)), (.int (0 : Int32)), (.int (0 : Int32))] (.int (0 : Int32)) := Arv.set Aro28 qo28 So28 No28 Ho28 Go28 (fits_nar_byte _) W29 13 rfl (Nat.le_of_ble_eq_true rfl)
  have K29 := K27.wr W29 (Or.inr sz_b1)
  have N29 := Fr.snoc X29 N27 g_b1
  obtain ⟨clo30, Aro30, qo30, So30, No30, Ho30, Go30⟩ := id V29
  have hino30 : ¬ ((14 : Int32) < 0 ∨ clo30.slots.size ≤ ((14 : Int32)).toNatClampNeg) := inb_of So30 ⟨by decide, by decide⟩
  obtain ⟨T31, h31, X31, e31, W31, st31⟩ := stB X29 hx hZ e29 Aro30 (j := (14 : Int32)) hino30 (g := (mkF m 72 #[.val (.int p0), .val (.int p1), .val (.int p2), .val (.int p3), .val (.int p4), .val (.int p5), .unset, .unset, .unset, .unset, .unset, .unset, .unset, .unset, .unset, .unset, .unset, .unset, .unset, .unset] [(.int (1 : Int32)), (.int (14 : Int32)), (.ref b1), (.ref b1)])) rfl rfl (hb hby at_72)
  have V31 : Arv Z h31 b1 k1 .byte (32 : Int32) [(.int (nar .byte (1 : Int32))), (.int (nar .byte (1 : Int32))), (.int (nar .byte (1 : Int32))), (.int (nar .byte (1 : Int32))), (.int (nar .byte (1 : Int32))), (.int (nar .byte (1 : Int32))), (.int (nar .byte (1 : Int32))), (.int (nar .byte (1 : Int32))), (.int (nar .byte (1 : Int32))), (.int (nar .byte (1 : Int32))), (.int (nar .byte (1 : Int32))), (.int (nar .byte (1 : Int32))), (.int (nar .byte (1 : Int32))), (.int (nar .byte (1 : Int32))), (.int (nar .byte (1 : Int32))), (.int (0 : Int32)), (.int (0 : Int32)), (.int (0 : Int32)), (.int (0 : Int32)), (.int (0 : Int32)), (.int (0 : Int32)), (.int (0 : Int32)), (.int (0 : Int32)), (.int (0 : Int32)), (.int (0 : Int32)), (.int (0 : Int32)), (.int (0 : Int32)), (.int (0 : Int32)), (.int (0 : Int32)), (.int (0 : Int32)), (.int (0 : Int32)), (.int (0 : Int32))] (.int (0 : Int32)) := Arv.set Aro30 qo30 So30 No30 Ho30 Go30 (fits_nar_byte _) W31 14 rfl (Nat.le_of_ble_eq_true rfl)
  have K31 := K29.wr W31 (Or.inr sz_b1)
  have N31 := Fr.snoc X31 N29 g_b1
  obtain ⟨clo32, Aro32, qo32, So32, No32, Ho32, Go32⟩ := id V31
  have hino32 : ¬ ((15 : Int32) < 0 ∨ clo32.slots.size ≤ ((15 : Int32)).toNatClampNeg) := inb_of So32 ⟨by decide, by decide⟩
  obtain ⟨T33, h33, X33, e33, W33, st33⟩ := stB X31 hx hZ e31 Aro32 (j := (15 : Int32)) hino32 (g := (mkF m 77 #[.val (.int p0), .val (.int p1), .val (.int p2), .val (.int p3), .val (.int p4), .val (.int p5), .unset, .unset, .unset, .unset, .unset, .unset, .unset, .unset, .unset, .unset, .unset, .unset, .unset, .unset] [(.int (1 : Int32)), (.int (15 : Int32)), (.ref b1), (.ref b1)])) rfl rfl (hb hby at_77)
  have V33 : Arv Z h33 b1 k1 .byte (32 : Int32) [(.int (nar .byte (1 : Int32))), (.int (nar .byte (1 : Int32))), (.int (nar .byte (1 : Int32))), (.int (nar .byte (1 : Int32))), (.int (nar .byte (1 : Int32))), (.int (nar .byte (1 : Int32))), (.int (nar .byte (1 : Int32))), (.int (nar .byte (1 : Int32))), (.int (nar .byte (1 : Int32))), (.int (nar .byte (1 : Int32))), (.int (nar .byte (1 : Int32))), (.int (nar .byte (1 : Int32))), (.int (nar .byte (1 : Int32))), (.int (nar .byte (1 : Int32))), (.int (nar .byte (1 : Int32))), (.int (nar .byte (1 : Int32))), (.int (0 : Int32)), (.int (0 : Int32)), (.int (0 : Int32)), (.int (0 : Int32)), (.int (0 : Int32)), (.int (0 : Int32)), (.int (0 : Int32)), (.int (0 : Int32)), (.int (0 : Int32)), (.int (0 : Int32)), (.int (0 : Int32)), (.int (0 : Int32)), (.int (0 : Int32)), (.int (0 : Int32)), (.int (0 : Int32)), (.int (0 : Int32))] (.int (0 : Int32)) := Arv.set Aro32 qo32 So32 No32 Ho32 Go32 (fits_nar_byte _) W33 15 rfl (Nat.le_of_ble_eq_true rfl)
  have K33 := K31.wr W33 (Or.inr sz_b1)
  have N33 := Fr.snoc X33 N31 g_b1
  obtain ⟨clo34, Aro34, qo34, So34, No34, Ho34, Go34⟩ := id V33
  have hino34 : ¬ ((16 : Int32) < 0 ∨ clo34.slots.size ≤ ((16 : Int32)).toNatClampNeg) := inb_of So34 ⟨by decide, by decide⟩
  obtain ⟨T35, h35, X35, e35, W35, st35⟩ := stB X33 hx hZ e33 Aro34 (j := (16 : Int32)) hino34 (g := (mkF m 82 #[.val (.int p0), .val (.int p1), .val (.int p2), .val (.int p3), .val (.int p4), .val (.int p5), .unset, .unset, .unset, .unset, .unset, .unset, .unset, .unset, .unset, .unset, .unset, .unset, .unset, .unset] [(.int (1 : Int32)), (.int (16 : Int32)), (.ref b1), (.ref b1)])) rfl rfl (hb hby at_82)
  have V35 : Arv Z h35 b1 k1 .byte (32 : Int32) [(.int (nar .byte (1 : Int32))), (.int (nar .byte (1 : Int32))), (.int (nar .byte (1 : Int32))), (.int (nar .byte (1 : Int32))), (.int (nar .byte (1 : Int32))), (.int (nar .byte (1 : Int32))), (.int (nar .byte (1 : Int32))), (.int (nar .byte (1 : Int32))), (.int (nar .byte (1 : Int32))), (.int (nar .byte (1 : Int32))), (.int (nar .byte (1 : Int32))), (.int (nar .byte (1 : Int32))), (.int (nar .byte (1 : Int32))), (.int (nar .byte (1 : Int32))), (.int (nar .byte (1 : Int32))), (.int (nar .byte (1 : Int32))), (.int (nar .byte (1 : Int32))), (.int (0 : Int32)), (.int (0 : Int32)), (.int (0 : Int32)), (.int (0 : Int32)), (.int (0 : Int32)), (.int (0 : Int32)), (.int (0 : Int32)), (.int (0 : Int32)), (.int (0 : Int32)), (.int (0 : Int32)), (.int (0 : Int32)), (.int (0 : Int32)), (.int (0 : Int32)), (.int (0 : Int32)), (.int (0 : Int32))] (.int (0 : Int32)) := Arv.set Aro34 qo34 So34 No34 Ho34 Go34 (fits_nar_byte _) W35 16 rfl (Nat.le_of_ble_eq_true rfl)
  have K35 := K33.wr W35 (Or.inr sz_b1)
  have N35 := Fr.snoc X35 N33 g_b1
  obtain ⟨clo36, Aro36, qo36, So36, No36, Ho36, Go36⟩ := id V35
  have hino36 : ¬ ((17 : Int32) < 0 ∨ clo36.slots.size ≤ ((17 : Int32)).toNatClampNeg) := inb_of So36 ⟨by decide, by decide⟩
  obtain ⟨T37, h37, X37, e37, W37, st37⟩ := stB X35 hx hZ e35 Aro36 (j := (17 : Int32)) hino36 (g := (mkF m 87 #[.val (.int p0), .val (.int p1), .val (.int p2), .val (.int p3), .val (.int p4), .val (.int p5), .unset, .unset, .unset, .unset, .unset, .unset, .unset, .unset, .unset, .unset, .unset, .unset, .unset, .unset] [(.int (1 : Int32)), (.int (17 : Int32)), (.ref b1), (.ref b1)])) rfl rfl (hb hby at_87)
  have V37 : Arv Z h37 b1 k1 .byte (32 : Int32) [(.int (nar .byte (1 : Int32))), (.int (nar .byte (1 : Int32))), (.int (nar .byte (1 : Int32))), (.int (nar .byte (1 : Int32))), (.int (nar .byte (1 : Int32))), (.int (nar .byte (1 : Int32))), (.int (nar .byte (1 : Int32))), (.int (nar .byte (1 : Int32))), (.int (nar .byte (1 : Int32))), (.int (nar .byte (1 : Int32))), (.int (nar .byte (1 : Int32))), (.int (nar .byte (1 : Int32))), (.int (nar .byte (1 : Int32))), (.int (nar .byte (1 : Int32))), (.int (nar .byte (1 : Int32))), (.int (nar .byte (1 : Int32))), (.int (nar .byte (1 : Int32))), (.int (nar .byte (1 : Int32))), (.int (0 : Int32)), (.int (0 : Int32)), (.int (0 : Int32)), (.int (0 : Int32)), (.int (0 : Int32)), (.int (0 : Int32)), (.int (0 : Int32)), (.int (0 : Int32)), (.int (0 : Int32)), (.int (0 : Int32)), (.int (0 : Int32)), (.int (0 : Int32)), (.int (0 : Int32)), (.int (0 : Int32))] (.int (0 : Int32)) := Arv.set Aro36 qo36 So36 No36 Ho36 Go36 (fits_nar_byte _) W37 17 rfl (Nat.le_of_ble_eq_true rfl)
  have K37 := K35.wr W37 (Or.inr sz_b1)
  have N37 := Fr.snoc X37 N35 g_b1
  obtain ⟨clo38, Aro38, qo38, So38, No38, Ho38, Go38⟩ := id V37
  have hino38 : ¬ ((18 : Int32) < 0 ∨ clo38.slots.size ≤ ((18 : Int32)).toNatClampNeg) := inb_of So38 ⟨by decide, by decide⟩
  obtain ⟨T39, h39, X39, e39, W39, st39⟩ := stB X37 hx hZ e37 Aro38 (j := (18 : Int32)) hino38 (g := (mkF m 92 #[.val (.int p0), .val (.int p1), .val (.int p2), .val (.int p3), .val (.int p4), .val (.int p5), .unset, .unset, .unset, .unset, .unset, .unset, .unset, .unset, .unset, .unset, .unset, .unset, .unset, .unset] [(.int (1 : Int32)), (.int (18 : Int32)), (.ref b1), (.ref b1)])) rfl rfl (hb hby at_92)
  have V39 : Arv Z h39 b1 k1 .byte (32 : Int32) [(.int (nar .byte (1 : Int32))), (.int (nar .byte (1 : Int32))), (.int (nar .byte (1 : Int32))), (.int (nar .byte (1 : Int32))), (.int (nar .byte (1 : Int32))), (.int (nar .byte (1 : Int32))), (.int (nar .byte (1 : Int32))), (.int (nar .byte (1 : Int32))), (.int (nar .byte (1 : Int32))), (.int (nar .byte (1 : Int32))), (.int (nar .byte (1 : Int32))), (.int (nar .byte (1 : Int32))), (.int (nar .byte (1 : Int32))), (.int (nar .byte (1 : Int32))), (.int (nar .byte (1 : Int32))), (.int (nar .byte (1 : Int32))), (.int (nar .byte (1 : Int32))), (.int (nar .byte (1 : Int32))), (.int (nar .byte (1 : Int32))), (.int (0 : Int32)), (.int (0 : Int32)), (.int (0 : Int32)), (.int (0 : Int32)), (.int (0 : Int32)), (.int (0 : Int32)), (.int (0 : Int32)), (.int (0 : Int32)), (.int (0 : Int32)), (.int (0 : Int32)), (.int (0 : Int32)), (.int (0 : Int32)), (.int (0 : Int32))] (.int (0 : Int32)) := Arv.set Aro38 qo38 So38 No38 Ho38 Go38 (fits_nar_byte _) W39 18 rfl (Nat.le_of_ble_eq_true rfl)
  have K39 := K37.wr W39 (Or.inr sz_b1)
  have N39 := Fr.snoc X39 N37 g_b1
  obtain ⟨clo40, Aro40, qo40, So40, No40, Ho40, Go40⟩ := id V39
  have hino40 : ¬ ((19 : Int32) < 0 ∨ clo40.slots.size ≤ ((19 : Int32)).toNatClampNeg) := inb_of So40 ⟨by decide, by decide⟩
  obtain ⟨T41, h41, X41, e41, W41, st41⟩ := stB X39 hx hZ e39 Aro40 (j := (19 : Int32)) hino40 (g := (mkF m 97 #[.val (.int p0), .val (.int p1), .val (.int p2), .val (.int p3), .val (.int p4), .val (.int p5), .unset, .unset, .unset, .unset, .unset, .unset, .unset, .unset, .unset, .unset, .unset, .unset, .unset, .unset] [(.int (1 : Int32)), (.int (19 : Int32)), (.ref b1), (.ref b1)])) rfl rfl (hb hby at_97)
  have V41 : Arv Z h41 b1 k1 .byte (32 : Int32) [(.int (nar .byte (1 : Int32))), (.int (nar .byte (1 : Int32))), (.int (nar .byte (1 : Int32))), (.int (nar .byte (1 : Int32))), (.int (nar .byte (1 : Int32))), (.int (nar .byte (1 : Int32))), (.int (nar .byte (1 : Int32))), (.int (nar .byte (1 : Int32))), (.int (nar .byte (1 : Int32))), (.int (nar .byte (1 : Int32))), (.int (nar .byte (1 : Int32))), (.int (nar .byte (1 : Int32))), (.int (nar .byte (1 : Int32))), (.int (nar .byte (1 : Int32))), (.int (nar .byte (1 : Int32))), (.int (nar .byte (1 : Int32))), (.int (nar .byte (1 : Int32))), (.int (nar .byte (1 : Int32))), (.int (nar .byte (1 : Int32))), (.int (nar .byte (1 : Int32))), (.int (0 : Int32)), (.int (0 : Int32)), (.int (0 : Int32)), (.int (0 : Int32)), (.int (0 : Int32)), (.int (0 : Int32)), (.int (0 : Int32)), (.int (0 : Int32)), (.int (0 : Int32)), (.int (0 : Int32)), (.int (0 : Int32)), (.int (0 : Int32))] (.int (0 : Int32)) := Arv.set Aro40 qo40 So40 No40 Ho40 Go40 (fits_nar_byte _) W41 19 rfl (Nat.le_of_ble_eq_true rfl)
  have K41 := K39.wr W41 (Or.inr sz_b1)
  have N41 := Fr.snoc X41 N39 g_b1
  obtain ⟨clo42, Aro42, qo42, So42, No42, Ho42, Go42⟩ := id V41
  have hino42 : ¬ ((20 : Int32) < 0 ∨ clo42.slots.size ≤ ((20 : Int32)).toNatClampNeg) := inb_of So42 ⟨by decide, by decide⟩
  obtain ⟨T43, h43, X43, e43, W43, st43⟩ := stB X41 hx hZ e41 Aro42 (j := (20 : Int32)) hino42 (g := (mkF m 102 #[.val (.int p0), .val (.int p1), .val (.int p2), .val (.int p3), .val (.int p4), .val (.int p5), .unset, .unset, .unset, .unset, .unset, .unset, .unset, .unset, .unset, .unset, .unset, .unset, .unset, .unset] [(.int (1 : Int32)), (.int (20 : Int32)), (.ref b1), (.ref b1)])) rfl rfl (hb hby at_102)
  have V43 : Arv Z h43 b1 k1 .byte (32 : Int32) [(.int (nar .byte (1 : Int32))), (.int (nar .byte (1 : Int32))), (.int (nar .byte (1 : Int32))), (.int (nar .byte (1 : Int32))), (.int (nar .byte (1 : Int32))), (.int (nar .byte (1 : Int32))), (.int (nar .byte (1 : Int32))), (.int (nar .byte (1 : Int32))), (.int (nar .byte (1 : Int32))), (.int (nar .byte (1 : Int32))), (.int (nar .byte (1 : Int32))), (.int (nar .byte (1 : Int32))), (.int (nar .byte (1 : Int32))), (.int (nar .byte (1 : Int32))), (.int (nar .byte (1 : Int32))), (.int (nar .byte (1 : Int32))), (.int (nar .byte (1 : Int32))), (.int (nar .byte (1 : Int32))), (.int (nar .byte (1 : Int32))), (.int (nar .byte (1 : Int32))), (.int (nar .byte (1 : Int32))), (.int (0 : Int32)), (.int (0 : Int32)), (.int (0 : Int32)), (.int (0 : Int32)), (.int (0 : Int32)), (.int (0 : Int32)), (.int (0 : Int32)), (.int (0 : Int32)), (.int (0 : Int32)), (.int (0 : Int32)), (.int (0 : Int32))] (.int (0 : Int32)) := Arv.set Aro42 qo42 So42 No42 Ho42 Go42 (fits_nar_byte _) W43 20 rfl (Nat.le_of_ble_eq_true rfl)
  have K43 := K41.wr W43 (Or.inr sz_b1)
  have N43 := Fr.snoc X43 N41 g_b1
  obtain ⟨clo44, Aro44, qo44, So44, No44, Ho44, Go44⟩ := id V43
  have hino44 : ¬ ((21 : Int32) < 0 ∨ clo44.slots.size ≤ ((21 : Int32)).toNatClampNeg) := inb_of So44 ⟨by decide, by decide⟩
  obtain ⟨T45, h45, X45, e45, W45, st45⟩ := stB X43 hx hZ e43 Aro44 (j := (21 : Int32)) hino44 (g := (mkF m 107 #[.val (.int p0), .val (.int p1), .val (.int p2), .val (.int p3), .val (.int p4), .val (.int p5), .unset, .unset, .unset, .unset, .unset, .unset, .unset, .unset, .unset, .unset, .unset, .unset, .unset, .unset] [(.int (1 : Int32)), (.int (21 : Int32)), (.ref b1), (.ref b1)])) rfl rfl (hb hby at_107)
  have V45 : Arv Z h45 b1 k1 .byte (32 : Int32) [(.int (nar .byte (1 : Int32))), (.int (nar .byte (1 : Int32))), (.int (nar .byte (1 : Int32))), (.int (nar .byte (1 : Int32))), (.int (nar .byte (1 : Int32))), (.int (nar .byte (1 : Int32))), (.int (nar .byte (1 : Int32))), (.int (nar .byte (1 : Int32))), (.int (nar .byte (1 : Int32))), (.int (nar .byte (1 : Int32))), (.int (nar .byte (1 : Int32))), (.int (nar .byte (1 : Int32))), (.int (nar .byte (1 : Int32))), (.int (nar .byte (1 : Int32))), (.int (nar .byte (1 : Int32))), (.int (nar .byte (1 : Int32))), (.int (nar .byte (1 : Int32))), (.int (nar .byte (1 : Int32))), (.int (nar .byte (1 : Int32))), (.int (nar .byte (1 : Int32))), (.int (nar .byte (1 : Int32))), (.int (nar .byte (1 : Int32))), (.int (0 : Int32)), (.int (0 : Int32)), (.int (0 : Int32)), (.int (0 : Int32)), (.int (0 : Int32)), (.int (0 : Int32)), (.int (0 : Int32)), (.int (0 : Int32)), (.int (0 : Int32)), (.int (0 : Int32))] (.int (0 : Int32)) := Arv.set Aro44 qo44 So44 No44 Ho44 Go44 (fits_nar_byte _) W45 21 rfl (Nat.le_of_ble_eq_true rfl)
  have K45 := K43.wr W45 (Or.inr sz_b1)
  have N45 := Fr.snoc X45 N43 g_b1
  obtain ⟨clo46, Aro46, qo46, So46, No46, Ho46, Go46⟩ := id V45
  have hino46 : ¬ ((22 : Int32) < 0 ∨ clo46.slots.size ≤ ((22 : Int32)).toNatClampNeg) := inb_of So46 ⟨by decide, by decide⟩
  obtain ⟨T47, h47, X47, e47, W47, st47⟩ := stB X45 hx hZ e45 Aro46 (j := (22 : Int32)) hino46 (g := (mkF m 112 #[.val (.int p0), .val (.int p1), .val (.int p2), .val (.int p3), .val (.int p4), .val (.int p5), .unset, .unset, .unset, .unset, .unset, .unset, .unset, .unset, .unset, .unset, .unset, .unset, .unset, .unset] [(.int (1 : Int32)), (.int (22 : Int32)), (.ref b1), (.ref b1)])) rfl rfl (hb hby at_112)
  have V47 : Arv Z h47 b1 k1 .byte (32 : Int32) [(.int (nar .byte (1 : Int32))), (.int (nar .byte (1 : Int32))), (.int (nar .byte (1 : Int32))), (.int (nar .byte (1 : Int32))), (.int (nar .byte (1 : Int32))), (.int (nar .byte (1 : Int32))), (.int (nar .byte (1 : Int32))), (.int (nar .byte (1 : Int32))), (.int (nar .byte (1 : Int32))), (.int (nar .byte (1 : Int32))), (.int (nar .byte (1 : Int32))), (.int (nar .byte (1 : Int32))), (.int (nar .byte (1 : Int32))), (.int (nar .byte (1 : Int32))), (.int (nar .byte (1 : Int32))), (.int (nar .byte (1 : Int32))), (.int (nar .byte (1 : Int32))), (.int (nar .byte (1 : Int32))), (.int (nar .byte (1 : Int32))), (.int (nar .byte (1 : Int32))), (.int (nar .byte (1 : Int32))), (.int (nar .byte (1 : Int32))), (.int (nar .byte (1 : Int32))), (.int (0 : Int32)), (.int (0 : Int32)), (.int (0 : Int32)), (.int (0 : Int32)), (.int (0 : Int32)), (.int (0 : Int32)), (.int (0 : Int32)), (.int (0 : Int32)), (.int (0 : Int32))] (.int (0 : Int32)) := Arv.set Aro46 qo46 So46 No46 Ho46 Go46 (fits_nar_byte _) W47 22 rfl (Nat.le_of_ble_eq_true rfl)
  have K47 := K45.wr W47 (Or.inr sz_b1)
  have N47 := Fr.snoc X47 N45 g_b1
  obtain ⟨clo48, Aro48, qo48, So48, No48, Ho48, Go48⟩ := id V47
  have hino48 : ¬ ((23 : Int32) < 0 ∨ clo48.slots.size ≤ ((23 : Int32)).toNatClampNeg) := inb_of So48 ⟨by decide, by decide⟩
  obtain ⟨T49, h49, X49, e49, W49, st49⟩ := stB X47 hx hZ e47 Aro48 (j := (23 : Int32)) hino48 (g := (mkF m 117 #[.val (.int p0), .val (.int p1), .val (.int p2), .val (.int p3), .val (.int p4), .val (.int p5), .unset, .unset, .unset, .unset, .unset, .unset, .unset, .unset, .unset, .unset, .unset, .unset, .unset, .unset] [(.int (1 : Int32)), (.int (23 : Int32)), (.ref b1), (.ref b1)])) rfl rfl (hb hby at_117)
  have V49 : Arv Z h49 b1 k1 .byte (32 : Int32) [(.int (nar .byte (1 : Int32))), (.int (nar .byte (1 : Int32))), (.int (nar .byte (1 : Int32))), (.int (nar .byte (1 : Int32))), (.int (nar .byte (1 : Int32))), (.int (nar .byte (1 : Int32))), (.int (nar .byte (1 : Int32))), (.int (nar .byte (1 : Int32))), (.int (nar .byte (1 : Int32))), (.int (nar .byte (1 : Int32))), (.int (nar .byte (1 : Int32))), (.int (nar .byte (1 : Int32))), (.int (nar .byte (1 : Int32))), (.int (nar .byte (1 : Int32))), (.int (nar .byte (1 : Int32))), (.int (nar .byte (1 : Int32))), (.int (nar .byte (1 : Int32))), (.int (nar .byte (1 : Int32))), (.int (nar .byte (1 : Int32))), (.int (nar .byte (1 : Int32))), (.int (nar .byte (1 : Int32))), (.int (nar .byte (1 : Int32))), (.int (nar .byte (1 : Int32))), (.int (nar .byte (1 : Int32))), (.int (0 : Int32)), (.int (0 : Int32)), (.int (0 : Int32)), (.int (0 : Int32)), (.int (0 : Int32)), (.int (0 : Int32)), (.int (0 : Int32)), (.int (0 : Int32))] (.int (0 : Int32)) := Arv.set Aro48 qo48 So48 No48 Ho48 Go48 (fits_nar_byte _) W49 23 rfl (Nat.le_of_ble_eq_true rfl)
  have K49 := K47.wr W49 (Or.inr sz_b1)
  have N49 := Fr.snoc X49 N47 g_b1
  obtain ⟨clo50, Aro50, qo50, So50, No50, Ho50, Go50⟩ := id V49
  have hino50 : ¬ ((24 : Int32) < 0 ∨ clo50.slots.size ≤ ((24 : Int32)).toNatClampNeg) := inb_of So50 ⟨by decide, by decide⟩
  obtain ⟨T51, h51, X51, e51, W51, st51⟩ := stB X49 hx hZ e49 Aro50 (j := (24 : Int32)) hino50 (g := (mkF m 122 #[.val (.int p0), .val (.int p1), .val (.int p2), .val (.int p3), .val (.int p4), .val (.int p5), .unset, .unset, .unset, .unset, .unset, .unset, .unset, .unset, .unset, .unset, .unset, .unset, .unset, .unset] [(.int (1 : Int32)), (.int (24 : Int32)), (.ref b1), (.ref b1)])) rfl rfl (hb hby at_122)
  have V51 : Arv Z h51 b1 k1 .byte (32 : Int32) [(.int (nar .byte (1 : Int32))), (.int (nar .byte (1 : Int32))), (.int (nar .byte (1 : Int32))), (.int (nar .byte (1 : Int32))), (.int (nar .byte (1 : Int32))), (.int (nar .byte (1 : Int32))), (.int (nar .byte (1 : Int32))), (.int (nar .byte (1 : Int32))), (.int (nar .byte (1 : Int32))), (.int (nar .byte (1 : Int32))), (.int (nar .byte (1 : Int32))), (.int (nar .byte (1 : Int32))), (.int (nar .byte (1 : Int32))), (.int (nar .byte (1 : Int32))), (.int (nar .byte (1 : Int32))), (.int (nar .byte (1 : Int32))), (.int (nar .byte (1 : Int32))), (.int (nar .byte (1 : Int32))), (.int (nar .byte (1 : Int32))), (.int (nar .byte (1 : Int32))), (.int (nar .byte (1 : Int32))), (.int (nar .byte (1 : Int32))), (.int (nar .byte (1 : Int32))), (.int (nar .byte (1 : Int32))), (.int (nar .byte (1 : Int32))), (.int (0 : Int32)), (.int (0 : Int32)), (.int (0 : Int32)), (.int (0 : Int32)), (.int (0 : Int32)), (.int (0 : Int32)), (.int (0 : Int32))] (.int (0 : Int32)) := Arv.set Aro50 qo50 So50 No50 Ho50 Go50 (fits_nar_byte _) W51 24 rfl (Nat.le_of_ble_eq_true rfl)
  have K51 := K49.wr W51 (Or.inr sz_b1)
  have N51 := Fr.snoc X51 N49 g_b1
  obtain ⟨clo52, Aro52, qo52, So52, No52, Ho52, Go52⟩ := id V51
  have hino52 : ¬ ((25 : Int32) < 0 ∨ clo52.slots.size ≤ ((25 : Int32)).toNatClampNeg) := inb_of So52 ⟨by decide, by decide⟩
  obtain ⟨T53, h53, X53, e53, W53, st53⟩ := stB X51 hx hZ e51 Aro52 (j := (25 : Int32)) hino52 (g := (mkF m 127 #[.val (.int p0), .val (.int p1), .val (.int p2), .val (.int p3), .val (.int p4), .val (.int p5), .unset, .unset, .unset, .unset, .unset, .unset, .unset, .unset, .unset, .unset, .unset, .unset, .unset, .unset] [(.int (1 : Int32)), (.int (25 : Int32)), (.ref b1), (.ref b1)])) rfl rfl (hb hby at_127)
  have V53 : Arv Z h53 b1 k1 .byte (32 : Int32) [(.int (nar .byte (1 : Int32))), (.int (nar .byte (1 : Int32))), (.int (nar .byte (1 : Int32))), (.int (nar .byte (1 : Int32))), (.int (nar .byte (1 : Int32))), (.int (nar .byte (1 : Int32))), (.int (nar .byte (1 : Int32))), (.int (nar .byte (1 : Int32))), (.int (nar .byte (1 : Int32))), (.int (nar .byte (1 : Int32))), (.int (nar .byte (1 : Int32))), (.int (nar .byte (1 : Int32))), (.int (nar .byte (1 : Int32))), (.int (nar .byte (1 : Int32))), (.int (nar .byte (1 : Int32))), (.int (nar .byte (1 : Int32))), (.int (nar .byte (1 : Int32))), (.int (nar .byte (1 : Int32))), (.int (nar .byte (1 : Int32))), (.int (nar .byte (1 : Int32))), (.int (nar .byte (1 : Int32))), (.int (nar .byte (1 : Int32))), (.int (nar .byte (1 : Int32))), (.int (nar .byte (1 : Int32))), (.int (nar .byte (1 : Int32))), (.int (nar .byte (1 : Int32))), (.int (0 : Int32)), (.int (0 : Int32)), (.int (0 : Int32)), (.int (0 : Int32)), (.int (0 : Int32)), (.int (0 : Int32))] (.int (0 : Int32)) := Arv.set Aro52 qo52 So52 No52 Ho52 Go52 (fits_nar_byte _) W53 25 rfl (Nat.le_of_ble_eq_true rfl)
  have K53 := K51.wr W53 (Or.inr sz_b1)
  have N53 := Fr.snoc X53 N51 g_b1
  obtain ⟨clo54, Aro54, qo54, So54, No54, Ho54, Go54⟩ := id V53
  have hino54 : ¬ ((26 : Int32) < 0 ∨ clo54.slots.size ≤ ((26 : Int32)).toNatClampNeg) := inb_of So54 ⟨by decide, by decide⟩
  obtain ⟨T55, h55, X55, e55, W55, st55⟩ := stB X53 hx hZ e53 Aro54 (j := (26 : Int32)) hino54 (g := (mkF m 132 #[.val (.int p0), .val (.int p1), .val (.int p2), .val (.int p3), .val (.int p4), .val (.int p5), .unset, .unset, .unset, .unset, .unset, .unset, .unset, .unset, .unset, .unset, .unset, .unset, .unset, .unset] [(.int (1 : Int32)), (.int (26 : Int32)), (.ref b1), (.ref b1)])) rfl rfl (hb hby at_132)
  have V55 : Arv Z h55 b1 k1 .byte (32 : Int32) [(.int (nar .byte (1 : Int32))), (.int (nar .byte (1 : Int32))), (.int (nar .byte (1 : Int32))), (.int (nar .byte (1 : Int32))), (.int (nar .byte (1 : Int32))), (.int (nar .byte (1 : Int32))), (.int (nar .byte (1 : Int32))), (.int (nar .byte (1 : Int32))), (.int (nar .byte (1 : Int32))), (.int (nar .byte (1 : Int32))), (.int (nar .byte (1 : Int32))), (.int (nar .byte (1 : Int32))), (.int (nar .byte (1 : Int32))), (.int (nar .byte (1 : Int32))), (.int (nar .byte (1 : Int32))), (.int (nar .byte (1 : Int32))), (.int (nar .byte (1 : Int32))), (.int (nar .byte (1 : Int32))), (.int (nar .byte (1 : Int32))), (.int (nar .byte (1 : Int32))), (.int (nar .byte (1 : Int32))), (.int (nar .byte (1 : Int32))), (.int (nar .byte (1 : Int32))), (.int (nar .byte (1 : Int32))), (.int (nar .byte (1 : Int32))), (.int (nar .byte (1 : Int32))), (.int (nar .byte (1 : Int32))), (.int (0 : Int32)), (.int (0 : Int32)), (.int (0 : Int32)), (.int (0 : Int32)), (.int (0 : Int32))] (.int (0 : Int32)) := Arv.set Aro54 qo54 So54 No54 Ho54 Go54 (fits_nar_byte _) W55 26 rfl (Nat.le_of_ble_eq_true rfl)
  have K55 := K53.wr W55 (Or.inr sz_b1)
  have N55 := Fr.snoc X55 N53 g_b1
  obtain ⟨clo56, Aro56, qo56, So56, No56, Ho56, Go56⟩ := id V55
  have hino56 : ¬ ((27 : Int32) < 0 ∨ clo56.slots.size ≤ ((27 : Int32)).toNatClampNeg) := inb_of So56 ⟨by decide, by decide⟩
  obtain ⟨T57, h57, X57, e57, W57, st57⟩ := stB X55 hx hZ e55 Aro56 (j := (27 : Int32)) hino56 (g := (mkF m 137 #[.val (.int p0), .val (.int p1), .val (.int p2), .val (.int p3), .val (.int p4), .val (.int p5), .unset, .unset, .unset, .unset, .unset, .unset, .unset, .unset, .unset, .unset, .unset, .unset, .unset, .unset] [(.int (1 : Int32)), (.int (27 : Int32)), (.ref b1), (.ref b1)])) rfl rfl (hb hby at_137)
  have V57 : Arv Z h57 b1 k1 .byte (32 : Int32) [(.int (nar .byte (1 : Int32))), (.int (nar .byte (1 : Int32))), (.int (nar .byte (1 : Int32))), (.int (nar .byte (1 : Int32))), (.int (nar .byte (1 : Int32))), (.int (nar .byte (1 : Int32))), (.int (nar .byte (1 : Int32))), (.int (nar .byte (1 : Int32))), (.int (nar .byte (1 : Int32))), (.int (nar .byte (1 : Int32))), (.int (nar .byte (1 : Int32))), (.int (nar .byte (1 : Int32))), (.int (nar .byte (1 : Int32))), (.int (nar .byte (1 : Int32))), (.int (nar .byte (1 : Int32))), (.int (nar .byte (1 : Int32))), (.int (nar .byte (1 : Int32))), (.int (nar .byte (1 : Int32))), (.int (nar .byte (1 : Int32))), (.int (nar .byte (1 : Int32))), (.int (nar .byte (1 : Int32))), (.int (nar .byte (1 : Int32))), (.int (nar .byte (1 : Int32))), (.int (nar .byte (1 : Int32))), (.int (nar .byte (1 : Int32))), (.int (nar .byte (1 : Int32))), (.int (nar .byte (1 : Int32))), (.int (nar .byte (1 : Int32))), (.int (0 : Int32)), (.int (0 : Int32)), (.int (0 : Int32)), (.int (0 : Int32))] (.int (0 : Int32)) := Arv.set Aro56 qo56 So56 No56 Ho56 Go56 (fits_nar_byte _) W57 27 rfl (Nat.le_of_ble_eq_true rfl)
  have K57 := K55.wr W57 (Or.inr sz_b1)
  have N57 := Fr.snoc X57 N55 g_b1
  obtain ⟨clo58, Aro58, qo58, So58, No58, Ho58, Go58⟩ := id V57
  have hino58 : ¬ ((28 : Int32) < 0 ∨ clo58.slots.size ≤ ((28 : Int32)).toNatClampNeg) := inb_of So58 ⟨by decide, by decide⟩
  obtain ⟨T59, h59, X59, e59, W59, st59⟩ := stB X57 hx hZ e57 Aro58 (j := (28 : Int32)) hino58 (g := (mkF m 142 #[.val (.int p0), .val (.int p1), .val (.int p2), .val (.int p3), .val (.int p4), .val (.int p5), .unset, .unset, .unset, .unset, .unset, .unset, .unset, .unset, .unset, .unset, .unset, .unset, .unset, .unset] [(.int (1 : Int32)), (.int (28 : Int32)), (.ref b1), (.ref b1)])) rfl rfl (hb hby at_142)
  have V59 : Arv Z h59 b1 k1 .byte (32 : Int32) [(.int (nar .byte (1 : Int32))), (.int (nar .byte (1 : Int32))), (.int (nar .byte (1 : Int32))), (.int (nar .byte (1 : Int32))), (.int (nar .byte (1 : Int32))), (.int (nar .byte (1 : Int32))), (.int (nar .byte (1 : Int32))), (.int (nar .byte (1 : Int32))), (.int (nar .byte (1 : Int32))), (.int (nar .byte (1 : Int32))), (.int (nar .byte (1 : Int32))), (.int (nar .byte (1 : Int32))), (.int (nar .byte (1 : Int32))), (.int (nar .byte (1 : Int32))), (.int (nar .byte (1 : Int32))), (.int (nar .byte (1 : Int32))), (.int (nar .byte (1 : Int32))), (.int (nar .byte (1 : Int32))), (.int (nar .byte (1 : Int32))), (.int (nar .byte (1 : Int32))), (.int (nar .byte (1 : Int32))), (.int (nar .byte (1 : Int32))), (.int (nar .byte (1 : Int32))), (.int (nar .byte (1 : Int32))), (.int (nar .byte (1 : Int32))), (.int (nar .byte (1 : Int32))), (.int (nar .byte (1 : Int32))), (.int (nar .byte (1 : Int32))), (.int (nar .byte (1 : Int32))), (.int (0 : Int32)), (.int (0 : Int32)), (.int (0 : Int32))] (.int (0 : Int32)) := Arv.set Aro58 qo58 So58 No58 Ho58 Go58 (fits_nar_byte _) W59 28 rfl (Nat.le_of_ble_eq_true rfl)
  have K59 := K57.wr W59 (Or.inr sz_b1)
  have N59 := Fr.snoc X59 N57 g_b1
  obtain ⟨clo60, Aro60, qo60, So60, No60, Ho60, Go60⟩ := id V59
  have hino60 : ¬ ((29 : Int32) < 0 ∨ clo60.slots.size ≤ ((29 : Int32)).toNatClampNeg) := inb_of So60 ⟨by decide, by decide⟩
  obtain ⟨T61, h61, X61, e61, W61, st61⟩ := stB X59 hx hZ e59 Aro60 (j := (29 : Int32)) hino60 (g := (mkF m 147 #[.val (.int p0), .val (.int p1), .val (.int p2), .val (.int p3), .val (.int p4), .val (.int p5), .unset, .unset, .unset, .unset, .unset, .unset, .unset, .unset, .unset, .unset, .unset, .unset, .unset, .unset] [(.int (1 : Int32)), (.int (29 : Int32)), (.ref b1), (.ref b1)])) rfl rfl (hb hby at_147)
  have V61 : Arv Z h61 b1 k1 .byte (32 : Int32) [(.int (nar .byte (1 : Int32))), (.int (nar .byte (1 : Int32))), (.int (nar .byte (1 : Int32))), (.int (nar .byte (1 : Int32))), (.int (nar .byte (1 : Int32))), (.int (nar .byte (1 : Int32))), (.int (nar .byte (1 : Int32))), (.int (nar .byte (1 : Int32))), (.int (nar .byte (1 : Int32))), (.int (nar .byte (1 : Int32))), (.int (nar .byte (1 : Int32))), (.int (nar .byte (1 : Int32))), (.int (nar .byte (1 : Int32))), (.int (nar .byte (1 : Int32))), (.int (nar .byte (1 : Int32))), (.int (nar .byte (1 : Int32))), (.int (nar .byte (1 : Int32))), (.int (nar .byte (1 : Int32))), (.int (nar .byte (1 : Int32))), (.int (nar .byte (1 : Int32))), (.int (nar .byte (1 : Int32))), (.int (nar .byte (1 : Int32))), (.int (nar .byte (1 : Int32))), (.int (nar .byte (1 : Int32))), (.int (nar .byte (1 : Int32))), (.int (nar .byte (1 : Int32))), (.int (nar .byte (1 : Int32))), (.int (nar .byte (1 : Int32))), (.int (nar .byte (1 : Int32))), (.int (nar .byte (1 : Int32))), (.int (0 : Int32)), (.int (0 : Int32))] (.int (0 : Int32)) := Arv.set Aro60 qo60 So60 No60 Ho60 Go60 (fits_nar_byte _) W61 29 rfl (Nat.le_of_ble_eq_true rfl)
  have K61 := K59.wr W61 (Or.inr sz_b1)
  have N61 := Fr.snoc X61 N59 g_b1
  obtain ⟨clo62, Aro62, qo62, So62, No62, Ho62, Go62⟩ := id V61
  have hino62 : ¬ ((30 : Int32) < 0 ∨ clo62.slots.size ≤ ((30 : Int32)).toNatClampNeg) := inb_of So62 ⟨by decide, by decide⟩
  obtain ⟨T63, h63, X63, e63, W63, st63⟩ := stB X61 hx hZ e61 Aro62 (j := (30 : Int32)) hino62 (g := (mkF m 152 #[.val (.int p0), .val (.int p1), .val (.int p2), .val (.int p3), .val (.int p4), .val (.int p5), .unset, .unset, .unset, .unset, .unset, .unset, .unset, .unset, .unset, .unset, .unset, .unset, .unset, .unset] [(.int (1 : Int32)), (.int (30 : Int32)), (.ref b1), (.ref b1)])) rfl rfl (hb hby at_152)
  have V63 : Arv Z h63 b1 k1 .byte (32 : Int32) [(.int (nar .byte (1 : Int32))), (.int (nar .byte (1 : Int32))), (.int (nar .byte (1 : Int32))), (.int (nar .byte (1 : Int32))), (.int (nar .byte (1 : Int32))), (.int (nar .byte (1 : Int32))), (.int (nar .byte (1 : Int32))), (.int (nar .byte (1 : Int32))), (.int (nar .byte (1 : Int32))), (.int (nar .byte (1 : Int32))), (.int (nar .byte (1 : Int32))), (.int (nar .byte (1 : Int32))), (.int (nar .byte (1 : Int32))), (.int (nar .byte (1 : Int32))), (.int (nar .byte (1 : Int32))), (.int (nar .byte (1 : Int32))), (.int (nar .byte (1 : Int32))), (.int (nar .byte (1 : Int32))), (.int (nar .byte (1 : Int32))), (.int (nar .byte (1 : Int32))), (.int (nar .byte (1 : Int32))), (.int (nar .byte (1 : Int32))), (.int (nar .byte (1 : Int32))), (.int (nar .byte (1 : Int32))), (.int (nar .byte (1 : Int32))), (.int (nar .byte (1 : Int32))), (.int (nar .byte (1 : Int32))), (.int (nar .byte (1 : Int32))), (.int (nar .byte (1 : Int32))), (.int (nar .byte (1 : Int32))), (.int (nar .byte (1 : Int32))), (.int (0 : Int32))] (.int (0 : Int32)) := Arv.set Aro62 qo62 So62 No62 Ho62 Go62 (fits_nar_byte _) W63 30 rfl (Nat.le_of_ble_eq_true rfl)
  have K63 := K61.wr W63 (Or.inr sz_b1)
  have N63 := Fr.snoc X63 N61 g_b1
  obtain ⟨clo64, Aro64, qo64, So64, No64, Ho64, Go64⟩ := id V63
  have hino64 : ¬ ((31 : Int32) < 0 ∨ clo64.slots.size ≤ ((31 : Int32)).toNatClampNeg) := inb_of So64 ⟨by decide, by decide⟩
  obtain ⟨T65, h65, X65, e65, W65, st65⟩ := stB X63 hx hZ e63 Aro64 (j := (31 : Int32)) hino64 (g := (mkF m 157 #[.val (.int p0), .val (.int p1), .val (.int p2), .val (.int p3), .val (.int p4), .val (.int p5), .unset, .unset, .unset, .unset, .unset, .unset, .unset, .unset, .unset, .unset, .unset, .unset, .unset, .unset] [(.int (1 : Int32)), (.int (31 : Int32)), (.ref b1), (.ref b1)])) rfl rfl (hb hby at_157)
  have V65 : Arv Z h65 b1 k1 .byte (32 : Int32) [(.int (nar .byte (1 : Int32))), (.int (nar .byte (1 : Int32))), (.int (nar .byte (1 : Int32))), (.int (nar .byte (1 : Int32))), (.int (nar .byte (1 : Int32))), (.int (nar .byte (1 : Int32))), (.int (nar .byte (1 : Int32))), (.int (nar .byte (1 : Int32))), (.int (nar .byte (1 : Int32))), (.int (nar .byte (1 : Int32))), (.int (nar .byte (1 : Int32))), (.int (nar .byte (1 : Int32))), (.int (nar .byte (1 : Int32))), (.int (nar .byte (1 : Int32))), (.int (nar .byte (1 : Int32))), (.int (nar .byte (1 : Int32))), (.int (nar .byte (1 : Int32))), (.int (nar .byte (1 : Int32))), (.int (nar .byte (1 : Int32))), (.int (nar .byte (1 : Int32))), (.int (nar .byte (1 : Int32))), (.int (nar .byte (1 : Int32))), (.int (nar .byte (1 : Int32))), (.int (nar .byte (1 : Int32))), (.int (nar .byte (1 : Int32))), (.int (nar .byte (1 : Int32))), (.int (nar .byte (1 : Int32))), (.int (nar .byte (1 : Int32))), (.int (nar .byte (1 : Int32))), (.int (nar .byte (1 : Int32))), (.int (nar .byte (1 : Int32))), (.int (nar .byte (1 : Int32)))] (.int (0 : Int32)) := Arv.set Aro64 qo64 So64 No64 Ho64 Go64 (fits_nar_byte _) W65 31 rfl (Nat.le_of_ble_eq_true rfl)
  have K65 := K63.wr W65 (Or.inr sz_b1)
  have N65 := Fr.snoc X65 N63 g_b1
  obtain ⟨T66, h66, k66, X66, e66, E66, A66, st66⟩ := newP X65 hx hZ (hw _ (List.mem_of_getElem? (i := 0) rfl)) e65 (g := (mkF m 162 #[.val (.int p0), .val (.int p1), .val (.int p2), .val (.int p3), .val (.int p4), .val (.int p5), .val (.ref b1), .unset, .unset, .unset, .unset, .unset, .unset, .unset, .unset, .unset, .unset, .unset, .unset, .unset] [(.int (32 : Int32))])) rfl (hb hby at_162) rfl (by decide) (cap := 32) (by decide) (by decide) (by decide) (by decide)
  obtain ⟨b66, g66⟩ : ∃ z, z = h65.size := ⟨_, rfl⟩
  rw [← g66] at A66 st66
  have g_b66 : n0 ≤ b66 := Nat.le_trans (Nat.le_trans Z0 K65.1) (Nat.le_of_eq g66.symm)
  have sz_b66 : h0.size ≤ b66 := Nat.le_trans K65.1 (Nat.le_of_eq g66.symm)
  have ne_b1_b66 : b1 ≠ b66 := Nat.ne_of_lt (Nat.lt_of_lt_of_le V65.lt (Nat.le_of_eq g66.symm))
  have K66 := K65.ext E66
  have V_b66 : Arv Z h66 b66 k66 .byte (32 : Int32) [(.int (0 : Int32)), (.int (0 : Int32)), (.int (0 : Int32)), (.int (0 : Int32)), (.int (0 : Int32)), (.int (0 : Int32)), (.int (0 : Int32)), (.int (0 : Int32)), (.int (0 : Int32)), (.int (0 : Int32)), (.int (0 : Int32)), (.int (0 : Int32)), (.int (0 : Int32)), (.int (0 : Int32)), (.int (0 : Int32)), (.int (0 : Int32)), (.int (0 : Int32)), (.int (0 : Int32)), (.int (0 : Int32)), (.int (0 : Int32)), (.int (0 : Int32)), (.int (0 : Int32)), (.int (0 : Int32)), (.int (0 : Int32)), (.int (0 : Int32)), (.int (0 : Int32)), (.int (0 : Int32)), (.int (0 : Int32)), (.int (0 : Int32)), (.int (0 : Int32)), (.int (0 : Int32)), (.int (0 : Int32))] (.int (0 : Int32)) := (Arv.new A66 (by decide)).pad (pad_rep [] (.int (0 : Int32)) 32)
  obtain ⟨clo67, Aro67, qo67, So67, No67, Ho67, Go67⟩ := id V_b66
  have hino67 : ¬ ((0 : Int32) < 0 ∨ clo67.slots.size ≤ ((0 : Int32)).toNatClampNeg) := inb_of So67 ⟨by decide, by decide⟩
  obtain ⟨T68, h68, X68, e68, W68, st68⟩ := stB X66 hx hZ e66 Aro67 (j := (0 : Int32)) hino67 (g := (mkF m 167 #[.val (.int p0), .val (.int p1), .val (.int p2), .val (.int p3), .val (.int p4), .val (.int p5), .val (.ref b1), .unset, .unset, .unset, .unset, .unset, .unset, .unset, .unset, .unset, .unset, .unset, .unset, .unset] [(.int (2 : Int32)), (.int (0 : Int32)), (.ref b66), (.ref b66)])) rfl rfl (hb hby at_167)
  have V68 : Arv Z h68 b66 k66 .byte (32 : Int32) [(.int (nar .byte (2 : Int32))), (.int (0 : Int32)), (.int (0 : Int32)), (.int (0 : Int32)), (.int (0 : Int32)), (.int (0 : Int32)), (.int (0 : Int32)), (.int (0 : Int32)), (.int (0 : Int32)), (.int (0 : Int32)), (.int (0 : Int32)), (.int (0 : Int32)), (.int (0 : Int32)), (.int (0 : Int32)), (.int (0 : Int32)), (.int (0 : Int32)), (.int (0 : Int32)), (.int (0 : Int32)), (.int (0 : Int32)), (.int (0 : Int32)), (.int (0 : Int32)), (.int (0 : Int32)), (.int (0 : Int32)), (.int (0 : Int32)), (.int (0 : Int32)), (.int (0 : Int32)), (.int (0 : Int32)), (.int (0 : Int32)), (.int (0 : Int32)), (.int (0 : Int32)), (.int (0 : Int32)), (.int (0 : Int32))] (.int (0 : Int32)) := Arv.set Aro67 qo67 So67 No67 Ho67 Go67 (fits_nar_byte _) W68 0 rfl (Nat.le_of_ble_eq_true rfl)
  have K68 := K66.wr W68 (Or.inr sz_b66)
  have N68 := Fr.snoc X68 N65 g_b66
  obtain ⟨clo69, Aro69, qo69, So69, No69, Ho69, Go69⟩ := id V68
  have hino69 : ¬ ((1 : Int32) < 0 ∨ clo69.slots.size ≤ ((1 : Int32)).toNatClampNeg) := inb_of So69 ⟨by decide, by decide⟩
  obtain ⟨T70, h70, X70, e70, W70, st70⟩ := stB X68 hx hZ e68 Aro69 (j := (1 : Int32)) hino69 (g := (mkF m 171 #[.val (.int p0), .val (.int p1), .val (.int p2), .val (.int p3), .val (.int p4), .val (.int p5), .val (.ref b1), .unset, .unset, .unset, .unset, .unset, .unset, .unset, .unset, .unset, .unset, .unset, .unset, .unset] [(.int (2 : Int32)), (.int (1 : Int32)), (.ref b66), (.ref b66)])) rfl rfl (hb hby at_171)
  have V70 : Arv Z h70 b66 k66 .byte (32 : Int32) [(.int (nar .byte (2 : Int32))), (.int (nar .byte (2 : Int32))), (.int (0 : Int32)), (.int (0 : Int32)), (.int (0 : Int32)), (.int (0 : Int32)), (.int (0 : Int32)), (.int (0 : Int32)), (.int (0 : Int32)), (.int (0 : Int32)), (.int (0 : Int32)), (.int (0 : Int32)), (.int (0 : Int32)), (.int (0 : Int32)), (.int (0 : Int32)), (.int (0 : Int32)), (.int (0 : Int32)), (.int (0 : Int32)), (.int (0 : Int32)), (.int (0 : Int32)), (.int (0 : Int32)), (.int (0 : Int32)), (.int (0 : Int32)), (.int (0 : Int32)), (.int (0 : Int32)), (.int (0 : Int32)), (.int (0 : Int32)), (.int (0 : Int32)), (.int (0 : Int32)), (.int (0 : Int32)), (.int (0 : Int32)), (.int (0 : Int32))] (.int (0 : Int32)) := Arv.set Aro69 qo69 So69 No69 Ho69 Go69 (fits_nar_byte _) W70 1 rfl (Nat.le_of_ble_eq_true rfl)
  have K70 := K68.wr W70 (Or.inr sz_b66)
  have N70 := Fr.snoc X70 N68 g_b66
  obtain ⟨clo71, Aro71, qo71, So71, No71, Ho71, Go71⟩ := id V70
  have hino71 : ¬ ((2 : Int32) < 0 ∨ clo71.slots.size ≤ ((2 : Int32)).toNatClampNeg) := inb_of So71 ⟨by decide, by decide⟩
  obtain ⟨T72, h72, X72, e72, W72, st72⟩ := stB X70 hx hZ e70 Aro71 (j := (2 : Int32)) hino71 (g := (mkF m 175 #[.val (.int p0), .val (.int p1), .val (.int p2), .val (.int p3), .val (.int p4), .val (.int p5), .val (.ref b1), .unset, .unset, .unset, .unset, .unset, .unset, .unset, .unset, .unset, .unset, .unset, .unset, .unset] [(.int (2 : Int32)), (.int (2 : Int32)), (.ref b66), (.ref b66)])) rfl rfl (hb hby at_175)
  have V72 : Arv Z h72 b66 k66 .byte (32 : Int32) [(.int (nar .byte (2 : Int32))), (.int (nar .byte (2 : Int32))), (.int (nar .byte (2 : Int32))), (.int (0 : Int32)), (.int (0 : Int32)), (.int (0 : Int32)), (.int (0 : Int32)), (.int (0 : Int32)), (.int (0 : Int32)), (.int (0 : Int32)), (.int (0 : Int32)), (.int (0 : Int32)), (.int (0 : Int32)), (.int (0 : Int32)), (.int (0 : Int32)), (.int (0 : Int32)), (.int (0 : Int32)), (.int (0 : Int32)), (.int (0 : Int32)), (.int (0 : Int32)), (.int (0 : Int32)), (.int (0 : Int32)), (.int (0 : Int32)), (.int (0 : Int32)), (.int (0 : Int32)), (.int (0 : Int32)), (.int (0 : Int32)), (.int (0 : Int32)), (.int (0 : Int32)), (.int (0 : Int32)), (.int (0 : Int32)), (.int (0 : Int32))] (.int (0 : Int32)) := Arv.set Aro71 qo71 So71 No71 Ho71 Go71 (fits_nar_byte _) W72 2 rfl (Nat.le_of_ble_eq_true rfl)
  have K72 := K70.wr W72 (Or.inr sz_b66)
  have N72 := Fr.snoc X72 N70 g_b66
  obtain ⟨clo73, Aro73, qo73, So73, No73, Ho73, Go73⟩ := id V72
  have hino73 : ¬ ((3 : Int32) < 0 ∨ clo73.slots.size ≤ ((3 : Int32)).toNatClampNeg) := inb_of So73 ⟨by decide, by decide⟩
  obtain ⟨T74, h74, X74, e74, W74, st74⟩ := stB X72 hx hZ e72 Aro73 (j := (3 : Int32)) hino73 (g := (mkF m 179 #[.val (.int p0), .val (.int p1), .val (.int p2), .val (.int p3), .val (.int p4), .val (.int p5), .val (.ref b1), .unset, .unset, .unset, .unset, .unset, .unset, .unset, .unset, .unset, .unset, .unset, .unset, .unset] [(.int (2 : Int32)), (.int (3 : Int32)), (.ref b66), (.ref b66)])) rfl rfl (hb hby at_179)
  have V74 : Arv Z h74 b66 k66 .byte (32 : Int32) [(.int (nar .byte (2 : Int32))), (.int (nar .byte (2 : Int32))), (.int (nar .byte (2 : Int32))), (.int (nar .byte (2 : Int32))), (.int (0 : Int32)), (.int (0 : Int32)), (.int (0 : Int32)), (.int (0 : Int32)), (.int (0 : Int32)), (.int (0 : Int32)), (.int (0 : Int32)), (.int (0 : Int32)), (.int (0 : Int32)), (.int (0 : Int32)), (.int (0 : Int32)), (.int (0 : Int32)), (.int (0 : Int32)), (.int (0 : Int32)), (.int (0 : Int32)), (.int (0 : Int32)), (.int (0 : Int32)), (.int (0 : Int32)), (.int (0 : Int32)), (.int (0 : Int32)), (.int (0 : Int32)), (.int (0 : Int32)), (.int (0 : Int32)), (.int (0 : Int32)), (.int (0 : Int32)), (.int (0 : Int32)), (.int (0 : Int32)), (.int (0 : Int32))] (.int (0 : Int32)) := Arv.set Aro73 qo73 So73 No73 Ho73 Go73 (fits_nar_byte _) W74 3 rfl (Nat.le_of_ble_eq_true rfl)
  have K74 := K72.wr W74 (Or.inr sz_b66)
  have N74 := Fr.snoc X74 N72 g_b66
  obtain ⟨clo75, Aro75, qo75, So75, No75, Ho75, Go75⟩ := id V74
  have hino75 : ¬ ((4 : Int32) < 0 ∨ clo75.slots.size ≤ ((4 : Int32)).toNatClampNeg) := inb_of So75 ⟨by decide, by decide⟩
  obtain ⟨T76, h76, X76, e76, W76, st76⟩ := stB X74 hx hZ e74 Aro75 (j := (4 : Int32)) hino75 (g := (mkF m 183 #[.val (.int p0), .val (.int p1), .val (.int p2), .val (.int p3), .val (.int p4), .val (.int p5), .val (.ref b1), .unset, .unset, .unset, .unset, .unset, .unset, .unset, .unset, .unset, .unset, .unset, .unset, .unset] [(.int (2 : Int32)), (.int (4 : Int32)), (.ref b66), (.ref b66)])) rfl rfl (hb hby at_183)
  have V76 : Arv Z h76 b66 k66 .byte (32 : Int32) [(.int (nar .byte (2 : Int32))), (.int (nar .byte (2 : Int32))), (.int (nar .byte (2 : Int32))), (.int (nar .byte (2 : Int32))), (.int (nar .byte (2 : Int32))), (.int (0 : Int32)), (.int (0 : Int32)), (.int (0 : Int32)), (.int (0 : Int32)), (.int (0 : Int32)), (.int (0 : Int32)), (.int (0 : Int32)), (.int (0 : Int32)), (.int (0 : Int32)), (.int (0 : Int32)), (.int (0 : Int32)), (.int (0 : Int32)), (.int (0 : Int32)), (.int (0 : Int32)), (.int (0 : Int32)), (.int (0 : Int32)), (.int (0 : Int32)), (.int (0 : Int32)), (.int (0 : Int32)), (.int (0 : Int32)), (.int (0 : Int32)), (.int (0 : Int32)), (.int (0 : Int32)), (.int (0 : Int32)), (.int (0 : Int32)), (.int (0 : Int32)), (.int (0 : Int32))] (.int (0 : Int32)) := Arv.set Aro75 qo75 So75 No75 Ho75 Go75 (fits_nar_byte _) W76 4 rfl (Nat.le_of_ble_eq_true rfl)
  have K76 := K74.wr W76 (Or.inr sz_b66)
  have N76 := Fr.snoc X76 N74 g_b66
  obtain ⟨clo77, Aro77, qo77, So77, No77, Ho77, Go77⟩ := id V76
  have hino77 : ¬ ((5 : Int32) < 0 ∨ clo77.slots.size ≤ ((5 : Int32)).toNatClampNeg) := inb_of So77 ⟨by decide, by decide⟩
  obtain ⟨T78, h78, X78, e78, W78, st78⟩ := stB X76 hx hZ e76 Aro77 (j := (5 : Int32)) hino77 (g := (mkF m 187 #[.val (.int p0), .val (.int p1), .val (.int p2), .val (.int p3), .val (.int p4), .val (.int p5), .val (.ref b1), .unset, .unset, .unset, .unset, .unset, .unset, .unset, .unset, .unset, .unset, .unset, .unset, .unset] [(.int (2 : Int32)), (.int (5 : Int32)), (.ref b66), (.ref b66)])) rfl rfl (hb hby at_187)
  have V78 : Arv Z h78 b66 k66 .byte (32 : Int32) [(.int (nar .byte (2 : Int32))), (.int (nar .byte (2 : Int32))), (.int (nar .byte (2 : Int32))), (.int (nar .byte (2 : Int32))), (.int (nar .byte (2 : Int32))), (.int (nar .byte (2 : Int32))), (.int (0 : Int32)), (.int (0 : Int32)), (.int (0 : Int32)), (.int (0 : Int32)), (.int (0 : Int32)), (.int (0 : Int32)), (.int (0 : Int32)), (.int (0 : Int32)), (.int (0 : Int32)), (.int (0 : Int32)), (.int (0 : Int32)), (.int (0 : Int32)), (.int (0 : Int32)), (.int (0 : Int32)), (.int (0 : Int32)), (.int (0 : Int32)), (.int (0 : Int32)), (.int (0 : Int32)), (.int (0 : Int32)), (.int (0 : Int32)), (.int (0 : Int32)), (.int (0 : Int32)), (.int (0 : Int32)), (.int (0 : Int32)), (.int (0 : Int32)), (.int (0 : Int32))] (.int (0 : Int32)) := Arv.set Aro77 qo77 So77 No77 Ho77 Go77 (fits_nar_byte _) W78 5 rfl (Nat.le_of_ble_eq_true rfl)
  have K78 := K76.wr W78 (Or.inr sz_b66)
  have N78 := Fr.snoc X78 N76 g_b66
  obtain ⟨clo79, Aro79, qo79, So79, No79, Ho79, Go79⟩ := id V78
  have hino79 : ¬ ((6 : Int32) < 0 ∨ clo79.slots.size ≤ ((6 : Int32)).toNatClampNeg) := inb_of So79 ⟨by decide, by decide⟩
  obtain ⟨T80, h80, X80, e80, W80, st80⟩ := stB X78 hx hZ e78 Aro79 (j := (6 : Int32)) hino79 (g := (mkF m 192 #[.val (.int p0), .val (.int p1), .val (.int p2), .val (.int p3), .val (.int p4), .val (.int p5), .val (.ref b1), .unset, .unset, .unset, .unset, .unset, .unset, .unset, .unset, .unset, .unset, .unset, .unset, .unset] [(.int (2 : Int32)), (.int (6 : Int32)), (.ref b66), (.ref b66)])) rfl rfl (hb hby at_192)
  have V80 : Arv Z h80 b66 k66 .byte (32 : Int32) [(.int (nar .byte (2 : Int32))), (.int (nar .byte (2 : Int32))), (.int (nar .byte (2 : Int32))), (.int (nar .byte (2 : Int32))), (.int (nar .byte (2 : Int32))), (.int (nar .byte (2 : Int32))), (.int (nar .byte (2 : Int32))), (.int (0 : Int32)), (.int (0 : Int32)), (.int (0 : Int32)), (.int (0 : Int32)), (.int (0 : Int32)), (.int (0 : Int32)), (.int (0 : Int32)), (.int (0 : Int32)), (.int (0 : Int32)), (.int (0 : Int32)), (.int (0 : Int32)), (.int (0 : Int32)), (.int (0 : Int32)), (.int (0 : Int32)), (.int (0 : Int32)), (.int (0 : Int32)), (.int (0 : Int32)), (.int (0 : Int32)), (.int (0 : Int32)), (.int (0 : Int32)), (.int (0 : Int32)), (.int (0 : Int32)), (.int (0 : Int32)), (.int (0 : Int32)), (.int (0 : Int32))] (.int (0 : Int32)) := Arv.set Aro79 qo79 So79 No79 Ho79 Go79 (fits_nar_byte _) W80 6 rfl (Nat.le_of_ble_eq_true rfl)
  have K80 := K78.wr W80 (Or.inr sz_b66)
  have N80 := Fr.snoc X80 N78 g_b66
  obtain ⟨clo81, Aro81, qo81, So81, No81, Ho81, Go81⟩ := id V80
  have hino81 : ¬ ((7 : Int32) < 0 ∨ clo81.slots.size ≤ ((7 : Int32)).toNatClampNeg) := inb_of So81 ⟨by decide, by decide⟩
  obtain ⟨T82, h82, X82, e82, W82, st82⟩ := stB X80 hx hZ e80 Aro81 (j := (7 : Int32)) hino81 (g := (mkF m 197 #[.val (.int p0), .val (.int p1), .val (.int p2), .val (.int p3), .val (.int p4), .val (.int p5), .val (.ref b1), .unset, .unset, .unset, .unset, .unset, .unset, .unset, .unset, .unset, .unset, .unset, .unset, .unset] [(.int (2 : Int32)), (.int (7 : Int32)), (.ref b66), (.ref b66)])) rfl rfl (hb hby at_197)
  have V82 : Arv Z h82 b66 k66 .byte (32 : Int32) [(.int (nar .byte (2 : Int32))), (.int (nar .byte (2 : Int32))), (.int (nar .byte (2 : Int32))), (.int (nar .byte (2 : Int32))), (.int (nar .byte (2 : Int32))), (.int (nar .byte (2 : Int32))), (.int (nar .byte (2 : Int32))), (.int (nar .byte (2 : Int32))), (.int (0 : Int32)), (.int (0 : Int32)), (.int (0 : Int32)), (.int (0 : Int32)), (.int (0 : Int32)), (.int (0 : Int32)), (.int (0 : Int32)), (.int (0 : Int32)), (.int (0 : Int32)), (.int (0 : Int32)), (.int (0 : Int32)), (.int (0 : Int32)), (.int (0 : Int32)), (.int (0 : Int32)), (.int (0 : Int32)), (.int (0 : Int32)), (.int (0 : Int32)), (.int (0 : Int32)), (.int (0 : Int32)), (.int (0 : Int32)), (.int (0 : Int32)), (.int (0 : Int32)), (.int (0 : Int32)), (.int (0 : Int32))] (.int (0 : Int32)) := Arv.set Aro81 qo81 So81 No81 Ho81 Go81 (fits_nar_byte _) W82 7 rfl (Nat.le_of_ble_eq_true rfl)
  have K82 := K80.wr W82 (Or.inr sz_b66)
  have N82 := Fr.snoc X82 N80 g_b66
  obtain ⟨clo83, Aro83, qo83, So83, No83, Ho83, Go83⟩ := id V82
  have hino83 : ¬ ((8 : Int32) < 0 ∨ clo83.slots.size ≤ ((8 : Int32)).toNatClampNeg) := inb_of So83 ⟨by decide, by decide⟩
  obtain ⟨T84, h84, X84, e84, W84, st84⟩ := stB X82 hx hZ e82 Aro83 (j := (8 : Int32)) hino83 (g := (mkF m 202 #[.val (.int p0), .val (.int p1), .val (.int p2), .val (.int p3), .val (.int p4), .val (.int p5), .val (.ref b1), .unset, .unset, .unset, .unset, .unset, .unset, .unset, .unset, .unset, .unset, .unset, .unset, .unset] [(.int (2 : Int32)), (.int (8 : Int32)), (.ref b66), (.ref b66)])) rfl rfl (hb hby at_202)
  have V84 : Arv Z h84 b66 k66 .byte (32 : Int32) [(.int (nar .byte (2 : Int32))), (.int (nar .byte (2 : Int32))), (.int (nar .byte (2 : Int32))), (.int (nar .byte (2 : Int32))), (.int (nar .byte (2 : Int32))), (.int (nar .byte (2 : Int32))), (.int (nar .byte (2 : Int32))), (.int (nar .byte (2 : Int32))), (.int (nar .byte (2 : Int32))), (.int (0 : Int32)), (.int (0 : Int32)), (.int (0 : Int32)), (.int (0 : Int32)), (.int (0 : Int32)), (.int (0 : Int32)), (.int (0 : Int32)), (.int (0 : Int32)), (.int (0 : Int32)), (.int (0 : Int32)), (.int (0 : Int32)), (.int (0 : Int32)), (.int (0 : Int32)), (.int (0 : Int32)), (.int (0 : Int32)), (.int (0 : Int32)), (.int (0 : Int32)), (.int (0 : Int32)), (.int (0 : Int32)), (.int (0 : Int32)), (.int (0 : Int32)), (.int (0 : Int32)), (.int (0 : Int32))] (.int (0 : Int32)) := Arv.set Aro83 qo83 So83 No83 Ho83 Go83 (fits_nar_byte _) W84 8 rfl (Nat.le_of_ble_eq_true rfl)
  have K84 := K82.wr W84 (Or.inr sz_b66)
  have N84 := Fr.snoc X84 N82 g_b66
  obtain ⟨clo85, Aro85, qo85, So85, No85, Ho85, Go85⟩ := id V84
  have hino85 : ¬ ((9 : Int32) < 0 ∨ clo85.slots.size ≤ ((9 : Int32)).toNatClampNeg) := inb_of So85 ⟨by decide, by decide⟩
  obtain ⟨T86, h86, X86, e86, W86, st86⟩ := stB X84 hx hZ e84 Aro85 (j := (9 : Int32)) hino85 (g := (mkF m 207 #[.val (.int p0), .val (.int p1), .val (.int p2), .val (.int p3), .val (.int p4), .val (.int p5), .val (.ref b1), .unset, .unset, .unset, .unset, .unset, .unset, .unset, .unset, .unset, .unset, .unset, .unset, .unset] [(.int (2 : Int32)), (.int (9 : Int32)), (.ref b66), (.ref b66)])) rfl rfl (hb hby at_207)
  have V86 : Arv Z h86 b66 k66 .byte (32 : Int32) [(.int (nar .byte (2 : Int32))), (.int (nar .byte (2 : Int32))), (.int (nar .byte (2 : Int32))), (.int (nar .byte (2 : Int32))), (.int (nar .byte (2 : Int32))), (.int (nar .byte (2 : Int32))), (.int (nar .byte (2 : Int32))), (.int (nar .byte (2 : Int32))), (.int (nar .byte (2 : Int32))), (.int (nar .byte (2 : Int32))), (.int (0 : Int32)), (.int (0 : Int32)), (.int (0 : Int32)), (.int (0 : Int32)), (.int (0 : Int32)), (.int (0 : Int32)), (.int (0 : Int32)), (.int (0 : Int32)), (.int (0 : Int32)), (.int (0 : Int32)), (.int (0 : Int32)), (.int (0 : Int32)), (.int (0 : Int32)), (.int (0 : Int32)), (.int (0 : Int32)), (.int (0 : Int32)), (.int (0 : Int32)), (.int (0 : Int32)), (.int (0 : Int32)), (.int (0 : Int32)), (.int (0 : Int32)), (.int (0 : Int32))] (.int (0 : Int32)) := Arv.set Aro85 qo85 So85 No85 Ho85 Go85 (fits_nar_byte _) W86 9 rfl (Nat.le_of_ble_eq_true rfl)
  have K86 := K84.wr W86 (Or.inr sz_b66)
  have N86 := Fr.snoc X86 N84 g_b66
  obtain ⟨clo87, Aro87, qo87, So87, No87, Ho87, Go87⟩ := id V86
  have hino87 : ¬ ((10 : Int32) < 0 ∨ clo87.slots.size ≤ ((10 : Int32)).toNatClampNeg) := inb_of So87 ⟨by decide, by decide⟩
  obtain ⟨T88, h88, X88, e88, W88, st88⟩ := stB X86 hx hZ e86 Aro87 (j := (10 : Int32)) hino87 (g := (mkF m 212 #[.val (.int p0), .val (.int p1), .val (.int p2), .val (.int p3), .val (.int p4), .val (.int p5), .val (.ref b1), .unset, .unset, .unset, .unset, .unset, .unset, .unset, .unset, .unset, .unset, .unset, .unset, .unset] [(.int (2 : Int32)), (.int (10 : Int32)), (.ref b66), (.ref b66)])) rfl rfl (hb hby at_212)
  have V88 : Arv Z h88 b66 k66 .byte (32 : Int32) [(.int (nar .byte (2 : Int32))), (.int (nar .byte (2 : Int32))), (.int (nar .byte (2 : Int32))), (.int (nar .byte (2 : Int32))), (.int (nar .byte (2 : Int32))), (.int (nar .byte (2 : Int32))), (.int (nar .byte (2 : Int32))), (.int (nar .byte (2 : Int32))), (.int (nar .byte (2 : Int32))), (.int (nar .byte (2 : Int32))), (.int (nar .byte (2 : Int32))), (.int (0 : Int32)), (.int (0 : Int32)), (.int (0 : Int32)), (.int (0 : Int32)), (.int (0 : Int32)), (.int (0 : Int32)), (.int (0 : Int32)), (.int (0 : Int32)), (.int (0 : Int32)), (.int (0 : Int32)), (.int (0 : Int32)), (.int (0 : Int32)), (.int (0 : Int32)), (.int (0 : Int32)), (.int (0 : Int32)), (.int (0 : Int32)), (.int (0 : Int32)), (.int (0 : Int32)), (.int (0 : Int32)), (.int (0 : Int32)), (.int (0 : Int32))] (.int (0 : Int32)) := Arv.set Aro87 qo87 So87 No87 Ho87 Go87 (fits_nar_byte _) W88 10 rfl (Nat.le_of_ble_eq_true rfl)
  have K88 := K86.wr W88 (Or.inr sz_b66)
  have N88 := Fr.snoc X88 N86 g_b66
  obtain ⟨clo89, Aro89, qo89, So89, No89, Ho89, Go89⟩ := id V88
  have hino89 : ¬ ((11 : Int32) < 0 ∨ clo89.slots.size ≤ ((11 : Int32)).toNatClampNeg) := inb_of So89 ⟨by decide, by decide⟩
  obtain ⟨T90, h90, X90, e90, W90, st90⟩ := stB X88 hx hZ e88 Aro89 (j := (11 : Int32)) hino89 (g := (mkF m 217 #[.val (.int p0), .val (.int p1), .val (.int p2), .val (.int p3), .val (.int p4), .val (.int p5), .val (.ref b1), .unset, .unset, .unset, .unset, .unset, .unset, .unset, .unset, .unset, .unset, .unset, .unset, .unset] [(.int (2 : Int32)), (.int (11 : Int32)), (.ref b66), (.ref b66)])) rfl rfl (hb hby at_217)
  have V90 : Arv Z h90 b66 k66 .byte (32 : Int32) [(.int (nar .byte (2 : Int32))), (.int (nar .byte (2 : Int32))), (.int (nar .byte (2 : Int32))), (.int (nar .byte (2 : Int32))), (.int (nar .byte (2 : Int32))), (.int (nar .byte (2 : Int32))), (.int (nar .byte (2 : Int32))), (.int (nar .byte (2 : Int32))), (.int (nar .byte (2 : Int32))), (.int (nar .byte (2 : Int32))), (.int (nar .byte (2 : Int32))), (.int (nar .byte (2 : Int32))), (.int (0 : Int32)), (.int (0 : Int32)), (.int (0 : Int32)), (.int (0 : Int32)), (.int (0 : Int32)), (.int (0 : Int32)), (.int (0 : Int32)), (.int (0 : Int32)), (.int (0 : Int32)), (.int (0 : Int32)), (.int (0 : Int32)), (.int (0 : Int32)), (.int (0 : Int32)), (.int (0 : Int32)), (.int (0 : Int32)), (.int (0 : Int32)), (.int (0 : Int32)), (.int (0 : Int32)), (.int (0 : Int32)), (.int (0 : Int32))] (.int (0 : Int32)) := Arv.set Aro89 qo89 So89 No89 Ho89 Go89 (fits_nar_byte _) W90 11 rfl (Nat.le_of_ble_eq_true rfl)
  have K90 := K88.wr W90 (Or.inr sz_b66)
  have N90 := Fr.snoc X90 N88 g_b66
  obtain ⟨clo91, Aro91, qo91, So91, No91, Ho91, Go91⟩ := id V90
  have hino91 : ¬ ((12 : Int32) < 0 ∨ clo91.slots.size ≤ ((12 : Int32)).toNatClampNeg) := inb_of So91 ⟨by decide, by decide⟩
  obtain ⟨T92, h92, X92, e92, W92, st92⟩ := stB X90 hx hZ e90 Aro91 (j := (12 : Int32)) hino91 (g := (mkF m 222 #[.val (.int p0), .val (.int p1), .val (.int p2), .val (.int p3), .val (.int p4), .val (.int p5), .val (.ref b1), .unset, .unset, .unset, .unset, .unset, .unset, .unset, .unset, .unset, .unset, .unset, .unset, .unset] [(.int (2 : Int32)), (.int (12 : Int32)), (.ref b66), (.ref b66)])) rfl rfl (hb hby at_222)
  have V92 : Arv Z h92 b66 k66 .byte (32 : Int32) [(.int (nar .byte (2 : Int32))), (.int (nar .byte (2 : Int32))), (.int (nar .byte (2 : Int32))), (.int (nar .byte (2 : Int32))), (.int (nar .byte (2 : Int32))), (.int (nar .byte (2 : Int32))), (.int (nar .byte (2 : Int32))), (.int (nar .byte (2 : Int32))), (.int (nar .byte (2 : Int32))), (.int (nar .byte (2 : Int32))), (.int (nar .byte (2 : Int32))), (.int (nar .byte (2 : Int32))), (.int (nar .byte (2 : Int32))), (.int (0 : Int32)), (.int (0 : Int32)), (.int (0 : Int32)), (.int (0 : Int32)), (.int (0 : Int32)), (.int (0 : Int32)), (.int (0 : Int32)), (.int (0 : Int32)), (.int (0 : Int32)), (.int (0 : Int32)), (.int (0 : Int32)), (.int (0 : Int32)), (.int (0 : Int32)), (.int (0 : Int32)), (.int (0 : Int32)), (.int (0 : Int32)), (.int (0 : Int32)), (.int (0 : Int32)), (.int (0 : Int32))] (.int (0 : Int32)) := Arv.set Aro91 qo91 So91 No91 Ho91 Go91 (fits_nar_byte _) W92 12 rfl (Nat.le_of_ble_eq_true rfl)
  have K92 := K90.wr W92 (Or.inr sz_b66)
  have N92 := Fr.snoc X92 N90 g_b66
  obtain ⟨clo93, Aro93, qo93, So93, No93, Ho93, Go93⟩ := id V92
  have hino93 : ¬ ((13 : Int32) < 0 ∨ clo93.slots.size ≤ ((13 : Int32)).toNatClampNeg) := inb_of So93 ⟨by decide, by decide⟩
  obtain ⟨T94, h94, X94, e94, W94, st94⟩ := stB X92 hx hZ e92 Aro93 (j := (13 : Int32)) hino93 (g := (mkF m 227 #[.val (.int p0), .val (.int p1), .val (.int p2), .val (.int p3), .val (.int p4), .val (.int p5), .val (.ref b1), .unset, .unset, .unset, .unset, .unset, .unset, .unset, .unset, .unset, .unset, .unset, .unset, .unset] [(.int (2 : Int32)), (.int (13 : Int32)), (.ref b66), (.ref b66)])) rfl rfl (hb hby at_227)
  have V94 : Arv Z h94 b66 k66 .byte (32 : Int32) [(.int (nar .byte (2 : Int32))), (.int (nar .byte (2 : Int32))), (.int (nar .byte (2 : Int32))), (.int (nar .byte (2 : Int32))), (.int (nar .byte (2 : Int32))), (.int (nar .byte (2 : Int32))), (.int (nar .byte (2 : Int32))), (.int (nar .byte (2 : Int32))), (.int (nar .byte (2 : Int32))), (.int (nar .byte (2 : Int32))), (.int (nar .byte (2 : Int32))), (.int (nar .byte (2 : Int32))), (.int (nar .byte (2 : Int32))), (.int (nar .byte (2 : Int32))), (.int (0 : Int32)), (.int (0 : Int32)), (.int (0 : Int32)), (.int (0 : Int32)), (.int (0 : Int32)), (.int (0 : Int32)), (.int (0 : Int32)), (.int (0 : Int32)), (.int (0 : Int32)), (.int (0 : Int32)), (.int (0 : Int32)), (.int (0 : Int32)), (.int (0 : Int32)), (.int (0 : Int32)), (.int (0 : Int32)), (.int (0 : Int32)), (.int (0 : Int32)), (.int (0 : Int32))] (.int (0 : Int32)) := Arv.set Aro93 qo93 So93 No93 Ho93 Go93 (fits_nar_byte _) W94 13 rfl (Nat.le_of_ble_eq_true rfl)
  have K94 := K92.wr W94 (Or.inr sz_b66)
  have N94 := Fr.snoc X94 N92 g_b66
  obtain ⟨clo95, Aro95, qo95, So95, No95, Ho95, Go95⟩ := id V94
  have hino95 : ¬ ((14 : Int32) < 0 ∨ clo95.slots.size ≤ ((14 : Int32)).toNatClampNeg) := inb_of So95 ⟨by decide, by decide⟩
  obtain ⟨T96, h96, X96, e96, W96, st96⟩ := stB X94 hx hZ e94 Aro95 (j := (14 : Int32)) hino95 (g := (mkF m 232 #[.val (.int p0), .val (.int p1), .val (.int p2), .val (.int p3), .val (.int p4), .val (.int p5), .val (.ref b1), .unset, .unset, .unset, .unset, .unset, .unset, .unset, .unset, .unset, .unset, .unset, .unset, .unset] [(.int (2 : Int32)), (.int (14 : Int32)), (.ref b66), (.ref b66)])) rfl rfl (hb hby at_232)
  have V96 : Arv Z h96 b66 k66 .byte (32 : Int32) [(.int (nar .byte (2 : Int32))), (.int (nar .byte (2 : Int32))), (.int (nar .byte (2 : Int32))), (.int (nar .byte (2 : Int32))), (.int (nar .byte (2 : Int32))), (.int (nar .byte (2 : Int32))), (.int (nar .byte (2 : Int32))), (.int (nar .byte (2 : Int32))), (.int (nar .byte (2 : Int32))), (.int (nar .byte (2 : Int32))), (.int (nar .byte (2 : Int32))), (.int (nar .byte (2 : Int32))), (.int (nar .byte (2 : Int32))), (.int (nar .byte (2 : Int32))), (.int (nar .byte (2 : Int32))), (.int (0 : Int32)), (.int (0 : Int32)), (.int (0 : Int32)), (.int (0 : Int32)), (.int (0 : Int32)), (.int (0 : Int32)), (.int (0 : Int32)), (.int (0 : Int32)), (.int (0 : Int32)), (.int (0 : Int32)), (.int (0 : Int32)), (.int (0 : Int32)), (.int (0 : Int32)), (.int (0 : Int32)), (.int (0 : Int32)), (.int (0 : Int32)), (.int (0 : Int32))] (.int (0 : Int32)) := Arv.set Aro95 qo95 So95 No95 Ho95 Go95 (fits_nar_byte _) W96 14 rfl (Nat.le_of_ble_eq_true rfl)
  have K96 := K94.wr W96 (Or.inr sz_b66)
  have N96 := Fr.snoc X96 N94 g_b66
  obtain ⟨clo97, Aro97, qo97, So97, No97, Ho97, Go97⟩ := id V96
  have hino97 : ¬ ((15 : Int32) < 0 ∨ clo97.slots.size ≤ ((15 : Int32)).toNatClampNeg) := inb_of So97 ⟨by decide, by decide⟩
  obtain ⟨T98, h98, X98, e98, W98, st98⟩ := stB X96 hx hZ e96 Aro97 (j := (15 : Int32)) hino97 (g := (mkF m 237 #[.val (.int p0), .val (.int p1), .val (.int p2), .val (.int p3), .val (.int p4), .val (.int p5), .val (.ref b1), .unset, .unset, .unset, .unset, .unset, .unset, .unset, .unset, .unset, .unset, .unset, .unset, .unset] [(.int (2 : Int32)), (.int (15 : Int32)), (.ref b66), (.ref b66)])) rfl rfl (hb hby at_237)
  have V98 : Arv Z h98 b66 k66 .byte (32 : Int32) [(.int (nar .byte (2 : Int32))), (.int (nar .byte (2 : Int32))), (.int (nar .byte (2 : Int32))), (.int (nar .byte (2 : Int32))), (.int (nar .byte (2 : Int32))), (.int (nar .byte (2 : Int32))), (.int (nar .byte (2 : Int32))), (.int (nar .byte (2 : Int32))), (.int (nar .byte (2 : Int32))), (.int (nar .byte (2 : Int32))), (.int (nar .byte (2 : Int32))), (.int (nar .byte (2 : Int32))), (.int (nar .byte (2 : Int32))), (.int (nar .byte (2 : Int32))), (.int (nar .byte (2 : Int32))), (.int (nar .byte (2 : Int32))), (.int (0 : Int32)), (.int (0 : Int32)), (.int (0 : Int32)), (.int (0 : Int32)), (.int (0 : Int32)), (.int (0 : Int32)), (.int (0 : Int32)), (.int (0 : Int32)), (.int (0 : Int32)), (.int (0 : Int32)), (.int (0 : Int32)), (.int (0 : Int32)), (.int (0 : Int32)), (.int (0 : Int32)), (.int (0 : Int32)), (.int (0 : Int32))] (.int (0 : Int32)) := Arv.set Aro97 qo97 So97 No97 Ho97 Go97 (fits_nar_byte _) W98 15 rfl (Nat.le_of_ble_eq_true rfl)
  have K98 := K96.wr W98 (Or.inr sz_b66)
  have N98 := Fr.snoc X98 N96 g_b66
  obtain ⟨clo99, Aro99, qo99, So99, No99, Ho99, Go99⟩ := id V98
  have hino99 : ¬ ((16 : Int32) < 0 ∨ clo99.slots.size ≤ ((16 : Int32)).toNatClampNeg) := inb_of So99 ⟨by decide, by decide⟩
  obtain ⟨T100, h100, X100, e100, W100, st100⟩ := stB X98 hx hZ e98 Aro99 (j := (16 : Int32)) hino99 (g := (mkF m 242 #[.val (.int p0), .val (.int p1), .val (.int p2), .val (.int p3), .val (.int p4), .val (.int p5), .val (.ref b1), .unset, .unset, .unset, .unset, .unset, .unset, .unset, .unset, .unset, .unset, .unset, .unset, .unset] [(.int (2 : Int32)), (.int (16 : Int32)), (.ref b66), (.ref b66)])) rfl rfl (hb hby at_242)
  have V100 : Arv Z h100 b66 k66 .byte (32 : Int32) [(.int (nar .byte (2 : Int32))), (.int (nar .byte (2 : Int32))), (.int (nar .byte (2 : Int32))), (.int (nar .byte (2 : Int32))), (.int (nar .byte (2 : Int32))), (.int (nar .byte (2 : Int32))), (.int (nar .byte (2 : Int32))), (.int (nar .byte (2 : Int32))), (.int (nar .byte (2 : Int32))), (.int (nar .byte (2 : Int32))), (.int (nar .byte (2 : Int32))), (.int (nar .byte (2 : Int32))), (.int (nar .byte (2 : Int32))), (.int (nar .byte (2 : Int32))), (.int (nar .byte (2 : Int32))), (.int (nar .byte (2 : Int32))), (.int (nar .byte (2 : Int32))), (.int (0 : Int32)), (.int (0 : Int32)), (.int (0 : Int32)), (.int (0 : Int32)), (.int (0 : Int32)), (.int (0 : Int32)), (.int (0 : Int32)), (.int (0 : Int32)), (.int (0 : Int32)), (.int (0 : Int32)), (.int (0 : Int32)), (.int (0 : Int32)), (.int (0 : Int32)), (.int (0 : Int32)), (.int (0 : Int32))] (.int (0 : Int32)) := Arv.set Aro99 qo99 So99 No99 Ho99 Go99 (fits_nar_byte _) W100 16 rfl (Nat.le_of_ble_eq_true rfl)
  have K100 := K98.wr W100 (Or.inr sz_b66)
  have N100 := Fr.snoc X100 N98 g_b66
  obtain ⟨clo101, Aro101, qo101, So101, No101, Ho101, Go101⟩ := id V100
  have hino101 : ¬ ((17 : Int32) < 0 ∨ clo101.slots.size ≤ ((17 : Int32)).toNatClampNeg) := inb_of So101 ⟨by decide, by decide⟩
  obtain ⟨T102, h102, X102, e102, W102, st102⟩ := stB X100 hx hZ e100 Aro101 (j := (17 : Int32)) hino101 (g := (mkF m 247 #[.val (.int p0), .val (.int p1), .val (.int p2), .val (.int p3), .val (.int p4), .val (.int p5), .val (.ref b1), .unset, .unset, .unset, .unset, .unset, .unset, .unset, .unset, .unset, .unset, .unset, .unset, .unset] [(.int (2 : Int32)), (.int (17 : Int32)), (.ref b66), (.ref b66)])) rfl rfl (hb hby at_247)
  have V102 : Arv Z h102 b66 k66 .byte (32 : Int32) [(.int (nar .byte (2 : Int32))), (.int (nar .byte (2 : Int32))), (.int (nar .byte (2 : Int32))), (.int (nar .byte (2 : Int32))), (.int (nar .byte (2 : Int32))), (.int (nar .byte (2 : Int32))), (.int (nar .byte (2 : Int32))), (.int (nar .byte (2 : Int32))), (.int (nar .byte (2 : Int32))), (.int (nar .byte (2 : Int32))), (.int (nar .byte (2 : Int32))), (.int (nar .byte (2 : Int32))), (.int (nar .byte (2 : Int32))), (.int (nar .byte (2 : Int32))), (.int (nar .byte (2 : Int32))), (.int (nar .byte (2 : Int32))), (.int (nar .byte (2 : Int32))), (.int (nar .byte (2 : Int32))), (.int (0 : Int32)), (.int (0 : Int32)), (.int (0 : Int32)), (.int (0 : Int32)), (.int (0 : Int32)), (.int (0 : Int32)), (.int (0 : Int32)), (.int (0 : Int32)), (.int (0 : Int32)), (.int (0 : Int32)), (.int (0 : Int32)), (.int (0 : Int32)), (.int (0 : Int32)), (.int (0 : Int32))] (.int (0 : Int32)) := Arv.set Aro101 qo101 So101 No101 Ho101 Go101 (fits_nar_byte _) W102 17 rfl (Nat.le_of_ble_eq_true rfl)
  have K102 := K100.wr W102 (Or.inr sz_b66)
  have N102 := Fr.snoc X102 N100 g_b66
  obtain ⟨clo103, Aro103, qo103, So103, No103, Ho103, Go103⟩ := id V102
  have hino103 : ¬ ((18 : Int32) < 0 ∨ clo103.slots.size ≤ ((18 : Int32)).toNatClampNeg) := inb_of So103 ⟨by decide, by decide⟩
  obtain ⟨T104, h104, X104, e104, W104, st104⟩ := stB X102 hx hZ e102 Aro103 (j := (18 : Int32)) hino103 (g := (mkF m 252 #[.val (.int p0), .val (.int p1), .val (.int p2), .val (.int p3), .val (.int p4), .val (.int p5), .val (.ref b1), .unset, .unset, .unset, .unset, .unset, .unset, .unset, .unset, .unset, .unset, .unset, .unset, .unset] [(.int (2 : Int32)), (.int (18 : Int32)), (.ref b66), (.ref b66)])) rfl rfl (hb hby at_252)
  have V104 : Arv Z h104 b66 k66 .byte (32 : Int32) [(.int (nar .byte (2 : Int32))), (.int (nar .byte (2 : Int32))), (.int (nar .byte (2 : Int32))), (.int (nar .byte (2 : Int32))), (.int (nar .byte (2 : Int32))), (.int (nar .byte (2 : Int32))), (.int (nar .byte (2 : Int32))), (.int (nar .byte (2 : Int32))), (.int (nar .byte (2 : Int32))), (.int (nar .byte (2 : Int32))), (.int (nar .byte (2 : Int32))), (.int (nar .byte (2 : Int32))), (.int (nar .byte (2 : Int32))), (.int (nar .byte (2 : Int32))), (.int (nar .byte (2 : Int32))), (.int (nar .byte (2 : Int32))), (.int (nar .byte (2 : Int32))), (.int (nar .byte (2 : Int32))), (.int (nar .byte (2 : Int32))), (.int (0 : Int32)), (.int (0 : Int32)), (.int (0 : Int32)), (.int (0 : Int32)), (.int (0 : Int32)), (.int (0 : Int32)), (.int (0 : Int32)), (.int (0 : Int32)), (.int (0 : Int32)), (.int (0 : Int32)), (.int (0 : Int32)), (.int (0 : Int32)), (.int (0 : Int32))] (.int (0 : Int32)) := Arv.set Aro103 qo103 So103 No103 Ho103 Go103 (fits_nar_byte _) W104 18 rfl (Nat.le_of_ble_eq_true rfl)
  have K104 := K102.wr W104 (Or.inr sz_b66)
  have N104 := Fr.snoc X104 N102 g_b66
  obtain ⟨clo105, Aro105, qo105, So105, No105, Ho105, Go105⟩ := id V104
  have hino105 : ¬ ((19 : Int32) < 0 ∨ clo105.slots.size ≤ ((19 : Int32)).toNatClampNeg) := inb_of So105 ⟨by decide, by decide⟩
  obtain ⟨T106, h106, X106, e106, W106, st106⟩ := stB X104 hx hZ e104 Aro105 (j := (19 : Int32)) hino105 (g := (mkF m 257 #[.val (.int p0), .val (.int p1), .val (.int p2), .val (.int p3), .val (.int p4), .val (.int p5), .val (.ref b1), .unset, .unset, .unset, .unset, .unset, .unset, .unset, .unset, .unset, .unset, .unset, .unset, .unset] [(.int (2 : Int32)), (.int (19 : Int32)), (.ref b66), (.ref b66)])) rfl rfl (hb hby at_257)
  have V106 : Arv Z h106 b66 k66 .byte (32 : Int32) [(.int (nar .byte (2 : Int32))), (.int (nar .byte (2 : Int32))), (.int (nar .byte (2 : Int32))), (.int (nar .byte (2 : Int32))), (.int (nar .byte (2 : Int32))), (.int (nar .byte (2 : Int32))), (.int (nar .byte (2 : Int32))), (.int (nar .byte (2 : Int32))), (.int (nar .byte (2 : Int32))), (.int (nar .byte (2 : Int32))), (.int (nar .byte (2 : Int32))), (.int (nar .byte (2 : Int32))), (.int (nar .byte (2 : Int32))), (.int (nar .byte (2 : Int32))), (.int (nar .byte (2 : Int32))), (.int (nar .byte (2 : Int32))), (.int (nar .byte (2 : Int32))), (.int (nar .byte (2 : Int32))), (.int (nar .byte (2 : Int32))), (.int (nar .byte (2 : Int32))), (.int (0 : Int32)), (.int (0 : Int32)), (.int (0 : Int32)), (.int (0 : Int32)), (.int (0 : Int32)), (.int (0 : Int32)), (.int (0 : Int32)), (.int (0 : Int32)), (.int (0 : Int32)), (.int (0 : Int32)), (.int (0 : Int32)), (.int (0 : Int32))] (.int (0 : Int32)) := Arv.set Aro105 qo105 So105 No105 Ho105 Go105 (fits_nar_byte _) W106 19 rfl (Nat.le_of_ble_eq_true rfl)
  have K106 := K104.wr W106 (Or.inr sz_b66)
  have N106 := Fr.snoc X106 N104 g_b66
  obtain ⟨clo107, Aro107, qo107, So107, No107, Ho107, Go107⟩ := id V106
  have hino107 : ¬ ((20 : Int32) < 0 ∨ clo107.slots.size ≤ ((20 : Int32)).toNatClampNeg) := inb_of So107 ⟨by decide, by decide⟩
  obtain ⟨T108, h108, X108, e108, W108, st108⟩ := stB X106 hx hZ e106 Aro107 (j := (20 : Int32)) hino107 (g := (mkF m 262 #[.val (.int p0), .val (.int p1), .val (.int p2), .val (.int p3), .val (.int p4), .val (.int p5), .val (.ref b1), .unset, .unset, .unset, .unset, .unset, .unset, .unset, .unset, .unset, .unset, .unset, .unset, .unset] [(.int (2 : Int32)), (.int (20 : Int32)), (.ref b66), (.ref b66)])) rfl rfl (hb hby at_262)
  have V108 : Arv Z h108 b66 k66 .byte (32 : Int32) [(.int (nar .byte (2 : Int32))), (.int (nar .byte (2 : Int32))), (.int (nar .byte (2 : Int32))), (.int (nar .byte (2 : Int32))), (.int (nar .byte (2 : Int32))), (.int (nar .byte (2 : Int32))), (.int (nar .byte (2 : Int32))), (.int (nar .byte (2 : Int32))), (.int (nar .byte (2 : Int32))), (.int (nar .byte (2 : Int32))), (.int (nar .byte (2 : Int32))), (.int (nar .byte (2 : Int32))), (.int (nar .byte (2 : Int32))), (.int (nar .byte (2 : Int32))), (.int (nar .byte (2 : Int32))), (.int (nar .byte (2 : Int32))), (.int (nar .byte (2 : Int32))), (.int (nar .byte (2 : Int32))), (.int (nar .byte (2 : Int32))), (.int (nar .byte (2 : Int32))), (.int (nar .byte (2 : Int32))), (.int (0 : Int32)), (.int (0 : Int32)), (.int (0 : Int32)), (.int (0 : Int32)), (.int (0 : Int32)), (.int (0 : Int32)), (.int (0 : Int32)), (.int (0 : Int32)), (.int (0 : Int32)), (.int (0 : Int32)), (.int (0 : Int32))] (.int (0 : Int32)) := Arv.set Aro107 qo107 So107 No107 Ho107 Go107 (fits_nar_byte _) W108 20 rfl (Nat.le_of_ble_eq_true rfl)
  have K108 := K106.wr W108 (Or.inr sz_b66)
  have N108 := Fr.snoc X108 N106 g_b66
  obtain ⟨clo109, Aro109, qo109, So109, No109, Ho109, Go109⟩ := id V108
  have hino109 : ¬ ((21 : Int32) < 0 ∨ clo109.slots.size ≤ ((21 : Int32)).toNatClampNeg) := inb_of So109 ⟨by decide, by decide⟩
  obtain ⟨T110, h110, X110, e110, W110, st110⟩ := stB X108 hx hZ e108 Aro109 (j := (21 : Int32)) hino109 (g := (mkF m 267 #[.val (.int p0), .val (.int p1), .val (.int p2), .val (.int p3), .val (.int p4), .val (.int p5), .val (.ref b1), .unset, .unset, .unset, .unset, .unset, .unset, .unset, .unset, .unset, .unset, .unset, .unset, .unset] [(.int (2 : Int32)), (.int (21 : Int32)), (.ref b66), (.ref b66)])) rfl rfl (hb hby at_267)
  have V110 : Arv Z h110 b66 k66 .byte (32 : Int32) [(.int (nar .byte (2 : Int32))), (.int (nar .byte (2 : Int32))), (.int (nar .byte (2 : Int32))), (.int (nar .byte (2 : Int32))), (.int (nar .byte (2 : Int32))), (.int (nar .byte (2 : Int32))), (.int (nar .byte (2 : Int32))), (.int (nar .byte (2 : Int32))), (.int (nar .byte (2 : Int32))), (.int (nar .byte (2 : Int32))), (.int (nar .byte (2 : Int32))), (.int (nar .byte (2 : Int32))), (.int (nar .byte (2 : Int32))), (.int (nar .byte (2 : Int32))), (.int (nar .byte (2 : Int32))), (.int (nar .byte (2 : Int32))), (.int (nar .byte (2 : Int32))), (.int (nar .byte (2 : Int32))), (.int (nar .byte (2 : Int32))), (.int (nar .byte (2 : Int32))), (.int (nar .byte (2 : Int32))), (.int (nar .byte (2 : Int32))), (.int (0 : Int32)), (.int (0 : Int32)), (.int (0 : Int32)), (.int (0 : Int32)), (.int (0 : Int32)), (.int (0 : Int32)), (.int (0 : Int32)), (.int (0 : Int32)), (.int (0 : Int32)), (.int (0 : Int32))] (.int (0 : Int32)) := Arv.set Aro109 qo109 So109 No109 Ho109 Go109 (fits_nar_byte _) W110 21 rfl (Nat.le_of_ble_eq_true rfl)
  have K110 := K108.wr W110 (Or.inr sz_b66)
  have N110 := Fr.snoc X110 N108 g_b66
  obtain ⟨clo111, Aro111, qo111, So111, No111, Ho111, Go111⟩ := id V110
  have hino111 : ¬ ((22 : Int32) < 0 ∨ clo111.slots.size ≤ ((22 : Int32)).toNatClampNeg) := inb_of So111 ⟨by decide, by decide⟩
  obtain ⟨T112, h112, X112, e112, W112, st112⟩ := stB X110 hx hZ e110 Aro111 (j := (22 : Int32)) hino111 (g := (mkF m 272 #[.val (.int p0), .val (.int p1), .val (.int p2), .val (.int p3), .val (.int p4), .val (.int p5), .val (.ref b1), .unset, .unset, .unset, .unset, .unset, .unset, .unset, .unset, .unset, .unset, .unset, .unset, .unset] [(.int (2 : Int32)), (.int (22 : Int32)), (.ref b66), (.ref b66)])) rfl rfl (hb hby at_272)
  have V112 : Arv Z h112 b66 k66 .byte (32 : Int32) [(.int (nar .byte (2 : Int32))), (.int (nar .byte (2 : Int32))), (.int (nar .byte (2 : Int32))), (.int (nar .byte (2 : Int32))), (.int (nar .byte (2 : Int32))), (.int (nar .byte (2 : Int32))), (.int (nar .byte (2 : Int32))), (.int (nar .byte (2 : Int32))), (.int (nar .byte (2 : Int32))), (.int (nar .byte (2 : Int32))), (.int (nar .byte (2 : Int32))), (.int (nar .byte (2 : Int32))), (.int (nar .byte (2 : Int32))), (.int (nar .byte (2 : Int32))), (.int (nar .byte (2 : Int32))), (.int (nar .byte (2 : Int32))), (.int (nar .byte (2 : Int32))), (.int (nar .byte (2 : Int32))), (.int (nar .byte (2 : Int32))), (.int (nar .byte (2 : Int32))), (.int (nar .byte (2 : Int32))), (.int (nar .byte (2 : Int32))), (.int (nar .byte (2 : Int32))), (.int (0 : Int32)), (.int (0 : Int32)), (.int (0 : Int32)), (.int (0 : Int32)), (.int (0 : Int32)), (.int (0 : Int32)), (.int (0 : Int32)), (.int (0 : Int32)), (.int (0 : Int32))] (.int (0 : Int32)) := Arv.set Aro111 qo111 So111 No111 Ho111 Go111 (fits_nar_byte _) W112 22 rfl (Nat.le_of_ble_eq_true rfl)
  have K112 := K110.wr W112 (Or.inr sz_b66)
  have N112 := Fr.snoc X112 N110 g_b66
  obtain ⟨clo113, Aro113, qo113, So113, No113, Ho113, Go113⟩ := id V112
  have hino113 : ¬ ((23 : Int32) < 0 ∨ clo113.slots.size ≤ ((23 : Int32)).toNatClampNeg) := inb_of So113 ⟨by decide, by decide⟩
  obtain ⟨T114, h114, X114, e114, W114, st114⟩ := stB X112 hx hZ e112 Aro113 (j := (23 : Int32)) hino113 (g := (mkF m 277 #[.val (.int p0), .val (.int p1), .val (.int p2), .val (.int p3), .val (.int p4), .val (.int p5), .val (.ref b1), .unset, .unset, .unset, .unset, .unset, .unset, .unset, .unset, .unset, .unset, .unset, .unset, .unset] [(.int (2 : Int32)), (.int (23 : Int32)), (.ref b66), (.ref b66)])) rfl rfl (hb hby at_277)
  have V114 : Arv Z h114 b66 k66 .byte (32 : Int32) [(.int (nar .byte (2 : Int32))), (.int (nar .byte (2 : Int32))), (.int (nar .byte (2 : Int32))), (.int (nar .byte (2 : Int32))), (.int (nar .byte (2 : Int32))), (.int (nar .byte (2 : Int32))), (.int (nar .byte (2 : Int32))), (.int (nar .byte (2 : Int32))), (.int (nar .byte (2 : Int32))), (.int (nar .byte (2 : Int32))), (.int (nar .byte (2 : Int32))), (.int (nar .byte (2 : Int32))), (.int (nar .byte (2 : Int32))), (.int (nar .byte (2 : Int32))), (.int (nar .byte (2 : Int32))), (.int (nar .byte (2 : Int32))), (.int (nar .byte (2 : Int32))), (.int (nar .byte (2 : Int32))), (.int (nar .byte (2 : Int32))), (.int (nar .byte (2 : Int32))), (.int (nar .byte (2 : Int32))), (.int (nar .byte (2 : Int32))), (.int (nar .byte (2 : Int32))), (.int (nar .byte (2 : Int32))), (.int (0 : Int32)), (.int (0 : Int32)), (.int (0 : Int32)), (.int (0 : Int32)), (.int (0 : Int32)), (.int (0 : Int32)), (.int (0 : Int32)), (.int (0 : Int32))] (.int (0 : Int32)) := Arv.set Aro113 qo113 So113 No113 Ho113 Go113 (fits_nar_byte _) W114 23 rfl (Nat.le_of_ble_eq_true rfl)
  have K114 := K112.wr W114 (Or.inr sz_b66)
  have N114 := Fr.snoc X114 N112 g_b66
  obtain ⟨clo115, Aro115, qo115, So115, No115, Ho115, Go115⟩ := id V114
  have hino115 : ¬ ((24 : Int32) < 0 ∨ clo115.slots.size ≤ ((24 : Int32)).toNatClampNeg) := inb_of So115 ⟨by decide, by decide⟩
  obtain ⟨T116, h116, X116, e116, W116, st116⟩ := stB X114 hx hZ e114 Aro115 (j := (24 : Int32)) hino115 (g := (mkF m 282 #[.val (.int p0), .val (.int p1), .val (.int p2), .val (.int p3), .val (.int p4), .val (.int p5), .val (.ref b1), .unset, .unset, .unset, .unset, .unset, .unset, .unset, .unset, .unset, .unset, .unset, .unset, .unset] [(.int (2 : Int32)), (.int (24 : Int32)), (.ref b66), (.ref b66)])) rfl rfl (hb hby at_282)
  have V116 : Arv Z h116 b66 k66 .byte (32 : Int32) [(.int (nar .byte (2 : Int32))), (.int (nar .byte (2 : Int32))), (.int (nar .byte (2 : Int32))), (.int (nar .byte (2 : Int32))), (.int (nar .byte (2 : Int32))), (.int (nar .byte (2 : Int32))), (.int (nar .byte (2 : Int32))), (.int (nar .byte (2 : Int32))), (.int (nar .byte (2 : Int32))), (.int (nar .byte (2 : Int32))), (.int (nar .byte (2 : Int32))), (.int (nar .byte (2 : Int32))), (.int (nar .byte (2 : Int32))), (.int (nar .byte (2 : Int32))), (.int (nar .byte (2 : Int32))), (.int (nar .byte (2 : Int32))), (.int (nar .byte (2 : Int32))), (.int (nar .byte (2 : Int32))), (.int (nar .byte (2 : Int32))), (.int (nar .byte (2 : Int32))), (.int (nar .byte (2 : Int32))), (.int (nar .byte (2 : Int32))), (.int (nar .byte (2 : Int32))), (.int (nar .byte (2 : Int32))), (.int (nar .byte (2 : Int32))), (.int (0 : Int32)), (.int (0 : Int32)), (.int (0 : Int32)), (.int (0 : Int32)), (.int (0 : Int32)), (.int (0 : Int32)), (.int (0 : Int32))] (.int (0 : Int32)) := Arv.set Aro115 qo115 So115 No115 Ho115 Go115 (fits_nar_byte _) W116 24 rfl (Nat.le_of_ble_eq_true rfl)
  have K116 := K114.wr W116 (Or.inr sz_b66)
  have N116 := Fr.snoc X116 N114 g_b66
  obtain ⟨clo117, Aro117, qo117, So117, No117, Ho117, Go117⟩ := id V116
  have hino117 : ¬ ((25 : Int32) < 0 ∨ clo117.slots.size ≤ ((25 : Int32)).toNatClampNeg) := inb_of So117 ⟨by decide, by decide⟩
  obtain ⟨T118, h118, X118, e118, W118, st118⟩ := stB X116 hx hZ e116 Aro117 (j := (25 : Int32)) hino117 (g := (mkF m 287 #[.val (.int p0), .val (.int p1), .val (.int p2), .val (.int p3), .val (.int p4), .val (.int p5), .val (.ref b1), .unset, .unset, .unset, .unset, .unset, .unset, .unset, .unset, .unset, .unset, .unset, .unset, .unset] [(.int (2 : Int32)), (.int (25 : Int32)), (.ref b66), (.ref b66)])) rfl rfl (hb hby at_287)
  have V118 : Arv Z h118 b66 k66 .byte (32 : Int32) [(.int (nar .byte (2 : Int32))), (.int (nar .byte (2 : Int32))), (.int (nar .byte (2 : Int32))), (.int (nar .byte (2 : Int32))), (.int (nar .byte (2 : Int32))), (.int (nar .byte (2 : Int32))), (.int (nar .byte (2 : Int32))), (.int (nar .byte (2 : Int32))), (.int (nar .byte (2 : Int32))), (.int (nar .byte (2 : Int32))), (.int (nar .byte (2 : Int32))), (.int (nar .byte (2 : Int32))), (.int (nar .byte (2 : Int32))), (.int (nar .byte (2 : Int32))), (.int (nar .byte (2 : Int32))), (.int (nar .byte (2 : Int32))), (.int (nar .byte (2 : Int32))), (.int (nar .byte (2 : Int32))), (.int (nar .byte (2 : Int32))), (.int (nar .byte (2 : Int32))), (.int (nar .byte (2 : Int32))), (.int (nar .byte (2 : Int32))), (.int (nar .byte (2 : Int32))), (.int (nar .byte (2 : Int32))), (.int (nar .byte (2 : Int32))), (.int (nar .byte (2 : Int32))), (.int (0 : Int32)), (.int (0 : Int32)), (.int (0 : Int32)), (.int (0 : Int32)), (.int (0 : Int32)), (.int (0 : Int32))] (.int (0 : Int32)) := Arv.set Aro117 qo117 So117 No117 Ho117 Go117 (fits_nar_byte _) W118 25 rfl (Nat.le_of_ble_eq_true rfl)
  have K118 := K116.wr W118 (Or.inr sz_b66)
  have N118 := Fr.snoc X118 N116 g_b66
  obtain ⟨clo119, Aro119, qo119, So119, No119, Ho119, Go119⟩ := id V118
  have hino119 : ¬ ((26 : Int32) < 0 ∨ clo119.slots.size ≤ ((26 : Int32)).toNatClampNeg) := inb_of So119 ⟨by decide, by decide⟩
  obtain ⟨T120, h120, X120, e120, W120, st120⟩ := stB X118 hx hZ e118 Aro119 (j := (26 : Int32)) hino119 (g := (mkF m 292 #[.val (.int p0), .val (.int p1), .val (.int p2), .val (.int p3), .val (.int p4), .val (.int p5), .val (.ref b1), .unset, .unset, .unset, .unset, .unset, .unset, .unset, .unset, .unset, .unset, .unset, .unset, .unset] [(.int (2 : Int32)), (.int (26 : Int32)), (.ref b66), (.ref b66)])) rfl rfl (hb hby at_292)
  have V120 : Arv Z h120 b66 k66 .byte (32 : Int32) [(.int (nar .byte (2 : Int32))), (.int (nar .byte (2 : Int32))), (.int (nar .byte (2 : Int32))), (.int (nar .byte (2 : Int32))), (.int (nar .byte (2 : Int32))), (.int (nar .byte (2 : Int32))), (.int (nar .byte (2 : Int32))), (.int (nar .byte (2 : Int32))), (.int (nar .byte (2 : Int32))), (.int (nar .byte (2 : Int32))), (.int (nar .byte (2 : Int32))), (.int (nar .byte (2 : Int32))), (.int (nar .byte (2 : Int32))), (.int (nar .byte (2 : Int32))), (.int (nar .byte (2 : Int32))), (.int (nar .byte (2 : Int32))), (.int (nar .byte (2 : Int32))), (.int (nar .byte (2 : Int32))), (.int (nar .byte (2 : Int32))), (.int (nar .byte (2 : Int32))), (.int (nar .byte (2 : Int32))), (.int (nar .byte (2 : Int32))), (.int (nar .byte (2 : Int32))), (.int (nar .byte (2 : Int32))), (.int (nar .byte (2 : Int32))), (.int (nar .byte (2 : Int32))), (.int (nar .byte (2 : Int32))), (.int (0 : Int32)), (.int (0 : Int32)), (.int (0 : Int32)), (.int (0 : Int32)), (.int (0 : Int32))] (.int (0 : Int32)) := Arv.set Aro119 qo119 So119 No119 Ho119 Go119 (fits_nar_byte _) W120 26 rfl (Nat.le_of_ble_eq_true rfl)
  have K120 := K118.wr W120 (Or.inr sz_b66)
  have N120 := Fr.snoc X120 N118 g_b66
  obtain ⟨clo121, Aro121, qo121, So121, No121, Ho121, Go121⟩ := id V120
  have hino121 : ¬ ((27 : Int32) < 0 ∨ clo121.slots.size ≤ ((27 : Int32)).toNatClampNeg) := inb_of So121 ⟨by decide, by decide⟩
  obtain ⟨T122, h122, X122, e122, W122, st122⟩ := stB X120 hx hZ e120 Aro121 (j := (27 : Int32)) hino121 (g := (mkF m 297 #[.val (.int p0), .val (.int p1), .val (.int p2), .val (.int p3), .val (.int p4), .val (.int p5), .val (.ref b1), .unset, .unset, .unset, .unset, .unset, .unset, .unset, .unset, .unset, .unset, .unset, .unset, .unset] [(.int (2 : Int32)), (.int (27 : Int32)), (.ref b66), (.ref b66)])) rfl rfl (hb hby at_297)
  have V122 : Arv Z h122 b66 k66 .byte (32 : Int32) [(.int (nar .byte (2 : Int32))), (.int (nar .byte (2 : Int32))), (.int (nar .byte (2 : Int32))), (.int (nar .byte (2 : Int32))), (.int (nar .byte (2 : Int32))), (.int (nar .byte (2 : Int32))), (.int (nar .byte (2 : Int32))), (.int (nar .byte (2 : Int32))), (.int (nar .byte (2 : Int32))), (.int (nar .byte (2 : Int32))), (.int (nar .byte (2 : Int32))), (.int (nar .byte (2 : Int32))), (.int (nar .byte (2 : Int32))), (.int (nar .byte (2 : Int32))), (.int (nar .byte (2 : Int32))), (.int (nar .byte (2 : Int32))), (.int (nar .byte (2 : Int32))), (.int (nar .byte (2 : Int32))), (.int (nar .byte (2 : Int32))), (.int (nar .byte (2 : Int32))), (.int (nar .byte (2 : Int32))), (.int (nar .byte (2 : Int32))), (.int (nar .byte (2 : Int32))), (.int (nar .byte (2 : Int32))), (.int (nar .byte (2 : Int32))), (.int (nar .byte (2 : Int32))), (.int (nar .byte (2 : Int32))), (.int (nar .byte (2 : Int32))), (.int (0 : Int32)), (.int (0 : Int32)), (.int (0 : Int32)), (.int (0 : Int32))] (.int (0 : Int32)) := Arv.set Aro121 qo121 So121 No121 Ho121 Go121 (fits_nar_byte _) W122 27 rfl (Nat.le_of_ble_eq_true rfl)
  have K122 := K120.wr W122 (Or.inr sz_b66)
  have N122 := Fr.snoc X122 N120 g_b66
  obtain ⟨clo123, Aro123, qo123, So123, No123, Ho123, Go123⟩ := id V122
  have hino123 : ¬ ((28 : Int32) < 0 ∨ clo123.slots.size ≤ ((28 : Int32)).toNatClampNeg) := inb_of So123 ⟨by decide, by decide⟩
  obtain ⟨T124, h124, X124, e124, W124, st124⟩ := stB X122 hx hZ e122 Aro123 (j := (28 : Int32)) hino123 (g := (mkF m 302 #[.val (.int p0), .val (.int p1), .val (.int p2), .val (.int p3), .val (.int p4), .val (.int p5), .val (.ref b1), .unset, .unset, .unset, .unset, .unset, .unset, .unset, .unset, .unset, .unset, .unset, .unset, .unset] [(.int (2 : Int32)), (.int (28 : Int32)), (.ref b66), (.ref b66)])) rfl rfl (hb hby at_302)
  have V124 : Arv Z h124 b66 k66 .byte (32 : Int32) [(.int (nar .byte (2 : Int32))), (.int (nar .byte (2 : Int32))), (.int (nar .byte (2 : Int32))), (.int (nar .byte (2 : Int32))), (.int (nar .byte (2 : Int32))), (.int (nar .byte (2 : Int32))), (.int (nar .byte (2 : Int32))), (.int (nar .byte (2 : Int32))), (.int (nar .byte (2 : Int32))), (.int (nar .byte (2 : Int32))), (.int (nar .byte (2 : Int32))), (.int (nar .byte (2 : Int32))), (.int (nar .byte (2 : Int32))), (.int (nar .byte (2 : Int32))), (.int (nar .byte (2 : Int32))), (.int (nar .byte (2 : Int32))), (.int (nar .byte (2 : Int32))), (.int (nar .byte (2 : Int32))), (.int (nar .byte (2 : Int32))), (.int (nar .byte (2 : Int32))), (.int (nar .byte (2 : Int32))), (.int (nar .byte (2 : Int32))), (.int (nar .byte (2 : Int32))), (.int (nar .byte (2 : Int32))), (.int (nar .byte (2 : Int32))), (.int (nar .byte (2 : Int32))), (.int (nar .byte (2 : Int32))), (.int (nar .byte (2 : Int32))), (.int (nar .byte (2 : Int32))), (.int (0 : Int32)), (.int (0 : Int32)), (.int (0 : Int32))] (.int (0 : Int32)) := Arv.set Aro123 qo123 So123 No123 Ho123 Go123 (fits_nar_byte _) W124 28 rfl (Nat.le_of_ble_eq_true rfl)
  have K124 := K122.wr W124 (Or.inr sz_b66)
  have N124 := Fr.snoc X124 N122 g_b66
  obtain ⟨clo125, Aro125, qo125, So125, No125, Ho125, Go125⟩ := id V124
  have hino125 : ¬ ((29 : Int32) < 0 ∨ clo125.slots.size ≤ ((29 : Int32)).toNatClampNeg) := inb_of So125 ⟨by decide, by decide⟩
  obtain ⟨T126, h126, X126, e126, W126, st126⟩ := stB X124 hx hZ e124 Aro125 (j := (29 : Int32)) hino125 (g := (mkF m 307 #[.val (.int p0), .val (.int p1), .val (.int p2), .val (.int p3), .val (.int p4), .val (.int p5), .val (.ref b1), .unset, .unset, .unset, .unset, .unset, .unset, .unset, .unset, .unset, .unset, .unset, .unset, .unset] [(.int (2 : Int32)), (.int (29 : Int32)), (.ref b66), (.ref b66)])) rfl rfl (hb hby at_307)
  have V126 : Arv Z h126 b66 k66 .byte (32 : Int32) [(.int (nar .byte (2 : Int32))), (.int (nar .byte (2 : Int32))), (.int (nar .byte (2 : Int32))), (.int (nar .byte (2 : Int32))), (.int (nar .byte (2 : Int32))), (.int (nar .byte (2 : Int32))), (.int (nar .byte (2 : Int32))), (.int (nar .byte (2 : Int32))), (.int (nar .byte (2 : Int32))), (.int (nar .byte (2 : Int32))), (.int (nar .byte (2 : Int32))), (.int (nar .byte (2 : Int32))), (.int (nar .byte (2 : Int32))), (.int (nar .byte (2 : Int32))), (.int (nar .byte (2 : Int32))), (.int (nar .byte (2 : Int32))), (.int (nar .byte (2 : Int32))), (.int (nar .byte (2 : Int32))), (.int (nar .byte (2 : Int32))), (.int (nar .byte (2 : Int32))), (.int (nar .byte (2 : Int32))), (.int (nar .byte (2 : Int32))), (.int (nar .byte (2 : Int32))), (.int (nar .byte (2 : Int32))), (.int (nar .byte (2 : Int32))), (.int (nar .byte (2 : Int32))), (.int (nar .byte (2 : Int32))), (.int (nar .byte (2 : Int32))), (.int (nar .byte (2 : Int32))), (.int (nar .byte (2 : Int32))), (.int (0 : Int32)), (.int (0 : Int32))] (.int (0 : Int32)) := Arv.set Aro125 qo125 So125 No125 Ho125 Go125 (fits_nar_byte _) W126 29 rfl (Nat.le_of_ble_eq_true rfl)
  have K126 := K124.wr W126 (Or.inr sz_b66)
  have N126 := Fr.snoc X126 N124 g_b66
  obtain ⟨clo127, Aro127, qo127, So127, No127, Ho127, Go127⟩ := id V126
  have hino127 : ¬ ((30 : Int32) < 0 ∨ clo127.slots.size ≤ ((30 : Int32)).toNatClampNeg) := inb_of So127 ⟨by decide, by decide⟩
  obtain ⟨T128, h128, X128, e128, W128, st128⟩ := stB X126 hx hZ e126 Aro127 (j := (30 : Int32)) hino127 (g := (mkF m 312 #[.val (.int p0), .val (.int p1), .val (.int p2), .val (.int p3), .val (.int p4), .val (.int p5), .val (.ref b1), .unset, .unset, .unset, .unset, .unset, .unset, .unset, .unset, .unset, .unset, .unset, .unset, .unset] [(.int (2 : Int32)), (.int (30 : Int32)), (.ref b66), (.ref b66)])) rfl rfl (hb hby at_312)
  have V128 : Arv Z h128 b66 k66 .byte (32 : Int32) [(.int (nar .byte (2 : Int32))), (.int (nar .byte (2 : Int32))), (.int (nar .byte (2 : Int32))), (.int (nar .byte (2 : Int32))), (.int (nar .byte (2 : Int32))), (.int (nar .byte (2 : Int32))), (.int (nar .byte (2 : Int32))), (.int (nar .byte (2 : Int32))), (.int (nar .byte (2 : Int32))), (.int (nar .byte (2 : Int32))), (.int (nar .byte (2 : Int32))), (.int (nar .byte (2 : Int32))), (.int (nar .byte (2 : Int32))), (.int (nar .byte (2 : Int32))), (.int (nar .byte (2 : Int32))), (.int (nar .byte (2 : Int32))), (.int (nar .byte (2 : Int32))), (.int (nar .byte (2 : Int32))), (.int (nar .byte (2 : Int32))), (.int (nar .byte (2 : Int32))), (.int (nar .byte (2 : Int32))), (.int (nar .byte (2 : Int32))), (.int (nar .byte (2 : Int32))), (.int (nar .byte (2 : Int32))), (.int (nar .byte (2 : Int32))), (.int (nar .byte (2 : Int32))), (.int (nar .byte (2 : Int32))), (.int (nar .byte (2 : Int32))), (.int (nar .byte (2 : Int32))), (.int (nar .byte (2 : Int32))), (.int (nar .byte (2 : Int32))), (.int (0 : Int32))] (.int (0 : Int32)) := Arv.set Aro127 qo127 So127 No127 Ho127 Go127 (fits_nar_byte _) W128 30 rfl (Nat.le_of_ble_eq_true rfl)
  have K128 := K126.wr W128 (Or.inr sz_b66)
  have N128 := Fr.snoc X128 N126 g_b66
  obtain ⟨clo129, Aro129, qo129, So129, No129, Ho129, Go129⟩ := id V128
  have hino129 : ¬ ((31 : Int32) < 0 ∨ clo129.slots.size ≤ ((31 : Int32)).toNatClampNeg) := inb_of So129 ⟨by decide, by decide⟩
  obtain ⟨T130, h130, X130, e130, W130, st130⟩ := stB X128 hx hZ e128 Aro129 (j := (31 : Int32)) hino129 (g := (mkF m 317 #[.val (.int p0), .val (.int p1), .val (.int p2), .val (.int p3), .val (.int p4), .val (.int p5), .val (.ref b1), .unset, .unset, .unset, .unset, .unset, .unset, .unset, .unset, .unset, .unset, .unset, .unset, .unset] [(.int (2 : Int32)), (.int (31 : Int32)), (.ref b66), (.ref b66)])) rfl rfl (hb hby at_317)
  have V130 : Arv Z h130 b66 k66 .byte (32 : Int32) [(.int (nar .byte (2 : Int32))), (.int (nar .byte (2 : Int32))), (.int (nar .byte (2 : Int32))), (.int (nar .byte (2 : Int32))), (.int (nar .byte (2 : Int32))), (.int (nar .byte (2 : Int32))), (.int (nar .byte (2 : Int32))), (.int (nar .byte (2 : Int32))), (.int (nar .byte (2 : Int32))), (.int (nar .byte (2 : Int32))), (.int (nar .byte (2 : Int32))), (.int (nar .byte (2 : Int32))), (.int (nar .byte (2 : Int32))), (.int (nar .byte (2 : Int32))), (.int (nar .byte (2 : Int32))), (.int (nar .byte (2 : Int32))), (.int (nar .byte (2 : Int32))), (.int (nar .byte (2 : Int32))), (.int (nar .byte (2 : Int32))), (.int (nar .byte (2 : Int32))), (.int (nar .byte (2 : Int32))), (.int (nar .byte (2 : Int32))), (.int (nar .byte (2 : Int32))), (.int (nar .byte (2 : Int32))), (.int (nar .byte (2 : Int32))), (.int (nar .byte (2 : Int32))), (.int (nar .byte (2 : Int32))), (.int (nar .byte (2 : Int32))), (.int (nar .byte (2 : Int32))), (.int (nar .byte (2 : Int32))), (.int (nar .byte (2 : Int32))), (.int (nar .byte (2 : Int32)))] (.int (0 : Int32)) := Arv.set Aro129 qo129 So129 No129 Ho129 Go129 (fits_nar_byte _) W130 31 rfl (Nat.le_of_ble_eq_true rfl)
  have K130 := K128.wr W130 (Or.inr sz_b66)
  have N130 := Fr.snoc X130 N128 g_b66
  have c131 := (((((((((((((((((((((((((((((((((V65.ext E66).other W68 ne_b1_b66).other W70 ne_b1_b66).other W72 ne_b1_b66).other W74 ne_b1_b66).other W76 ne_b1_b66).other W78 ne_b1_b66).other W80 ne_b1_b66).other W82 ne_b1_b66).other W84 ne_b1_b66).other W86 ne_b1_b66).other W88 ne_b1_b66).other W90 ne_b1_b66).other W92 ne_b1_b66).other W94 ne_b1_b66).other W96 ne_b1_b66).other W98 ne_b1_b66).other W100 ne_b1_b66).other W102 ne_b1_b66).other W104 ne_b1_b66).other W106 ne_b1_b66).other W108 ne_b1_b66).other W110 ne_b1_b66).other W112 ne_b1_b66).other W114 ne_b1_b66).other W116 ne_b1_b66).other W118 ne_b1_b66).other W120 ne_b1_b66).other W122 ne_b1_b66).other W124 ne_b1_b66).other W126 ne_b1_b66).other W128 ne_b1_b66).other W130 ne_b1_b66)
  obtain ⟨T132, h132, k132, X132, e132, E132, A132, st132⟩ := newP X130 hx hZ (hw _ (List.mem_of_getElem? (i := 0) rfl)) e130 (g := (mkF m 322 #[.val (.int p0), .val (.int p1), .val (.int p2), .val (.int p3), .val (.int p4), .val (.int p5), .val (.ref b1), .val (.ref b66), .unset, .unset, .unset, .unset, .unset, .unset, .unset, .unset, .unset, .unset, .unset, .unset] [(.int (32 : Int32))])) rfl (hb hby at_322) rfl (by decide) (cap := 32) (by decide) (by decide) (by decide) (by decide)
  obtain ⟨b132, g132⟩ : ∃ z, z = h130.size := ⟨_, rfl⟩
  rw [← g132] at A132 st132
  have g_b132 : n0 ≤ b132 := Nat.le_trans (Nat.le_trans Z0 K130.1) (Nat.le_of_eq g132.symm)
  have sz_b132 : h0.size ≤ b132 := Nat.le_trans K130.1 (Nat.le_of_eq g132.symm)
  have ne_b1_b132 : b1 ≠ b132 := Nat.ne_of_lt (Nat.lt_of_lt_of_le c131.lt (Nat.le_of_eq g132.symm))
  have ne_b66_b132 : b66 ≠ b132 := Nat.ne_of_lt (Nat.lt_of_lt_of_le V130.lt (Nat.le_of_eq g132.symm))
  have K132 := K130.ext E132
  have V_b132 : Arv Z h132 b132 k132 .byte (32 : Int32) [(.int (0 : Int32)), (.int (0 : Int32)), (.int (0 : Int32)), (.int (0 : Int32)), (.int (0 : Int32)), (.int (0 : Int32)), (.int (0 : Int32)), (.int (0 : Int32)), (.int (0 : Int32)), (.int (0 : Int32)), (.int (0 : Int32)), (.int (0 : Int32)), (.int (0 : Int32)), (.int (0 : Int32)), (.int (0 : Int32)), (.int (0 : Int32)), (.int (0 : Int32)), (.int (0 : Int32)), (.int (0 : Int32)), (.int (0 : Int32)), (.int (0 : Int32)), (.int (0 : Int32)), (.int (0 : Int32)), (.int (0 : Int32)), (.int (0 : Int32)), (.int (0 : Int32)), (.int (0 : Int32)), (.int (0 : Int32)), (.int (0 : Int32)), (.int (0 : Int32)), (.int (0 : Int32)), (.int (0 : Int32))] (.int (0 : Int32)) := (Arv.new A132 (by decide)).pad (pad_rep [] (.int (0 : Int32)) 32)
  obtain ⟨clo133, Aro133, qo133, So133, No133, Ho133, Go133⟩ := id V_b132
  have hino133 : ¬ ((0 : Int32) < 0 ∨ clo133.slots.size ≤ ((0 : Int32)).toNatClampNeg) := inb_of So133 ⟨by decide, by decide⟩
  obtain ⟨T134, h134, X134, e134, W134, st134⟩ := stB X132 hx hZ e132 Aro133 (j := (0 : Int32)) hino133 (g := (mkF m 327 #[.val (.int p0), .val (.int p1), .val (.int p2), .val (.int p3), .val (.int p4), .val (.int p5), .val (.ref b1), .val (.ref b66), .unset, .unset, .unset, .unset, .unset, .unset, .unset, .unset, .unset, .unset, .unset, .unset] [(.int (3 : Int32)), (.int (0 : Int32)), (.ref b132), (.ref b132)])) rfl rfl (hb hby at_327)
  have V134 : Arv Z h134 b132 k132 .byte (32 : Int32) [(.int (nar .byte (3 : Int32))), (.int (0 : Int32)), (.int (0 : Int32)), (.int (0 : Int32)), (.int (0 : Int32)), (.int (0 : Int32)), (.int (0 : Int32)), (.int (0 : Int32)), (.int (0 : Int32)), (.int (0 : Int32)), (.int (0 : Int32)), (.int (0 : Int32)), (.int (0 : Int32)), (.int (0 : Int32)), (.int (0 : Int32)), (.int (0 : Int32)), (.int (0 : Int32)), (.int (0 : Int32)), (.int (0 : Int32)), (.int (0 : Int32)), (.int (0 : Int32)), (.int (0 : Int32)), (.int (0 : Int32)), (.int (0 : Int32)), (.int (0 : Int32)), (.int (0 : Int32)), (.int (0 : Int32)), (.int (0 : Int32)), (.int (0 : Int32)), (.int (0 : Int32)), (.int (0 : Int32)), (.int (0 : Int32))] (.int (0 : Int32)) := Arv.set Aro133 qo133 So133 No133 Ho133 Go133 (fits_nar_byte _) W134 0 rfl (Nat.le_of_ble_eq_true rfl)
  have K134 := K132.wr W134 (Or.inr sz_b132)
  have N134 := Fr.snoc X134 N130 g_b132
  obtain ⟨clo135, Aro135, qo135, So135, No135, Ho135, Go135⟩ := id V134
  have hino135 : ¬ ((1 : Int32) < 0 ∨ clo135.slots.size ≤ ((1 : Int32)).toNatClampNeg) := inb_of So135 ⟨by decide, by decide⟩
  obtain ⟨T136, h136, X136, e136, W136, st136⟩ := stB X134 hx hZ e134 Aro135 (j := (1 : Int32)) hino135 (g := (mkF m 331 #[.val (.int p0), .val (.int p1), .val (.int p2), .val (.int p3), .val (.int p4), .val (.int p5), .val (.ref b1), .val (.ref b66), .unset, .unset, .unset, .unset, .unset, .unset, .unset, .unset, .unset, .unset, .unset, .unset] [(.int (3 : Int32)), (.int (1 : Int32)), (.ref b132), (.ref b132)])) rfl rfl (hb hby at_331)
  have V136 : Arv Z h136 b132 k132 .byte (32 : Int32) [(.int (nar .byte (3 : Int32))), (.int (nar .byte (3 : Int32))), (.int (0 : Int32)), (.int (0 : Int32)), (.int (0 : Int32)), (.int (0 : Int32)), (.int (0 : Int32)), (.int (0 : Int32)), (.int (0 : Int32)), (.int (0 : Int32)), (.int (0 : Int32)), (.int (0 : Int32)), (.int (0 : Int32)), (.int (0 : Int32)), (.int (0 : Int32)), (.int (0 : Int32)), (.int (0 : Int32)), (.int (0 : Int32)), (.int (0 : Int32)), (.int (0 : Int32)), (.int (0 : Int32)), (.int (0 : Int32)), (.int (0 : Int32)), (.int (0 : Int32)), (.int (0 : Int32)), (.int (0 : Int32)), (.int (0 : Int32)), (.int (0 : Int32)), (.int (0 : Int32)), (.int (0 : Int32)), (.int (0 : Int32)), (.int (0 : Int32))] (.int (0 : Int32)) := Arv.set Aro135 qo135 So135 No135 Ho135 Go135 (fits_nar_byte _) W136 1 rfl (Nat.le_of_ble_eq_true rfl)
  have K136 := K134.wr W136 (Or.inr sz_b132)
  have N136 := Fr.snoc X136 N134 g_b132
  obtain ⟨clo137, Aro137, qo137, So137, No137, Ho137, Go137⟩ := id V136
  have hino137 : ¬ ((2 : Int32) < 0 ∨ clo137.slots.size ≤ ((2 : Int32)).toNatClampNeg) := inb_of So137 ⟨by decide, by decide⟩
  obtain ⟨T138, h138, X138, e138, W138, st138⟩ := stB X136 hx hZ e136 Aro137 (j := (2 : Int32)) hino137 (g := (mkF m 335 #[.val (.int p0), .val (.int p1), .val (.int p2), .val (.int p3), .val (.int p4), .val (.int p5), .val (.ref b1), .val (.ref b66), .unset, .unset, .unset, .unset, .unset, .unset, .unset, .unset, .unset, .unset, .unset, .unset] [(.int (3 : Int32)), (.int (2 : Int32)), (.ref b132), (.ref b132)])) rfl rfl (hb hby at_335)
  have V138 : Arv Z h138 b132 k132 .byte (32 : Int32) [(.int (nar .byte (3 : Int32))), (.int (nar .byte (3 : Int32))), (.int (nar .byte (3 : Int32))), (.int (0 : Int32)), (.int (0 : Int32)), (.int (0 : Int32)), (.int (0 : Int32)), (.int (0 : Int32)), (.int (0 : Int32)), (.int (0 : Int32)), (.int (0 : Int32)), (.int (0 : Int32)), (.int (0 : Int32)), (.int (0 : Int32)), (.int (0 : Int32)), (.int (0 : Int32)), (.int (0 : Int32)), (.int (0 : Int32)), (.int (0 : Int32)), (.int (0 : Int32)), (.int (0 : Int32)), (.int (0 : Int32)), (.int (0 : Int32)), (.int (0 : Int32)), (.int (0 : Int32)), (.int (0 : Int32)), (.int (0 : Int32)), (.int (0 : Int32)), (.int (0 : Int32)), (.int (0 : Int32)), (.int (0 : Int32)), (.int (0 : Int32))] (.int (0 : Int32)) := Arv.set Aro137 qo137 So137 No137 Ho137 Go137 (fits_nar_byte _) W138 2 rfl (Nat.le_of_ble_eq_true rfl)
  have K138 := K136.wr W138 (Or.inr sz_b132)
  have N138 := Fr.snoc X138 N136 g_b132
  obtain ⟨clo139, Aro139, qo139, So139, No139, Ho139, Go139⟩ := id V138
  have hino139 : ¬ ((3 : Int32) < 0 ∨ clo139.slots.size ≤ ((3 : Int32)).toNatClampNeg) := inb_of So139 ⟨by decide, by decide⟩
  obtain ⟨T140, h140, X140, e140, W140, st140⟩ := stB X138 hx hZ e138 Aro139 (j := (3 : Int32)) hino139 (g := (mkF m 339 #[.val (.int p0), .val (.int p1), .val (.int p2), .val (.int p3), .val (.int p4), .val (.int p5), .val (.ref b1), .val (.ref b66), .unset, .unset, .unset, .unset, .unset, .unset, .unset, .unset, .unset, .unset, .unset, .unset] [(.int (3 : Int32)), (.int (3 : Int32)), (.ref b132), (.ref b132)])) rfl rfl (hb hby at_339)
  have V140 : Arv Z h140 b132 k132 .byte (32 : Int32) [(.int (nar .byte (3 : Int32))), (.int (nar .byte (3 : Int32))), (.int (nar .byte (3 : Int32))), (.int (nar .byte (3 : Int32))), (.int (0 : Int32)), (.int (0 : Int32)), (.int (0 : Int32)), (.int (0 : Int32)), (.int (0 : Int32)), (.int (0 : Int32)), (.int (0 : Int32)), (.int (0 : Int32)), (.int (0 : Int32)), (.int (0 : Int32)), (.int (0 : Int32)), (.int (0 : Int32)), (.int (0 : Int32)), (.int (0 : Int32)), (.int (0 : Int32)), (.int (0 : Int32)), (.int (0 : Int32)), (.int (0 : Int32)), (.int (0 : Int32)), (.int (0 : Int32)), (.int (0 : Int32)), (.int (0 : Int32)), (.int (0 : Int32)), (.int (0 : Int32)), (.int (0 : Int32)), (.int (0 : Int32)), (.int (0 : Int32)), (.int (0 : Int32))] (.int (0 : Int32)) := Arv.set Aro139 qo139 So139 No139 Ho139 Go139 (fits_nar_byte _) W140 3 rfl (Nat.le_of_ble_eq_true rfl)
  have K140 := K138.wr W140 (Or.inr sz_b132)
  have N140 := Fr.snoc X140 N138 g_b132
  obtain ⟨clo141, Aro141, qo141, So141, No141, Ho141, Go141⟩ := id V140
  have hino141 : ¬ ((4 : Int32) < 0 ∨ clo141.slots.size ≤ ((4 : Int32)).toNatClampNeg) := inb_of So141 ⟨by decide, by decide⟩
  obtain ⟨T142, h142, X142, e142, W142, st142⟩ := stB X140 hx hZ e140 Aro141 (j := (4 : Int32)) hino141 (g := (mkF m 343 #[.val (.int p0), .val (.int p1), .val (.int p2), .val (.int p3), .val (.int p4), .val (.int p5), .val (.ref b1), .val (.ref b66), .unset, .unset, .unset, .unset, .unset, .unset, .unset, .unset, .unset, .unset, .unset, .unset] [(.int (3 : Int32)), (.int (4 : Int32)), (.ref b132), (.ref b132)])) rfl rfl (hb hby at_343)
  have V142 : Arv Z h142 b132 k132 .byte (32 : Int32) [(.int (nar .byte (3 : Int32))), (.int (nar .byte (3 : Int32))), (.int (nar .byte (3 : Int32))), (.int (nar .byte (3 : Int32))), (.int (nar .byte (3 : Int32))), (.int (0 : Int32)), (.int (0 : Int32)), (.int (0 : Int32)), (.int (0 : Int32)), (.int (0 : Int32)), (.int (0 : Int32)), (.int (0 : Int32)), (.int (0 : Int32)), (.int (0 : Int32)), (.int (0 : Int32)), (.int (0 : Int32)), (.int (0 : Int32)), (.int (0 : Int32)), (.int (0 : Int32)), (.int (0 : Int32)), (.int (0 : Int32)), (.int (0 : Int32)), (.int (0 : Int32)), (.int (0 : Int32)), (.int (0 : Int32)), (.int (0 : Int32)), (.int (0 : Int32)), (.int (0 : Int32)), (.int (0 : Int32)), (.int (0 : Int32)), (.int (0 : Int32)), (.int (0 : Int32))] (.int (0 : Int32)) := Arv.set Aro141 qo141 So141 No141 Ho141 Go141 (fits_nar_byte _) W142 4 rfl (Nat.le_of_ble_eq_true rfl)
  have K142 := K140.wr W142 (Or.inr sz_b132)
  have N142 := Fr.snoc X142 N140 g_b132
  obtain ⟨clo143, Aro143, qo143, So143, No143, Ho143, Go143⟩ := id V142
  have hino143 : ¬ ((5 : Int32) < 0 ∨ clo143.slots.size ≤ ((5 : Int32)).toNatClampNeg) := inb_of So143 ⟨by decide, by decide⟩
  obtain ⟨T144, h144, X144, e144, W144, st144⟩ := stB X142 hx hZ e142 Aro143 (j := (5 : Int32)) hino143 (g := (mkF m 347 #[.val (.int p0), .val (.int p1), .val (.int p2), .val (.int p3), .val (.int p4), .val (.int p5), .val (.ref b1), .val (.ref b66), .unset, .unset, .unset, .unset, .unset, .unset, .unset, .unset, .unset, .unset, .unset, .unset] [(.int (3 : Int32)), (.int (5 : Int32)), (.ref b132), (.ref b132)])) rfl rfl (hb hby at_347)
  have V144 : Arv Z h144 b132 k132 .byte (32 : Int32) [(.int (nar .byte (3 : Int32))), (.int (nar .byte (3 : Int32))), (.int (nar .byte (3 : Int32))), (.int (nar .byte (3 : Int32))), (.int (nar .byte (3 : Int32))), (.int (nar .byte (3 : Int32))), (.int (0 : Int32)), (.int (0 : Int32)), (.int (0 : Int32)), (.int (0 : Int32)), (.int (0 : Int32)), (.int (0 : Int32)), (.int (0 : Int32)), (.int (0 : Int32)), (.int (0 : Int32)), (.int (0 : Int32)), (.int (0 : Int32)), (.int (0 : Int32)), (.int (0 : Int32)), (.int (0 : Int32)), (.int (0 : Int32)), (.int (0 : Int32)), (.int (0 : Int32)), (.int (0 : Int32)), (.int (0 : Int32)), (.int (0 : Int32)), (.int (0 : Int32)), (.int (0 : Int32)), (.int (0 : Int32)), (.int (0 : Int32)), (.int (0 : Int32)), (.int (0 : Int32))] (.int (0 : Int32)) := Arv.set Aro143 qo143 So143 No143 Ho143 Go143 (fits_nar_byte _) W144 5 rfl (Nat.le_of_ble_eq_true rfl)
  have K144 := K142.wr W144 (Or.inr sz_b132)
  have N144 := Fr.snoc X144 N142 g_b132
  obtain ⟨clo145, Aro145, qo145, So145, No145, Ho145, Go145⟩ := id V144
  have hino145 : ¬ ((6 : Int32) < 0 ∨ clo145.slots.size ≤ ((6 : Int32)).toNatClampNeg) := inb_of So145 ⟨by decide, by decide⟩
  obtain ⟨T146, h146, X146, e146, W146, st146⟩ := stB X144 hx hZ e144 Aro145 (j := (6 : Int32)) hino145 (g := (mkF m 352 #[.val (.int p0), .val (.int p1), .val (.int p2), .val (.int p3), .val (.int p4), .val (.int p5), .val (.ref b1), .val (.ref b66), .unset, .unset, .unset, .unset, .unset, .unset, .unset, .unset, .unset, .unset, .unset, .unset] [(.int (3 : Int32)), (.int (6 : Int32)), (.ref b132), (.ref b132)])) rfl rfl (hb hby at_352)
  have V146 : Arv Z h146 b132 k132 .byte (32 : Int32) [(.int (nar .byte (3 : Int32))), (.int (nar .byte (3 : Int32))), (.int (nar .byte (3 : Int32))), (.int (nar .byte (3 : Int32))), (.int (nar .byte (3 : Int32))), (.int (nar .byte (3 : Int32))), (.int (nar .byte (3 : Int32))), (.int (0 : Int32)), (.int (0 : Int32)), (.int (0 : Int32)), (.int (0 : Int32)), (.int (0 : Int32)), (.int (0 : Int32)), (.int (0 : Int32)), (.int (0 : Int32)), (.int (0 : Int32)), (.int (0 : Int32)), (.int (0 : Int32)), (.int (0 : Int32)), (.int (0 : Int32)), (.int (0 : Int32)), (.int (0 : Int32)), (.int (0 : Int32)), (.int (0 : Int32)), (.int (0 : Int32)), (.int (0 : Int32)), (.int (0 : Int32)), (.int (0 : Int32)), (.int (0 : Int32)), (.int (0 : Int32)), (.int (0 : Int32)), (.int (0 : Int32))] (.int (0 : Int32)) := Arv.set Aro145 qo145 So145 No145 Ho145 Go145 (fits_nar_byte _) W146 6 rfl (Nat.le_of_ble_eq_true rfl)
  have K146 := K144.wr W146 (Or.inr sz_b132)
  have N146 := Fr.snoc X146 N144 g_b132
  obtain ⟨clo147, Aro147, qo147, So147, No147, Ho147, Go147⟩ := id V146
  have hino147 : ¬ ((7 : Int32) < 0 ∨ clo147.slots.size ≤ ((7 : Int32)).toNatClampNeg) := inb_of So147 ⟨by decide, by decide⟩
  obtain ⟨T148, h148, X148, e148, W148, st148⟩ := stB X146 hx hZ e146 Aro147 (j := (7 : Int32)) hino147 (g := (mkF m 357 #[.val (.int p0), .val (.int p1), .val (.int p2), .val (.int p3), .val (.int p4), .val (.int p5), .val (.ref b1), .val (.ref b66), .unset, .unset, .unset, .unset, .unset, .unset, .unset, .unset, .unset, .unset, .unset, .unset] [(.int (3 : Int32)), (.int (7 : Int32)), (.ref b132), (.ref b132)])) rfl rfl (hb hby at_357)
  have V148 : Arv Z h148 b132 k132 .byte (32 : Int32) [(.int (nar .byte (3 : Int32))), (.int (nar .byte (3 : Int32))), (.int (nar .byte (3 : Int32))), (.int (nar .byte (3 : Int32))), (.int (nar .byte (3 : Int32))), (.int (nar .byte (3 : Int32))), (.int (nar .byte (3 : Int32))), (.int (nar .byte (3 : Int32))), (.int (0 : Int32)), (.int (0 : Int32)), (.int (0 : Int32)), (.int (0 : Int32)), (.int (0 : Int32)), (.int (0 : Int32)), (.int (0 : Int32)), (.int (0 : Int32)), (.int (0 : Int32)), (.int (0 : Int32)), (.int (0 : Int32)), (.int (0 : Int32)), (.int (0 : Int32)), (.int (0 : Int32)), (.int (0 : Int32)), (.int (0 : Int32)), (.int (0 : Int32)), (.int (0 : Int32)), (.int (0 : Int32)), (.int (0 : Int32)), (.int (0 : Int32)), (.int (0 : Int32)), (.int (0 : Int32)), (.int (0 : Int32))] (.int (0 : Int32)) := Arv.set Aro147 qo147 So147 No147 Ho147 Go147 (fits_nar_byte _) W148 7 rfl (Nat.le_of_ble_eq_true rfl)
  have K148 := K146.wr W148 (Or.inr sz_b132)
  have N148 := Fr.snoc X148 N146 g_b132
  obtain ⟨clo149, Aro149, qo149, So149, No149, Ho149, Go149⟩ := id V148
  have hino149 : ¬ ((8 : Int32) < 0 ∨ clo149.slots.size ≤ ((8 : Int32)).toNatClampNeg) := inb_of So149 ⟨by decide, by decide⟩
  obtain ⟨T150, h150, X150, e150, W150, st150⟩ := stB X148 hx hZ e148 Aro149 (j := (8 : Int32)) hino149 (g := (mkF m 362 #[.val (.int p0), .val (.int p1), .val (.int p2), .val (.int p3), .val (.int p4), .val (.int p5), .val (.ref b1), .val (.ref b66), .unset, .unset, .unset, .unset, .unset, .unset, .unset, .unset, .unset, .unset, .unset, .unset] [(.int (3 : Int32)), (.int (8 : Int32)), (.ref b132), (.ref b132)])) rfl rfl (hb hby at_362)
  have V150 : Arv Z h150 b132 k132 .byte (32 : Int32) [(.int (nar .byte (3 : Int32))), (.int (nar .byte (3 : Int32))), (.int (nar .byte (3 : Int32))), (.int (nar .byte (3 : Int32))), (.int (nar .byte (3 : Int32))), (.int (nar .byte (3 : Int32))), (.int (nar .byte (3 : Int32))), (.int (nar .byte (3 : Int32))), (.int (nar .byte (3 : Int32))), (.int (0 : Int32)), (.int (0 : Int32)), (.int (0 : Int32)), (.int (0 : Int32)), (.int (0 : Int32)), (.int (0 : Int32)), (.int (0 : Int32)), (.int (0 : Int32)), (.int (0 : Int32)), (.int (0 : Int32)), (.int (0 : Int32)), (.int (0 : Int32)), (.int (0 : Int32)), (.int (0 : Int32)), (.int (0 : Int32)), (.int (0 : Int32)), (.int (0 : Int32)), (.int (0 : Int32)), (.int (0 : Int32)), (.int (0 : Int32)), (.int (0 : Int32)), (.int (0 : Int32)), (.int (0 : Int32))] (.int (0 : Int32)) := Arv.set Aro149 qo149 So149 No149 Ho149 Go149 (fits_nar_byte _) W150 8 rfl (Nat.le_of_ble_eq_true rfl)
  have K150 := K148.wr W150 (Or.inr sz_b132)
  have N150 := Fr.snoc X150 N148 g_b132
  obtain ⟨clo151, Aro151, qo151, So151, No151, Ho151, Go151⟩ := id V150
  have hino151 : ¬ ((9 : Int32) < 0 ∨ clo151.slots.size ≤ ((9 : Int32)).toNatClampNeg) := inb_of So151 ⟨by decide, by decide⟩
  obtain ⟨T152, h152, X152, e152, W152, st152⟩ := stB X150 hx hZ e150 Aro151 (j := (9 : Int32)) hino151 (g := (mkF m 367 #[.val (.int p0), .val (.int p1), .val (.int p2), .val (.int p3), .val (.int p4), .val (.int p5), .val (.ref b1), .val (.ref b66), .unset, .unset, .unset, .unset, .unset, .unset, .unset, .unset, .unset, .unset, .unset, .unset] [(.int (3 : Int32)), (.int (9 : Int32)), (.ref b132), (.ref b132)])) rfl rfl (hb hby at_367)
  have V152 : Arv Z h152 b132 k132 .byte (32 : Int32) [(.int (nar .byte (3 : Int32))), (.int (nar .byte (3 : Int32))), (.int (nar .byte (3 : Int32))), (.int (nar .byte (3 : Int32))), (.int (nar .byte (3 : Int32))), (.int (nar .byte (3 : Int32))), (.int (nar .byte (3 : Int32))), (.int (nar .byte (3 : Int32))), (.int (nar .byte (3 : Int32))), (.int (nar .byte (3 : Int32))), (.int (0 : Int32)), (.int (0 : Int32)), (.int (0 : Int32)), (.int (0 : Int32)), (.int (0 : Int32)), (.int (0 : Int32)), (.int (0 : Int32)), (.int (0 : Int32)), (.int (0 : Int32)), (.int (0 : Int32)), (.int (0 : Int32)), (.int (0 : Int32)), (.int (0 : Int32)), (.int (0 : Int32)), (.int (0 : Int32)), (.int (0 : Int32)), (.int (0 : Int32)), (.int (0 : Int32)), (.int (0 : Int32)), (.int (0 : Int32)), (.int (0 : Int32)), (.int (0 : Int32))] (.int (0 : Int32)) := Arv.set Aro151 qo151 So151 No151 Ho151 Go151 (fits_nar_byte _) W152 9 rfl (Nat.le_of_ble_eq_true rfl)
  have K152 := K150.wr W152 (Or.inr sz_b132)
  have N152 := Fr.snoc X152 N150 g_b132
  obtain ⟨clo153, Aro153, qo153, So153, No153, Ho153, Go153⟩ := id V152
  have hino153 : ¬ ((10 : Int32) < 0 ∨ clo153.slots.size ≤ ((10 : Int32)).toNatClampNeg) := inb_of So153 ⟨by decide, by decide⟩
  obtain ⟨T154, h154, X154, e154, W154, st154⟩ := stB X152 hx hZ e152 Aro153 (j := (10 : Int32)) hino153 (g := (mkF m 372 #[.val (.int p0), .val (.int p1), .val (.int p2), .val (.int p3), .val (.int p4), .val (.int p5), .val (.ref b1), .val (.ref b66), .unset, .unset, .unset, .unset, .unset, .unset, .unset, .unset, .unset, .unset, .unset, .unset] [(.int (3 : Int32)), (.int (10 : Int32)), (.ref b132), (.ref b132)])) rfl rfl (hb hby at_372)
  have V154 : Arv Z h154 b132 k132 .byte (32 : Int32) [(.int (nar .byte (3 : Int32))), (.int (nar .byte (3 : Int32))), (.int (nar .byte (3 : Int32))), (.int (nar .byte (3 : Int32))), (.int (nar .byte (3 : Int32))), (.int (nar .byte (3 : Int32))), (.int (nar .byte (3 : Int32))), (.int (nar .byte (3 : Int32))), (.int (nar .byte (3 : Int32))), (.int (nar .byte (3 : Int32))), (.int (nar .byte (3 : Int32))), (.int (0 : Int32)), (.int (0 : Int32)), (.int (0 : Int32)), (.int (0 : Int32)), (.int (0 : Int32)), (.int (0 : Int32)), (.int (0 : Int32)), (.int (0 : Int32)), (.int (0 : Int32)), (.int (0 : Int32)), (.int (0 : Int32)), (.int (0 : Int32)), (.int (0 : Int32)), (.int (0 : Int32)), (.int (0 : Int32)), (.int (0 : Int32)), (.int (0 : Int32)), (.int (0 : Int32)), (.int (0 : Int32)), (.int (0 : Int32)), (.int (0 : Int32))] (.int (0 : Int32)) := Arv.set Aro153 qo153 So153 No153 Ho153 Go153 (fits_nar_byte _) W154 10 rfl (Nat.le_of_ble_eq_true rfl)
  have K154 := K152.wr W154 (Or.inr sz_b132)
  have N154 := Fr.snoc X154 N152 g_b132
  obtain ⟨clo155, Aro155, qo155, So155, No155, Ho155, Go155⟩ := id V154
  have hino155 : ¬ ((11 : Int32) < 0 ∨ clo155.slots.size ≤ ((11 : Int32)).toNatClampNeg) := inb_of So155 ⟨by decide, by decide⟩
  obtain ⟨T156, h156, X156, e156, W156, st156⟩ := stB X154 hx hZ e154 Aro155 (j := (11 : Int32)) hino155 (g := (mkF m 377 #[.val (.int p0), .val (.int p1), .val (.int p2), .val (.int p3), .val (.int p4), .val (.int p5), .val (.ref b1), .val (.ref b66), .unset, .unset, .unset, .unset, .unset, .unset, .unset, .unset, .unset, .unset, .unset, .unset] [(.int (3 : Int32)), (.int (11 : Int32)), (.ref b132), (.ref b132)])) rfl rfl (hb hby at_377)
  have V156 : Arv Z h156 b132 k132 .byte (32 : Int32) [(.int (nar .byte (3 : Int32))), (.int (nar .byte (3 : Int32))), (.int (nar .byte (3 : Int32))), (.int (nar .byte (3 : Int32))), (.int (nar .byte (3 : Int32))), (.int (nar .byte (3 : Int32))), (.int (nar .byte (3 : Int32))), (.int (nar .byte (3 : Int32))), (.int (nar .byte (3 : Int32))), (.int (nar .byte (3 : Int32))), (.int (nar .byte (3 : Int32))), (.int (nar .byte (3 : Int32))), (.int (0 : Int32)), (.int (0 : Int32)), (.int (0 : Int32)), (.int (0 : Int32)), (.int (0 : Int32)), (.int (0 : Int32)), (.int (0 : Int32)), (.int (0 : Int32)), (.int (0 : Int32)), (.int (0 : Int32)), (.int (0 : Int32)), (.int (0 : Int32)), (.int (0 : Int32)), (.int (0 : Int32)), (.int (0 : Int32)), (.int (0 : Int32)), (.int (0 : Int32)), (.int (0 : Int32)), (.int (0 : Int32)), (.int (0 : Int32))] (.int (0 : Int32)) := Arv.set Aro155 qo155 So155 No155 Ho155 Go155 (fits_nar_byte _) W156 11 rfl (Nat.le_of_ble_eq_true rfl)
  have K156 := K154.wr W156 (Or.inr sz_b132)
  have N156 := Fr.snoc X156 N154 g_b132
  obtain ⟨clo157, Aro157, qo157, So157, No157, Ho157, Go157⟩ := id V156
  have hino157 : ¬ ((12 : Int32) < 0 ∨ clo157.slots.size ≤ ((12 : Int32)).toNatClampNeg) := inb_of So157 ⟨by decide, by decide⟩
  obtain ⟨T158, h158, X158, e158, W158, st158⟩ := stB X156 hx hZ e156 Aro157 (j := (12 : Int32)) hino157 (g := (mkF m 382 #[.val (.int p0), .val (.int p1), .val (.int p2), .val (.int p3), .val (.int p4), .val (.int p5), .val (.ref b1), .val (.ref b66), .unset, .unset, .unset, .unset, .unset, .unset, .unset, .unset, .unset, .unset, .unset, .unset] [(.int (3 : Int32)), (.int (12 : Int32)), (.ref b132), (.ref b132)])) rfl rfl (hb hby at_382)
  have V158 : Arv Z h158 b132 k132 .byte (32 : Int32) [(.int (nar .byte (3 : Int32))), (.int (nar .byte (3 : Int32))), (.int (nar .byte (3 : Int32))), (.int (nar .byte (3 : Int32))), (.int (nar .byte (3 : Int32))), (.int (nar .byte (3 : Int32))), (.int (nar .byte (3 : Int32))), (.int (nar .byte (3 : Int32))), (.int (nar .byte (3 : Int32))), (.int (nar .byte (3 : Int32))), (.int (nar .byte (3 : Int32))), (.int (nar .byte (3 : Int32))), (.int (nar .byte (3 : Int32))), (.int (0 : Int32)), (.int (0 : Int32)), (.int (0 : Int32)), (.int (0 : Int32)), (.int (0 : Int32)), (.int (0 : Int32)), (.int (0 : Int32)), (.int (0 : Int32)), (.int (0 : Int32)), (.int (0 : Int32)), (.int (0 : Int32)), (.int (0 : Int32)), (.int (0 : Int32)), (.int (0 : Int32)), (.int (0 : Int32)), (.int (0 : Int32)), (.int (0 : Int32)), (.int (0 : Int32)), (.int (0 : Int32))] (.int (0 : Int32)) := Arv.set Aro157 qo157 So157 No157 Ho157 Go157 (fits_nar_byte _) W158 12 rfl (Nat.le_of_ble_eq_true rfl)
  have K158 := K156.wr W158 (Or.inr sz_b132)
  have N158 := Fr.snoc X158 N156 g_b132
  obtain ⟨clo159, Aro159, qo159, So159, No159, Ho159, Go159⟩ := id V158
  have hino159 : ¬ ((13 : Int32) < 0 ∨ clo159.slots.size ≤ ((13 : Int32)).toNatClampNeg) := inb_of So159 ⟨by decide, by decide⟩
  obtain ⟨T160, h160, X160, e160, W160, st160⟩ := stB X158 hx hZ e158 Aro159 (j := (13 : Int32)) hino159 (g := (mkF m 387 #[.val (.int p0), .val (.int p1), .val (.int p2), .val (.int p3), .val (.int p4), .val (.int p5), .val (.ref b1), .val (.ref b66), .unset, .unset, .unset, .unset, .unset, .unset, .unset, .unset, .unset, .unset, .unset, .unset] [(.int (3 : Int32)), (.int (13 : Int32)), (.ref b132), (.ref b132)])) rfl rfl (hb hby at_387)
  have V160 : Arv Z h160 b132 k132 .byte (32 : Int32) [(.int (nar .byte (3 : Int32))), (.int (nar .byte (3 : Int32))), (.int (nar .byte (3 : Int32))), (.int (nar .byte (3 : Int32))), (.int (nar .byte (3 : Int32))), (.int (nar .byte (3 : Int32))), (.int (nar .byte (3 : Int32))), (.int (nar .byte (3 : Int32))), (.int (nar .byte (3 : Int32))), (.int (nar .byte (3 : Int32))), (.int (nar .byte (3 : Int32))), (.int (nar .byte (3 : Int32))), (.int (nar .byte (3 : Int32))), (.int (nar .byte (3 : Int32))), (.int (0 : Int32)), (.int (0 : Int32)), (.int (0 : Int32)), (.int (0 : Int32)), (.int (0 : Int32)), (.int (0 : Int32)), (.int (0 : Int32)), (.int (0 : Int32)), (.int (0 : Int32)), (.int (0 : Int32)), (.int (0 : Int32)), (.int (0 : Int32)), (.int (0 : Int32)), (.int (0 : Int32)), (.int (0 : Int32)), (.int (0 : Int32)), (.int (0 : Int32)), (.int (0 : Int32))] (.int (0 : Int32)) := Arv.set Aro159 qo159 So159 No159 Ho159 Go159 (fits_nar_byte _) W160 13 rfl (Nat.le_of_ble_eq_true rfl)
  have K160 := K158.wr W160 (Or.inr sz_b132)
  have N160 := Fr.snoc X160 N158 g_b132
  obtain ⟨clo161, Aro161, qo161, So161, No161, Ho161, Go161⟩ := id V160
  have hino161 : ¬ ((14 : Int32) < 0 ∨ clo161.slots.size ≤ ((14 : Int32)).toNatClampNeg) := inb_of So161 ⟨by decide, by decide⟩
  obtain ⟨T162, h162, X162, e162, W162, st162⟩ := stB X160 hx hZ e160 Aro161 (j := (14 : Int32)) hino161 (g := (mkF m 392 #[.val (.int p0), .val (.int p1), .val (.int p2), .val (.int p3), .val (.int p4), .val (.int p5), .val (.ref b1), .val (.ref b66), .unset, .unset, .unset, .unset, .unset, .unset, .unset, .unset, .unset, .unset, .unset, .unset] [(.int (3 : Int32)), (.int (14 : Int32)), (.ref b132), (.ref b132)])) rfl rfl (hb hby at_392)
  have V162 : Arv Z h162 b132 k132 .byte (32 : Int32) [(.int (nar .byte (3 : Int32))), (.int (nar .byte (3 : Int32))), (.int (nar .byte (3 : Int32))), (.int (nar .byte (3 : Int32))), (.int (nar .byte (3 : Int32))), (.int (nar .byte (3 : Int32))), (.int (nar .byte (3 : Int32))), (.int (nar .byte (3 : Int32))), (.int (nar .byte (3 : Int32))), (.int (nar .byte (3 : Int32))), (.int (nar .byte (3 : Int32))), (.int (nar .byte (3 : Int32))), (.int (nar .byte (3 : Int32))), (.int (nar .byte (3 : Int32))), (.int (nar .byte (3 : Int32))), (.int (0 : Int32)), (.int (0 : Int32)), (.int (0 : Int32)), (.int (0 : Int32)), (.int (0 : Int32)), (.int (0 : Int32)), (.int (0 : Int32)), (.int (0 : Int32)), (.int (0 : Int32)), (.int (0 : Int32)), (.int (0 : Int32)), (.int (0 : Int32)), (.int (0 : Int32)), (.int (0 : Int32)), (.int (0 : Int32)), (.int (0 : Int32)), (.int (0 : Int32))] (.int (0 : Int32)) := Arv.set Aro161 qo161 So161 No161 Ho161 Go161 (fits_nar_byte _) W162 14 rfl (Nat.le_of_ble_eq_true rfl)
  have K162 := K160.wr W162 (Or.inr sz_b132)
  have N162 := Fr.snoc X162 N160 g_b132
  obtain ⟨clo163, Aro163, qo163, So163, No163, Ho163, Go163⟩ := id V162
  have hino163 : ¬ ((15 : Int32) < 0 ∨ clo163.slots.size ≤ ((15 : Int32)).toNatClampNeg) := inb_of So163 ⟨by decide, by decide⟩
  obtain ⟨T164, h164, X164, e164, W164, st164⟩ := stB X162 hx hZ e162 Aro163 (j := (15 : Int32)) hino163 (g := (mkF m 397 #[.val (.int p0), .val (.int p1), .val (.int p2), .val (.int p3), .val (.int p4), .val (.int p5), .val (.ref b1), .val (.ref b66), .unset, .unset, .unset, .unset, .unset, .unset, .unset, .unset, .unset, .unset, .unset, .unset] [(.int (3 : Int32)), (.int (15 : Int32)), (.ref b132), (.ref b132)])) rfl rfl (hb hby at_397)
  have V164 : Arv Z h164 b132 k132 .byte (32 : Int32) [(.int (nar .byte (3 : Int32))), (.int (nar .byte (3 : Int32))), (.int (nar .byte (3 : Int32))), (.int (nar .byte (3 : Int32))), (.int (nar .byte (3 : Int32))), (.int (nar .byte (3 : Int32))), (.int (nar .byte (3 : Int32))), (.int (nar .byte (3 : Int32))), (.int (nar .byte (3 : Int32))), (.int (nar .byte (3 : Int32))), (.int (nar .byte (3 : Int32))), (.int (nar .byte (3 : Int32))), (.int (nar .byte (3 : Int32))), (.int (nar .byte (3 : Int32))), (.int (nar .byte (3 : Int32))), (.int (nar .byte (3 : Int32))), (.int (0 : Int32)), (.int (0 : Int32)), (.int (0 : Int32)), (.int (0 : Int32)), (.int (0 : Int32)), (.int (0 : Int32)), (.int (0 : Int32)), (.int (0 : Int32)), (.int (0 : Int32)), (.int (0 : Int32)), (.int (0 : Int32)), (.int (0 : Int32)), (.int (0 : Int32)), (.int (0 : Int32)), (.int (0 : Int32)), (.int (0 : Int32))] (.int (0 : Int32)) := Arv.set Aro163 qo163 So163 No163 Ho163 Go163 (fits_nar_byte _) W164 15 rfl (Nat.le_of_ble_eq_true rfl)
  have K164 := K162.wr W164 (Or.inr sz_b132)
  have N164 := Fr.snoc X164 N162 g_b132
  obtain ⟨clo165, Aro165, qo165, So165, No165, Ho165, Go165⟩ := id V164
  have hino165 : ¬ ((16 : Int32) < 0 ∨ clo165.slots.size ≤ ((16 : Int32)).toNatClampNeg) := inb_of So165 ⟨by decide, by decide⟩
  obtain ⟨T166, h166, X166, e166, W166, st166⟩ := stB X164 hx hZ e164 Aro165 (j := (16 : Int32)) hino165 (g := (mkF m 402 #[.val (.int p0), .val (.int p1), .val (.int p2), .val (.int p3), .val (.int p4), .val (.int p5), .val (.ref b1), .val (.ref b66), .unset, .unset, .unset, .unset, .unset, .unset, .unset, .unset, .unset, .unset, .unset, .unset] [(.int (3 : Int32)), (.int (16 : Int32)), (.ref b132), (.ref b132)])) rfl rfl (hb hby at_402)
  have V166 : Arv Z h166 b132 k132 .byte (32 : Int32) [(.int (nar .byte (3 : Int32))), (.int (nar .byte (3 : Int32))), (.int (nar .byte (3 : Int32))), (.int (nar .byte (3 : Int32))), (.int (nar .byte (3 : Int32))), (.int (nar .byte (3 : Int32))), (.int (nar .byte (3 : Int32))), (.int (nar .byte (3 : Int32))), (.int (nar .byte (3 : Int32))), (.int (nar .byte (3 : Int32))), (.int (nar .byte (3 : Int32))), (.int (nar .byte (3 : Int32))), (.int (nar .byte (3 : Int32))), (.int (nar .byte (3 : Int32))), (.int (nar .byte (3 : Int32))), (.int (nar .byte (3 : Int32))), (.int (nar .byte (3 : Int32))), (.int (0 : Int32)), (.int (0 : Int32)), (.int (0 : Int32)), (.int (0 : Int32)), (.int (0 : Int32)), (.int (0 : Int32)), (.int (0 : Int32)), (.int (0 : Int32)), (.int (0 : Int32)), (.int (0 : Int32)), (.int (0 : Int32)), (.int (0 : Int32)), (.int (0 : Int32)), (.int (0 : Int32)), (.int (0 : Int32))] (.int (0 : Int32)) := Arv.set Aro165 qo165 So165 No165 Ho165 Go165 (fits_nar_byte _) W166 16 rfl (Nat.le_of_ble_eq_true rfl)
  have K166 := K164.wr W166 (Or.inr sz_b132)
  have N166 := Fr.snoc X166 N164 g_b132
  obtain ⟨clo167, Aro167, qo167, So167, No167, Ho167, Go167⟩ := id V166
  have hino167 : ¬ ((17 : Int32) < 0 ∨ clo167.slots.size ≤ ((17 : Int32)).toNatClampNeg) := inb_of So167 ⟨by decide, by decide⟩
  obtain ⟨T168, h168, X168, e168, W168, st168⟩ := stB X166 hx hZ e166 Aro167 (j := (17 : Int32)) hino167 (g := (mkF m 407 #[.val (.int p0), .val (.int p1), .val (.int p2), .val (.int p3), .val (.int p4), .val (.int p5), .val (.ref b1), .val (.ref b66), .unset, .unset, .unset, .unset, .unset, .unset, .unset, .unset, .unset, .unset, .unset, .unset] [(.int (3 : Int32)), (.int (17 : Int32)), (.ref b132), (.ref b132)])) rfl rfl (hb hby at_407)
  have V168 : Arv Z h168 b132 k132 .byte (32 : Int32) [(.int (nar .byte (3 : Int32))), (.int (nar .byte (3 : Int32))), (.int (nar .byte (3 : Int32))), (.int (nar .byte (3 : Int32))), (.int (nar .byte (3 : Int32))), (.int (nar .byte (3 : Int32))), (.int (nar .byte (3 : Int32))), (.int (nar .byte (3 : Int32))), (.int (nar .byte (3 : Int32))), (.int (nar .byte (3 : Int32))), (.int (nar .byte (3 : Int32))), (.int (nar .byte (3 : Int32))), (.int (nar .byte (3 : Int32))), (.int (nar .byte (3 : Int32))), (.int (nar .byte (3 : Int32))), (.int (nar .byte (3 : Int32))), (.int (nar .byte (3 : Int32))), (.int (nar .byte (3 : Int32))), (.int (0 : Int32)), (.int (0 : Int32)), (.int (0 : Int32)), (.int (0 : Int32)), (.int (0 : Int32)), (.int (0 : Int32)), (.int (0 : Int32)), (.int (0 : Int32)), (.int (0 : Int32)), (.int (0 : Int32)), (.int (0 : Int32)), (.int (0 : Int32)), (.int (0 : Int32)), (.int (0 : Int32))] (.int (0 : Int32)) := Arv.set Aro167 qo167 So167 No167 Ho167 Go167 (fits_nar_byte _) W168 17 rfl (Nat.le_of_ble_eq_true rfl)
  have K168 := K166.wr W168 (Or.inr sz_b132)
  have N168 := Fr.snoc X168 N166 g_b132
  obtain ⟨clo169, Aro169, qo169, So169, No169, Ho169, Go169⟩ := id V168
  have hino169 : ¬ ((18 : Int32) < 0 ∨ clo169.slots.size ≤ ((18 : Int32)).toNatClampNeg) := inb_of So169 ⟨by decide, by decide⟩
  obtain ⟨T170, h170, X170, e170, W170, st170⟩ := stB X168 hx hZ e168 Aro169 (j := (18 : Int32)) hino169 (g := (mkF m 412 #[.val (.int p0), .val (.int p1), .val (.int p2), .val (.int p3), .val (.int p4), .val (.int p5), .val (.ref b1), .val (.ref b66), .unset, .unset, .unset, .unset, .unset, .unset, .unset, .unset, .unset, .unset, .unset, .unset] [(.int (3 : Int32)), (.int (18 : Int32)), (.ref b132), (.ref b132)])) rfl rfl (hb hby at_412)
  have V170 : Arv Z h170 b132 k132 .byte (32 : Int32) [(.int (nar .byte (3 : Int32))), (.int (nar .byte (3 : Int32))), (.int (nar .byte (3 : Int32))), (.int (nar .byte (3 : Int32))), (.int (nar .byte (3 : Int32))), (.int (nar .byte (3 : Int32))), (.int (nar .byte (3 : Int32))), (.int (nar .byte (3 : Int32))), (.int (nar .byte (3 : Int32))), (.int (nar .byte (3 : Int32))), (.int (nar .byte (3 : Int32))), (.int (nar .byte (3 : Int32))), (.int (nar .byte (3 : Int32))), (.int (nar .byte (3 : Int32))), (.int (nar .byte (3 : Int32))), (.int (nar .byte (3 : Int32))), (.int (nar .byte (3 : Int32))), (.int (nar .byte (3 : Int32))), (.int (nar .byte (3 : Int32))), (.int (0 : Int32)), (.int (0 : Int32)), (.int (0 : Int32)), (.int (0 : Int32)), (.int (0 : Int32)), (.int (0 : Int32)), (.int (0 : Int32)), (.int (0 : Int32)), (.int (0 : Int32)), (.int (0 : Int32)), (.int (0 : Int32)), (.int (0 : Int32)), (.int (0 : Int32))] (.int (0 : Int32)) := Arv.set Aro169 qo169 So169 No169 Ho169 Go169 (fits_nar_byte _) W170 18 rfl (Nat.le_of_ble_eq_true rfl)
  have K170 := K168.wr W170 (Or.inr sz_b132)
  have N170 := Fr.snoc X170 N168 g_b132
  obtain ⟨clo171, Aro171, qo171, So171, No171, Ho171, Go171⟩ := id V170
  have hino171 : ¬ ((19 : Int32) < 0 ∨ clo171.slots.size ≤ ((19 : Int32)).toNatClampNeg) := inb_of So171 ⟨by decide, by decide⟩
  obtain ⟨T172, h172, X172, e172, W172, st172⟩ := stB X170 hx hZ e170 Aro171 (j := (19 : Int32)) hino171 (g := (mkF m 417 #[.val (.int p0), .val (.int p1), .val (.int p2), .val (.int p3), .val (.int p4), .val (.int p5), .val (.ref b1), .val (.ref b66), .unset, .unset, .unset, .unset, .unset, .unset, .unset, .unset, .unset, .unset, .unset, .unset] [(.int (3 : Int32)), (.int (19 : Int32)), (.ref b132), (.ref b132)])) rfl rfl (hb hby at_417)
  have V172 : Arv Z h172 b132 k132 .byte (32 : Int32) [(.int (nar .byte (3 : Int32))), (.int (nar .byte (3 : Int32))), (.int (nar .byte (3 : Int32))), (.int (nar .byte (3 : Int32))), (.int (nar .byte (3 : Int32))), (.int (nar .byte (3 : Int32))), (.int (nar .byte (3 : Int32))), (.int (nar .byte (3 : Int32))), (.int (nar .byte (3 : Int32))), (.int (nar .byte (3 : Int32))), (.int (nar .byte (3 : Int32))), (.int (nar .byte (3 : Int32))), (.int (nar .byte (3 : Int32))), (.int (nar .byte (3 : Int32))), (.int (nar .byte (3 : Int32))), (.int (nar .byte (3 : Int32))), (.int (nar .byte (3 : Int32))), (.int (nar .byte (3 : Int32))), (.int (nar .byte (3 : Int32))), (.int (nar .byte (3 : Int32))), (.int (0 : Int32)), (.int (0 : Int32)), (.int (0 : Int32)), (.int (0 : Int32)), (.int (0 : Int32)), (.int (0 : Int32)), (.int (0 : Int32)), (.int (0 : Int32)), (.int (0 : Int32)), (.int (0 : Int32)), (.int (0 : Int32)), (.int (0 : Int32))] (.int (0 : Int32)) := Arv.set Aro171 qo171 So171 No171 Ho171 Go171 (fits_nar_byte _) W172 19 rfl (Nat.le_of_ble_eq_true rfl)
  have K172 := K170.wr W172 (Or.inr sz_b132)
  have N172 := Fr.snoc X172 N170 g_b132
  obtain ⟨clo173, Aro173, qo173, So173, No173, Ho173, Go173⟩ := id V172
  have hino173 : ¬ ((20 : Int32) < 0 ∨ clo173.slots.size ≤ ((20 : Int32)).toNatClampNeg) := inb_of So173 ⟨by decide, by decide⟩
  obtain ⟨T174, h174, X174, e174, W174, st174⟩ := stB X172 hx hZ e172 Aro173 (j := (20 : Int32)) hino173 (g := (mkF m 422 #[.val (.int p0), .val (.int p1), .val (.int p2), .val (.int p3), .val (.int p4), .val (.int p5), .val (.ref b1), .val (.ref b66), .unset, .unset, .unset, .unset, .unset, .unset, .unset, .unset, .unset, .unset, .unset, .unset] [(.int (3 : Int32)), (.int (20 : Int32)), (.ref b132), (.ref b132)])) rfl rfl (hb hby at_422)
  have V174 : Arv Z h174 b132 k132 .byte (32 : Int32) [(.int (nar .byte (3 : Int32))), (.int (nar .byte (3 : Int32))), (.int (nar .byte (3 : Int32))), (.int (nar .byte (3 : Int32))), (.int (nar .byte (3 : Int32))), (.int (nar .byte (3 : Int32))), (.int (nar .byte (3 : Int32))), (.int (nar .byte (3 : Int32))), (.int (nar .byte (3 : Int32))), (.int (nar .byte (3 : Int32))), (.int (nar .byte (3 : Int32))), (.int (nar .byte (3 : Int32))), (.int (nar .byte (3 : Int32))), (.int (nar .byte (3 : Int32))), (.int (nar .byte (3 : Int32))), (.int (nar .byte (3 : Int32))), (.int (nar .byte (3 : Int32))), (.int (nar .byte (3 : Int32))), (.int (nar .byte (3 : Int32))), (.int (nar .byte (3 : Int32))), (.int (nar .byte (3 : Int32))), (.int (0 : Int32)), (.int (0 : Int32)), (.int (0 : Int32)), (.int (0 : Int32)), (.int (0 : Int32)), (.int (0 : Int32)), (.int (0 : Int32)), (.int (0 : Int32)), (.int (0 : Int32)), (.int (0 : Int32)), (.int (0 : Int32))] (.int (0 : Int32)) := Arv.set Aro173 qo173 So173 No173 Ho173 Go173 (fits_nar_byte _) W174 20 rfl (Nat.le_of_ble_eq_true rfl)
  have K174 := K172.wr W174 (Or.inr sz_b132)
  have N174 := Fr.snoc X174 N172 g_b132
  obtain ⟨clo175, Aro175, qo175, So175, No175, Ho175, Go175⟩ := id V174
  have hino175 : ¬ ((21 : Int32) < 0 ∨ clo175.slots.size ≤ ((21 : Int32)).toNatClampNeg) := inb_of So175 ⟨by decide, by decide⟩
  obtain ⟨T176, h176, X176, e176, W176, st176⟩ := stB X174 hx hZ e174 Aro175 (j := (21 : Int32)) hino175 (g := (mkF m 427 #[.val (.int p0), .val (.int p1), .val (.int p2), .val (.int p3), .val (.int p4), .val (.int p5), .val (.ref b1), .val (.ref b66), .unset, .unset, .unset, .unset, .unset, .unset, .unset, .unset, .unset, .unset, .unset, .unset] [(.int (3 : Int32)), (.int (21 : Int32)), (.ref b132), (.ref b132)])) rfl rfl (hb hby at_427)
  have V176 : Arv Z h176 b132 k132 .byte (32 : Int32) [(.int (nar .byte (3 : Int32))), (.int (nar .byte (3 : Int32))), (.int (nar .byte (3 : Int32))), (.int (nar .byte (3 : Int32))), (.int (nar .byte (3 : Int32))), (.int (nar .byte (3 : Int32))), (.int (nar .byte (3 : Int32))), (.int (nar .byte (3 : Int32))), (.int (nar .byte (3 : Int32))), (.int (nar .byte (3 : Int32))), (.int (nar .byte (3 : Int32))), (.int (nar .byte (3 : Int32))), (.int (nar .byte (3 : Int32))), (.int (nar .byte (3 : Int32))), (.int (nar .byte (3 : Int32))), (.int (nar .byte (3 : Int32))), (.int (nar .byte (3 : Int32))), (.int (nar .byte (3 : Int32))), (.int (nar .byte (3 : Int32))), (.int (nar .byte (3 : Int32))), (.int (nar .byte (3 : Int32))), (.int (nar .byte (3 : Int32))), (.int (0 : Int32)), (.int (0 : Int32)), (.int (0 : Int32)), (.int (0 : Int32)), (.int (0 : Int32)), (.int (0 : Int32)), (.int (0 : Int32)), (.int (0 : Int32)), (.int (0 : Int32)), (.int (0 : Int32))] (.int (0 : Int32)) := Arv.set Aro175 qo175 So175 No175 Ho175 Go175 (fits_nar_byte _) W176 21 rfl (Nat.le_of_ble_eq_true rfl)
  have K176 := K174.wr W176 (Or.inr sz_b132)
  have N176 := Fr.snoc X176 N174 g_b132
  obtain ⟨clo177, Aro177, qo177, So177, No177, Ho177, Go177⟩ := id V176
  have hino177 : ¬ ((22 : Int32) < 0 ∨ clo177.slots.size ≤ ((22 : Int32)).toNatClampNeg) := inb_of So177 ⟨by decide, by decide⟩
  obtain ⟨T178, h178, X178, e178, W178, st178⟩ := stB X176 hx hZ e176 Aro177 (j := (22 : Int32)) hino177 (g := (mkF m 432 #[.val (.int p0), .val (.int p1), .val (.int p2), .val (.int p3), .val (.int p4), .val (.int p5), .val (.ref b1), .val (.ref b66), .unset, .unset, .unset, .unset, .unset, .unset, .unset, .unset, .unset, .unset, .unset, .unset] [(.int (3 : Int32)), (.int (22 : Int32)), (.ref b132), (.ref b132)])) rfl rfl (hb hby at_432)
  have V178 : Arv Z h178 b132 k132 .byte (32 : Int32) [(.int (nar .byte (3 : Int32))), (.int (nar .byte (3 : Int32))), (.int (nar .byte (3 : Int32))), (.int (nar .byte (3 : Int32))), (.int (nar .byte (3 : Int32))), (.int (nar .byte (3 : Int32))), (.int (nar .byte (3 : Int32))), (.int (nar .byte (3 : Int32))), (.int (nar .byte (3 : Int32))), (.int (nar .byte (3 : Int32))), (.int (nar .byte (3 : Int32))), (.int (nar .byte (3 : Int32))), (.int (nar .byte (3 : Int32))), (.int (nar .byte (3 : Int32))), (.int (nar .byte (3 : Int32))), (.int (nar .byte (3 : Int32))), (.int (nar .byte (3 : Int32))), (.int (nar .byte (3 : Int32))), (.int (nar .byte (3 : Int32))), (.int (nar .byte (3 : Int32))), (.int (nar .byte (3 : Int32))), (.int (nar .byte (3 : Int32))), (.int (nar .byte (3 : Int32))), (.int (0 : Int32)), (.int (0 : Int32)), (.int (0 : Int32)), (.int (0 : Int32)), (.int (0 : Int32)), (.int (0 : Int32)), (.int (0 : Int32)), (.int (0 : Int32)), (.int (0 : Int32))] (.int (0 : Int32)) := Arv.set Aro177 qo177 So177 No177 Ho177 Go177 (fits_nar_byte _) W178 22 rfl (Nat.le_of_ble_eq_true rfl)
  have K178 := K176.wr W178 (Or.inr sz_b132)
  have N178 := Fr.snoc X178 N176 g_b132
  obtain ⟨clo179, Aro179, qo179, So179, No179, Ho179, Go179⟩ := id V178
  have hino179 : ¬ ((23 : Int32) < 0 ∨ clo179.slots.size ≤ ((23 : Int32)).toNatClampNeg) := inb_of So179 ⟨by decide, by decide⟩
  obtain ⟨T180, h180, X180, e180, W180, st180⟩ := stB X178 hx hZ e178 Aro179 (j := (23 : Int32)) hino179 (g := (mkF m 437 #[.val (.int p0), .val (.int p1), .val (.int p2), .val (.int p3), .val (.int p4), .val (.int p5), .val (.ref b1), .val (.ref b66), .unset, .unset, .unset, .unset, .unset, .unset, .unset, .unset, .unset, .unset, .unset, .unset] [(.int (3 : Int32)), (.int (23 : Int32)), (.ref b132), (.ref b132)])) rfl rfl (hb hby at_437)
  have V180 : Arv Z h180 b132 k132 .byte (32 : Int32) [(.int (nar .byte (3 : Int32))), (.int (nar .byte (3 : Int32))), (.int (nar .byte (3 : Int32))), (.int (nar .byte (3 : Int32))), (.int (nar .byte (3 : Int32))), (.int (nar .byte (3 : Int32))), (.int (nar .byte (3 : Int32))), (.int (nar .byte (3 : Int32))), (.int (nar .byte (3 : Int32))), (.int (nar .byte (3 : Int32))), (.int (nar .byte (3 : Int32))), (.int (nar .byte (3 : Int32))), (.int (nar .byte (3 : Int32))), (.int (nar .byte (3 : Int32))), (.int (nar .byte (3 : Int32))), (.int (nar .byte (3 : Int32))), (.int (nar .byte (3 : Int32))), (.int (nar .byte (3 : Int32))), (.int (nar .byte (3 : Int32))), (.int (nar .byte (3 : Int32))), (.int (nar .byte (3 : Int32))), (.int (nar .byte (3 : Int32))), (.int (nar .byte (3 : Int32))), (.int (nar .byte (3 : Int32))), (.int (0 : Int32)), (.int (0 : Int32)), (.int (0 : Int32)), (.int (0 : Int32)), (.int (0 : Int32)), (.int (0 : Int32)), (.int (0 : Int32)), (.int (0 : Int32))] (.int (0 : Int32)) := Arv.set Aro179 qo179 So179 No179 Ho179 Go179 (fits_nar_byte _) W180 23 rfl (Nat.le_of_ble_eq_true rfl)
  have K180 := K178.wr W180 (Or.inr sz_b132)
  have N180 := Fr.snoc X180 N178 g_b132
  obtain ⟨clo181, Aro181, qo181, So181, No181, Ho181, Go181⟩ := id V180
  have hino181 : ¬ ((24 : Int32) < 0 ∨ clo181.slots.size ≤ ((24 : Int32)).toNatClampNeg) := inb_of So181 ⟨by decide, by decide⟩
  obtain ⟨T182, h182, X182, e182, W182, st182⟩ := stB X180 hx hZ e180 Aro181 (j := (24 : Int32)) hino181 (g := (mkF m 442 #[.val (.int p0), .val (.int p1), .val (.int p2), .val (.int p3), .val (.int p4), .val (.int p5), .val (.ref b1), .val (.ref b66), .unset, .unset, .unset, .unset, .unset, .unset, .unset, .unset, .unset, .unset, .unset, .unset] [(.int (3 : Int32)), (.int (24 : Int32)), (.ref b132), (.ref b132)])) rfl rfl (hb hby at_442)
  have V182 : Arv Z h182 b132 k132 .byte (32 : Int32) [(.int (nar .byte (3 : Int32))), (.int (nar .byte (3 : Int32))), (.int (nar .byte (3 : Int32))), (.int (nar .byte (3 : Int32))), (.int (nar .byte (3 : Int32))), (.int (nar .byte (3 : Int32))), (.int (nar .byte (3 : Int32))), (.int (nar .byte (3 : Int32))), (.int (nar .byte (3 : Int32))), (.int (nar .byte (3 : Int32))), (.int (nar .byte (3 : Int32))), (.int (nar .byte (3 : Int32))), (.int (nar .byte (3 : Int32))), (.int (nar .byte (3 : Int32))), (.int (nar .byte (3 : Int32))), (.int (nar .byte (3 : Int32))), (.int (nar .byte (3 : Int32))), (.int (nar .byte (3 : Int32))), (.int (nar .byte (3 : Int32))), (.int (nar .byte (3 : Int32))), (.int (nar .byte (3 : Int32))), (.int (nar .byte (3 : Int32))), (.int (nar .byte (3 : Int32))), (.int (nar .byte (3 : Int32))), (.int (nar .byte (3 : Int32))), (.int (0 : Int32)), (.int (0 : Int32)), (.int (0 : Int32)), (.int (0 : Int32)), (.int (0 : Int32)), (.int (0 : Int32)), (.int (0 : Int32))] (.int (0 : Int32)) := Arv.set Aro181 qo181 So181 No181 Ho181 Go181 (fits_nar_byte _) W182 24 rfl (Nat.le_of_ble_eq_true rfl)
  have K182 := K180.wr W182 (Or.inr sz_b132)
  have N182 := Fr.snoc X182 N180 g_b132
  obtain ⟨clo183, Aro183, qo183, So183, No183, Ho183, Go183⟩ := id V182
  have hino183 : ¬ ((25 : Int32) < 0 ∨ clo183.slots.size ≤ ((25 : Int32)).toNatClampNeg) := inb_of So183 ⟨by decide, by decide⟩
  obtain ⟨T184, h184, X184, e184, W184, st184⟩ := stB X182 hx hZ e182 Aro183 (j := (25 : Int32)) hino183 (g := (mkF m 447 #[.val (.int p0), .val (.int p1), .val (.int p2), .val (.int p3), .val (.int p4), .val (.int p5), .val (.ref b1), .val (.ref b66), .unset, .unset, .unset, .unset, .unset, .unset, .unset, .unset, .unset, .unset, .unset, .unset] [(.int (3 : Int32)), (.int (25 : Int32)), (.ref b132), (.ref b132)])) rfl rfl (hb hby at_447)
  have V184 : Arv Z h184 b132 k132 .byte (32 : Int32) [(.int (nar .byte (3 : Int32))), (.int (nar .byte (3 : Int32))), (.int (nar .byte (3 : Int32))), (.int (nar .byte (3 : Int32))), (.int (nar .byte (3 : Int32))), (.int (nar .byte (3 : Int32))), (.int (nar .byte (3 : Int32))), (.int (nar .byte (3 : Int32))), (.int (nar .byte (3 : Int32))), (.int (nar .byte (3 : Int32))), (.int (nar .byte (3 : Int32))), (.int (nar .byte (3 : Int32))), (.int (nar .byte (3 : Int32))), (.int (nar .byte (3 : Int32))), (.int (nar .byte (3 : Int32))), (.int (nar .byte (3 : Int32))), (.int (nar .byte (3 : Int32))), (.int (nar .byte (3 : Int32))), (.int (nar .byte (3 : Int32))), (.int (nar .byte (3 : Int32))), (.int (nar .byte (3 : Int32))), (.int (nar .byte (3 : Int32))), (.int (nar .byte (3 : Int32))), (.int (nar .byte (3 : Int32))), (.int (nar .byte (3 : Int32))), (.int (nar .byte (3 : Int32))), (.int (0 : Int32)), (.int (0 : Int32)), (.int (0 : Int32)), (.int (0 : Int32)), (.int (0 : Int32)), (.int (0 : Int32))] (.int (0 : Int32)) := Arv.set Aro183 qo183 So183 No183 Ho183 Go183 (fits_nar_byte _) W184 25 rfl (Nat.le_of_ble_eq_true rfl)
  have K184 := K182.wr W184 (Or.inr sz_b132)
  have N184 := Fr.snoc X184 N182 g_b132
  obtain ⟨clo185, Aro185, qo185, So185, No185, Ho185, Go185⟩ := id V184
  have hino185 : ¬ ((26 : Int32) < 0 ∨ clo185.slots.size ≤ ((26 : Int32)).toNatClampNeg) := inb_of So185 ⟨by decide, by decide⟩
  obtain ⟨T186, h186, X186, e186, W186, st186⟩ := stB X184 hx hZ e184 Aro185 (j := (26 : Int32)) hino185 (g := (mkF m 452 #[.val (.int p0), .val (.int p1), .val (.int p2), .val (.int p3), .val (.int p4), .val (.int p5), .val (.ref b1), .val (.ref b66), .unset, .unset, .unset, .unset, .unset, .unset, .unset, .unset, .unset, .unset, .unset, .unset] [(.int (3 : Int32)), (.int (26 : Int32)), (.ref b132), (.ref b132)])) rfl rfl (hb hby at_452)
  have V186 : Arv Z h186 b132 k132 .byte (32 : Int32) [(.int (nar .byte (3 : Int32))), (.int (nar .byte (3 : Int32))), (.int (nar .byte (3 : Int32))), (.int (nar .byte (3 : Int32))), (.int (nar .byte (3 : Int32))), (.int (nar .byte (3 : Int32))), (.int (nar .byte (3 : Int32))), (.int (nar .byte (3 : Int32))), (.int (nar .byte (3 : Int32))), (.int (nar .byte (3 : Int32))), (.int (nar .byte (3 : Int32))), (.int (nar .byte (3 : Int32))), (.int (nar .byte (3 : Int32))), (.int (nar .byte (3 : Int32))), (.int (nar .byte (3 : Int32))), (.int (nar .byte (3 : Int32))), (.int (nar .byte (3 : Int32))), (.int (nar .byte (3 : Int32))), (.int (nar .byte (3 : Int32))), (.int (nar .byte (3 : Int32))), (.int (nar .byte (3 : Int32))), (.int (nar .byte (3 : Int32))), (.int (nar .byte (3 : Int32))), (.int (nar .byte (3 : Int32))), (.int (nar .byte (3 : Int32))), (.int (nar .byte (3 : Int32))), (.int (nar .byte (3 : Int32))), (.int (0 : Int32)), (.int (0 : Int32)), (.int (0 : Int32)), (.int (0 : Int32)), (.int (0 : Int32))] (.int (0 : Int32)) := Arv.set Aro185 qo185 So185 No185 Ho185 Go185 (fits_nar_byte _) W186 26 rfl (Nat.le_of_ble_eq_true rfl)
  have K186 := K184.wr W186 (Or.inr sz_b132)
  have N186 := Fr.snoc X186 N184 g_b132
  obtain ⟨clo187, Aro187, qo187, So187, No187, Ho187, Go187⟩ := id V186
  have hino187 : ¬ ((27 : Int32) < 0 ∨ clo187.slots.size ≤ ((27 : Int32)).toNatClampNeg) := inb_of So187 ⟨by decide, by decide⟩
  obtain ⟨T188, h188, X188, e188, W188, st188⟩ := stB X186 hx hZ e186 Aro187 (j := (27 : Int32)) hino187 (g := (mkF m 457 #[.val (.int p0), .val (.int p1), .val (.int p2), .val (.int p3), .val (.int p4), .val (.int p5), .val (.ref b1), .val (.ref b66), .unset, .unset, .unset, .unset, .unset, .unset, .unset, .unset, .unset, .unset, .unset, .unset] [(.int (3 : Int32)), (.int (27 : Int32)), (.ref b132), (.ref b132)])) rfl rfl (hb hby at_457)
  have V188 : Arv Z h188 b132 k132 .byte (32 : Int32) [(.int (nar .byte (3 : Int32))), (.int (nar .byte (3 : Int32))), (.int (nar .byte (3 : Int32))), (.int (nar .byte (3 : Int32))), (.int (nar .byte (3 : Int32))), (.int (nar .byte (3 : Int32))), (.int (nar .byte (3 : Int32))), (.int (nar .byte (3 : Int32))), (.int (nar .byte (3 : Int32))), (.int (nar .byte (3 : Int32))), (.int (nar .byte (3 : Int32))), (.int (nar .byte (3 : Int32))), (.int (nar .byte (3 : Int32))), (.int (nar .byte (3 : Int32))), (.int (nar .byte (3 : Int32))), (.int (nar .byte (3 : Int32))), (.int (nar .byte (3 : Int32))), (.int (nar .byte (3 : Int32))), (.int (nar .byte (3 : Int32))), (.int (nar .byte (3 : Int32))), (.int (nar .byte (3 : Int32))), (.int (nar .byte (3 : Int32))), (.int (nar .byte (3 : Int32))), (.int (nar .byte (3 : Int32))), (.int (nar .byte (3 : Int32))), (.int (nar .byte (3 : Int32))), (.int (nar .byte (3 : Int32))), (.int (nar .byte (3 : Int32))), (.int (0 : Int32)), (.int (0 : Int32)), (.int (0 : Int32)), (.int (0 : Int32))] (.int (0 : Int32)) := Arv.set Aro187 qo187 So187 No187 Ho187 Go187 (fits_nar_byte _) W188 27 rfl (Nat.le_of_ble_eq_true rfl)
  have K188 := K186.wr W188 (Or.inr sz_b132)
  have N188 := Fr.snoc X188 N186 g_b132
  obtain ⟨clo189, Aro189, qo189, So189, No189, Ho189, Go189⟩ := id V188
  have hino189 : ¬ ((28 : Int32) < 0 ∨ clo189.slots.size ≤ ((28 : Int32)).toNatClampNeg) := inb_of So189 ⟨by decide, by decide⟩
  obtain ⟨T190, h190, X190, e190, W190, st190⟩ := stB X188 hx hZ e188 Aro189 (j := (28 : Int32)) hino189 (g := (mkF m 462 #[.val (.int p0), .val (.int p1), .val (.int p2), .val (.int p3), .val (.int p4), .val (.int p5), .val (.ref b1), .val (.ref b66), .unset, .unset, .unset, .unset, .unset, .unset, .unset, .unset, .unset, .unset, .unset, .unset] [(.int (3 : Int32)), (.int (28 : Int32)), (.ref b132), (.ref b132)])) rfl rfl (hb hby at_462)
  have V190 : Arv Z h190 b132 k132 .byte (32 : Int32) [(.int (nar .byte (3 : Int32))), (.int (nar .byte (3 : Int32))), (.int (nar .byte (3 : Int32))), (.int (nar .byte (3 : Int32))), (.int (nar .byte (3 : Int32))), (.int (nar .byte (3 : Int32))), (.int (nar .byte (3 : Int32))), (.int (nar .byte (3 : Int32))), (.int (nar .byte (3 : Int32))), (.int (nar .byte (3 : Int32))), (.int (nar .byte (3 : Int32))), (.int (nar .byte (3 : Int32))), (.int (nar .byte (3 : Int32))), (.int (nar .byte (3 : Int32))), (.int (nar .byte (3 : Int32))), (.int (nar .byte (3 : Int32))), (.int (nar .byte (3 : Int32))), (.int (nar .byte (3 : Int32))), (.int (nar .byte (3 : Int32))), (.int (nar .byte (3 : Int32))), (.int (nar .byte (3 : Int32))), (.int (nar .byte (3 : Int32))), (.int (nar .byte (3 : Int32))), (.int (nar .byte (3 : Int32))), (.int (nar .byte (3 : Int32))), (.int (nar .byte (3 : Int32))), (.int (nar .byte (3 : Int32))), (.int (nar .byte (3 : Int32))), (.int (nar .byte (3 : Int32))), (.int (0 : Int32)), (.int (0 : Int32)), (.int (0 : Int32))] (.int (0 : Int32)) := Arv.set Aro189 qo189 So189 No189 Ho189 Go189 (fits_nar_byte _) W190 28 rfl (Nat.le_of_ble_eq_true rfl)
  have K190 := K188.wr W190 (Or.inr sz_b132)
  have N190 := Fr.snoc X190 N188 g_b132
  obtain ⟨clo191, Aro191, qo191, So191, No191, Ho191, Go191⟩ := id V190
  have hino191 : ¬ ((29 : Int32) < 0 ∨ clo191.slots.size ≤ ((29 : Int32)).toNatClampNeg) := inb_of So191 ⟨by decide, by decide⟩
  obtain ⟨T192, h192, X192, e192, W192, st192⟩ := stB X190 hx hZ e190 Aro191 (j := (29 : Int32)) hino191 (g := (mkF m 467 #[.val (.int p0), .val (.int p1), .val (.int p2), .val (.int p3), .val (.int p4), .val (.int p5), .val (.ref b1), .val (.ref b66), .unset, .unset, .unset, .unset, .unset, .unset, .unset, .unset, .unset, .unset, .unset, .unset] [(.int (3 : Int32)), (.int (29 : Int32)), (.ref b132), (.ref b132)])) rfl rfl (hb hby at_467)
  have V192 : Arv Z h192 b132 k132 .byte (32 : Int32) [(.int (nar .byte (3 : Int32))), (.int (nar .byte (3 : Int32))), (.int (nar .byte (3 : Int32))), (.int (nar .byte (3 : Int32))), (.int (nar .byte (3 : Int32))), (.int (nar .byte (3 : Int32))), (.int (nar .byte (3 : Int32))), (.int (nar .byte (3 : Int32))), (.int (nar .byte (3 : Int32))), (.int (nar .byte (3 : Int32))), (.int (nar .byte (3 : Int32))), (.int (nar .byte (3 : Int32))), (.int (nar .byte (3 : Int32))), (.int (nar .byte (3 : Int32))), (.int (nar .byte (3 : Int32))), (.int (nar .byte (3 : Int32))), (.int (nar .byte (3 : Int32))), (.int (nar .byte (3 : Int32))), (.int (nar .byte (3 : Int32))), (.int (nar .byte (3 : Int32))), (.int (nar .byte (3 : Int32))), (.int (nar .byte (3 : Int32))), (.int (nar .byte (3 : Int32))), (.int (nar .byte (3 : Int32))), (.int (nar .byte (3 : Int32))), (.int (nar .byte (3 : Int32))), (.int (nar .byte (3 : Int32))), (.int (nar .byte (3 : Int32))), (.int (nar .byte (3 : Int32))), (.int (nar .byte (3 : Int32))), (.int (0 : Int32)), (.int (0 : Int32))] (.int (0 : Int32)) := Arv.set Aro191 qo191 So191 No191 Ho191 Go191 (fits_nar_byte _) W192 29 rfl (Nat.le_of_ble_eq_true rfl)
  have K192 := K190.wr W192 (Or.inr sz_b132)
  have N192 := Fr.snoc X192 N190 g_b132
  obtain ⟨clo193, Aro193, qo193, So193, No193, Ho193, Go193⟩ := id V192
  have hino193 : ¬ ((30 : Int32) < 0 ∨ clo193.slots.size ≤ ((30 : Int32)).toNatClampNeg) := inb_of So193 ⟨by decide, by decide⟩
  obtain ⟨T194, h194, X194, e194, W194, st194⟩ := stB X192 hx hZ e192 Aro193 (j := (30 : Int32)) hino193 (g := (mkF m 472 #[.val (.int p0), .val (.int p1), .val (.int p2), .val (.int p3), .val (.int p4), .val (.int p5), .val (.ref b1), .val (.ref b66), .unset, .unset, .unset, .unset, .unset, .unset, .unset, .unset, .unset, .unset, .unset, .unset] [(.int (3 : Int32)), (.int (30 : Int32)), (.ref b132), (.ref b132)])) rfl rfl (hb hby at_472)
  have V194 : Arv Z h194 b132 k132 .byte (32 : Int32) [(.int (nar .byte (3 : Int32))), (.int (nar .byte (3 : Int32))), (.int (nar .byte (3 : Int32))), (.int (nar .byte (3 : Int32))), (.int (nar .byte (3 : Int32))), (.int (nar .byte (3 : Int32))), (.int (nar .byte (3 : Int32))), (.int (nar .byte (3 : Int32))), (.int (nar .byte (3 : Int32))), (.int (nar .byte (3 : Int32))), (.int (nar .byte (3 : Int32))), (.int (nar .byte (3 : Int32))), (.int (nar .byte (3 : Int32))), (.int (nar .byte (3 : Int32))), (.int (nar .byte (3 : Int32))), (.int (nar .byte (3 : Int32))), (.int (nar .byte (3 : Int32))), (.int (nar .byte (3 : Int32))), (.int (nar .byte (3 : Int32))), (.int (nar .byte (3 : Int32))), (.int (nar .byte (3 : Int32))), (.int (nar .byte (3 : Int32))), (.int (nar .byte (3 : Int32))), (.int (nar .byte (3 : Int32))), (.int (nar .byte (3 : Int32))), (.int (nar .byte (3 : Int32))), (.int (nar .byte (3 : Int32))), (.int (nar .byte (3 : Int32))), (.int (nar .byte (3 : Int32))), (.int (nar .byte (3 : Int32))), (.int (nar .byte (3 : Int32))), (.int (0 : Int32))] (.int (0 : Int32)) := Arv.set Aro193 qo193 So193 No193 Ho193 Go193 (fits_nar_byte _) W194 30 rfl (Nat.le_of_ble_eq_true rfl)
  have K194 := K192.wr W194 (Or.inr sz_b132)
  have N194 := Fr.snoc X194 N192 g_b132
  obtain ⟨clo195, Aro195, qo195, So195, No195, Ho195, Go195⟩ := id V194
  have hino195 : ¬ ((31 : Int32) < 0 ∨ clo195.slots.size ≤ ((31 : Int32)).toNatClampNeg) := inb_of So195 ⟨by decide, by decide⟩
  obtain ⟨T196, h196, X196, e196, W196, st196⟩ := stB X194 hx hZ e194 Aro195 (j := (31 : Int32)) hino195 (g := (mkF m 477 #[.val (.int p0), .val (.int p1), .val (.int p2), .val (.int p3), .val (.int p4), .val (.int p5), .val (.ref b1), .val (.ref b66), .unset, .unset, .unset, .unset, .unset, .unset, .unset, .unset, .unset, .unset, .unset, .unset] [(.int (3 : Int32)), (.int (31 : Int32)), (.ref b132), (.ref b132)])) rfl rfl (hb hby at_477)
  have V196 : Arv Z h196 b132 k132 .byte (32 : Int32) [(.int (nar .byte (3 : Int32))), (.int (nar .byte (3 : Int32))), (.int (nar .byte (3 : Int32))), (.int (nar .byte (3 : Int32))), (.int (nar .byte (3 : Int32))), (.int (nar .byte (3 : Int32))), (.int (nar .byte (3 : Int32))), (.int (nar .byte (3 : Int32))), (.int (nar .byte (3 : Int32))), (.int (nar .byte (3 : Int32))), (.int (nar .byte (3 : Int32))), (.int (nar .byte (3 : Int32))), (.int (nar .byte (3 : Int32))), (.int (nar .byte (3 : Int32))), (.int (nar .byte (3 : Int32))), (.int (nar .byte (3 : Int32))), (.int (nar .byte (3 : Int32))), (.int (nar .byte (3 : Int32))), (.int (nar .byte (3 : Int32))), (.int (nar .byte (3 : Int32))), (.int (nar .byte (3 : Int32))), (.int (nar .byte (3 : Int32))), (.int (nar .byte (3 : Int32))), (.int (nar .byte (3 : Int32))), (.int (nar .byte (3 : Int32))), (.int (nar .byte (3 : Int32))), (.int (nar .byte (3 : Int32))), (.int (nar .byte (3 : Int32))), (.int (nar .byte (3 : Int32))), (.int (nar .byte (3 : Int32))), (.int (nar .byte (3 : Int32))), (.int (nar .byte (3 : Int32)))] (.int (0 : Int32)) := Arv.set Aro195 qo195 So195 No195 Ho195 Go195 (fits_nar_byte _) W196 31 rfl (Nat.le_of_ble_eq_true rfl)
  have K196 := K194.wr W196 (Or.inr sz_b132)
  have N196 := Fr.snoc X196 N194 g_b132
  obtain ⟨lv197, hlv197⟩ : ∃ z, z = (p0 &&& (15 : Int32)) := ⟨_, rfl⟩
  have pre198 : ∀ t, Steps p.tables e below (T196.setTop (mkF m 484 #[.val (.int p0), .val (.int p1), .val (.int p2), .val (.int p3), .val (.int p4), .val (.int p5), .val (.ref b1), .val (.ref b66), .val (.ref b132), .unset, .unset, .unset, .unset, .unset, .unset, .unset, .unset, .unset, .unset, .unset] [(.int lv197)])) t → Steps p.tables e below (s₁.setTop (entryFrame m #[(.int p0), (.int p1), (.int p2), (.int p3), (.int p4), (.int p5)] maxLocals)) t := by
    intro t kt
    rw [hlv197] at kt
    refine pre0 _ ?_
    show Steps p.tables e below (s₁.setTop (mkF m 0 #[.val (.int p0), .val (.int p1), .val (.int p2), .val (.int p3), .val (.int p4), .val (.int p5), .unset, .unset, .unset, .unset, .unset, .unset, .unset, .unset, .unset, .unset, .unset, .unset, .unset, .unset] [])) _
    refine XS.bipush X0.here hx rfl (hb hby at_0) ?_
    show Steps p.tables e below (s₁.setTop (mkF m 2 #[.val (.int p0), .val (.int p1), .val (.int p2), .val (.int p3), .val (.int p4), .val (.int p5), .unset, .unset, .unset, .unset, .unset, .unset, .unset, .unset, .unset, .unset, .unset, .unset, .unset, .unset] [(.int (32 : Int32))])) _
    refine st1 _ ?_
    show Steps p.tables e below (T1.setTop (mkF m 4 #[.val (.int p0), .val (.int p1), .val (.int p2), .val (.int p3), .val (.int p4), .val (.int p5), .unset, .unset, .unset, .unset, .unset, .unset, .unset, .unset, .unset, .unset, .unset, .unset, .unset, .unset] [(.ref b1)])) _
    refine XS.dup X1.here hx rfl (hb hby at_4) rfl rfl ?_
    show Steps p.tables e below (T1.setTop (mkF m 5 #[.val (.int p0), .val (.int p1), .val (.int p2), .val (.int p3), .val (.int p4), .val (.int p5), .unset, .unset, .unset, .unset, .unset, .unset, .unset, .unset, .unset, .unset, .unset, .unset, .unset, .unset] [(.ref b1), (.ref b1)])) _
    refine XS.iconst X1.here hx rfl (hb hby at_5) ?_
    show Steps p.tables e below (T1.setTop (mkF m 6 #[.val (.int p0), .val (.int p1), .val (.int p2), .val (.int p3), .val (.int p4), .val (.int p5), .unset, .unset, .unset, .unset, .unset, .unset, .unset, .unset, .unset, .unset, .unset, .unset, .unset, .unset] [(.int (0 : Int32)), (.ref b1), (.ref b1)])) _
    refine XS.iconst X1.here hx rfl (hb hby at_6) ?_
    show Steps p.tables e below (T1.setTop (mkF m 7 #[.val (.int p0), .val (.int p1), .val (.int p2), .val (.int p3), .val (.int p4), .val (.int p5), .unset, .unset, .unset, .unset, .unset, .unset, .unset, .unset, .unset, .unset, .unset, .unset, .unset, .unset] [(.int (1 : Int32)), (.int (0 : Int32)), (.ref b1), (.ref b1)])) _
    refine st3 _ ?_
    show Steps p.tables e below (T3.setTop (mkF m 8 #[.val (.int p0), .val (.int p1), .val (.int p2), .val (.int p3), .val (.int p4), .val (.int p5), .unset, .unset, .unset, .unset, .unset, .unset, .unset, .unset, .unset, .unset, .unset, .unset, .unset, .unset] [(.ref b1)])) _
    refine XS.dup X3.here hx rfl (hb hby at_8) rfl rfl ?_
    show Steps p.tables e below (T3.setTop (mkF m 9 #[.val (.int p0), .val (.int p1), .val (.int p2), .val (.int p3), .val (.int p4), .val (.int p5), .unset, .unset, .unset, .unset, .unset, .unset, .unset, .unset, .unset, .unset, .unset, .unset, .unset, .unset] [(.ref b1), (.ref b1)])) _
    refine XS.iconst X3.here hx rfl (hb hby at_9) ?_
    show Steps p.tables e below (T3.setTop (mkF m 10 #[.val (.int p0), .val (.int p1), .val (.int p2), .val (.int p3), .val (.int p4), .val (.int p5), .unset, .unset, .unset, .unset, .unset, .unset, .unset, .unset, .unset, .unset, .unset, .unset, .unset, .unset] [(.int (1 : Int32)), (.ref b1), (.ref b1)])) _
    refine XS.iconst X3.here hx rfl (hb hby at_10) ?_
    show Steps p.tables e below (T3.setTop (mkF m 11 #[.val (.int p0), .val (.int p1), .val (.int p2), .val (.int p3), .val (.int p4), .val (.int p5), .unset, .unset, .unset, .unset, .unset, .unset, .unset, .unset, .unset, .unset, .unset, .unset, .unset, .unset] [(.int (1 : Int32)), (.int (1 : Int32)), (.ref b1), (.ref b1)])) _
    refine st5 _ ?_
    show Steps p.tables e below (T5.setTop (mkF m 12 #[.val (.int p0), .val (.int p1), .val (.int p2), .val (.int p3), .val (.int p4), .val (.int p5), .unset, .unset, .unset, .unset, .unset, .unset, .unset, .unset, .unset, .unset, .unset, .unset, .unset, .unset] [(.ref b1)])) _
    refine XS.dup X5.here hx rfl (hb hby at_12) rfl rfl ?_
    show Steps p.tables e below (T5.setTop (mkF m 13 #[.val (.int p0), .val (.int p1), .val (.int p2), .val (.int p3), .val (.int p4), .val (.int p5), .unset, .unset, .unset, .unset, .unset, .unset, .unset, .unset, .unset, .unset, .unset, .unset, .unset, .unset] [(.ref b1), (.ref b1)])) _
    refine XS.iconst X5.here hx rfl (hb hby at_13) ?_
    show Steps p.tables e below (T5.setTop (mkF m 14 #[.val (.int p0), .val (.int p1), .val (.int p2), .val (.int p3), .val (.int p4), .val (.int p5), .unset, .unset, .unset, .unset, .unset, .unset, .unset, .unset, .unset, .unset, .unset, .unset, .unset, .unset] [(.int (2 : Int32)), (.ref b1), (.ref b1)])) _
    refine XS.iconst X5.here hx rfl (hb hby at_14) ?_
    show Steps p.tables e below (T5.setTop (mkF m 15 #[.val (.int p0), .val (.int p1), .val (.int p2), .val (.int p3), .val (.int p4), .val (.int p5), .unset, .unset, .unset, .unset, .unset, .unset, .unset, .unset, .unset, .unset, .unset, .unset, .unset, .unset] [(.int (1 : Int32)), (.int (2 : Int32)), (.ref b1), (.ref b1)])) _
    refine st7 _ ?_
    show Steps p.tables e below (T7.setTop (mkF m 16 #[.val (.int p0), .val (.int p1), .val (.int p2), .val (.int p3), .val (.int p4), .val (.int p5), .unset, .unset, .unset, .unset, .unset, .unset, .unset, .unset, .unset, .unset, .unset, .unset, .unset, .unset] [(.ref b1)])) _
    refine XS.dup X7.here hx rfl (hb hby at_16) rfl rfl ?_
    show Steps p.tables e below (T7.setTop (mkF m 17 #[.val (.int p0), .val (.int p1), .val (.int p2), .val (.int p3), .val (.int p4), .val (.int p5), .unset, .unset, .unset, .unset, .unset, .unset, .unset, .unset, .unset, .unset, .unset, .unset, .unset, .unset] [(.ref b1), (.ref b1)])) _
    refine XS.iconst X7.here hx rfl (hb hby at_17) ?_
    show Steps p.tables e below (T7.setTop (mkF m 18 #[.val (.int p0), .val (.int p1), .val (.int p2), .val (.int p3), .val (.int p4), .val (.int p5), .unset, .unset, .unset, .unset, .unset, .unset, .unset, .unset, .unset, .unset, .unset, .unset, .unset, .unset] [(.int (3 : Int32)), (.ref b1), (.ref b1)])) _
    refine XS.iconst X7.here hx rfl (hb hby at_18) ?_
    show Steps p.tables e below (T7.setTop (mkF m 19 #[.val (.int p0), .val (.int p1), .val (.int p2), .val (.int p3), .val (.int p4), .val (.int p5), .unset, .unset, .unset, .unset, .unset, .unset, .unset, .unset, .unset, .unset, .unset, .unset, .unset, .unset] [(.int (1 : Int32)), (.int (3 : Int32)), (.ref b1), (.ref b1)])) _
    refine st9 _ ?_
    show Steps p.tables e below (T9.setTop (mkF m 20 #[.val (.int p0), .val (.int p1), .val (.int p2), .val (.int p3), .val (.int p4), .val (.int p5), .unset, .unset, .unset, .unset, .unset, .unset, .unset, .unset, .unset, .unset, .unset, .unset, .unset, .unset] [(.ref b1)])) _
    refine XS.dup X9.here hx rfl (hb hby at_20) rfl rfl ?_
    show Steps p.tables e below (T9.setTop (mkF m 21 #[.val (.int p0), .val (.int p1), .val (.int p2), .val (.int p3), .val (.int p4), .val (.int p5), .unset, .unset, .unset, .unset, .unset, .unset, .unset, .unset, .unset, .unset, .unset, .unset, .unset, .unset] [(.ref b1), (.ref b1)])) _
    refine XS.iconst X9.here hx rfl (hb hby at_21) ?_
    show Steps p.tables e below (T9.setTop (mkF m 22 #[.val (.int p0), .val (.int p1), .val (.int p2), .val (.int p3), .val (.int p4), .val (.int p5), .unset, .unset, .unset, .unset, .unset, .unset, .unset, .unset, .unset, .unset, .unset, .unset, .unset, .unset] [(.int (4 : Int32)), (.ref b1), (.ref b1)])) _
    refine XS.iconst X9.here hx rfl (hb hby at_22) ?_
    show Steps p.tables e below (T9.setTop (mkF m 23 #[.val (.int p0), .val (.int p1), .val (.int p2), .val (.int p3), .val (.int p4), .val (.int p5), .unset, .unset, .unset, .unset, .unset, .unset, .unset, .unset, .unset, .unset, .unset, .unset, .unset, .unset] [(.int (1 : Int32)), (.int (4 : Int32)), (.ref b1), (.ref b1)])) _
    refine st11 _ ?_
    show Steps p.tables e below (T11.setTop (mkF m 24 #[.val (.int p0), .val (.int p1), .val (.int p2), .val (.int p3), .val (.int p4), .val (.int p5), .unset, .unset, .unset, .unset, .unset, .unset, .unset, .unset, .unset, .unset, .unset, .unset, .unset, .unset] [(.ref b1)])) _
    refine XS.dup X11.here hx rfl (hb hby at_24) rfl rfl ?_
    show Steps p.tables e below (T11.setTop (mkF m 25 #[.val (.int p0), .val (.int p1), .val (.int p2), .val (.int p3), .val (.int p4), .val (.int p5), .unset, .unset, .unset, .unset, .unset, .unset, .unset, .unset, .unset, .unset, .unset, .unset, .unset, .unset] [(.ref b1), (.ref b1)])) _
    refine XS.iconst X11.here hx rfl (hb hby at_25) ?_
    show Steps p.tables e below (T11.setTop (mkF m 26 #[.val (.int p0), .val (.int p1), .val (.int p2), .val (.int p3), .val (.int p4), .val (.int p5), .unset, .unset, .unset, .unset, .unset, .unset, .unset, .unset, .unset, .unset, .unset, .unset, .unset, .unset] [(.int (5 : Int32)), (.ref b1), (.ref b1)])) _
    refine XS.iconst X11.here hx rfl (hb hby at_26) ?_
    show Steps p.tables e below (T11.setTop (mkF m 27 #[.val (.int p0), .val (.int p1), .val (.int p2), .val (.int p3), .val (.int p4), .val (.int p5), .unset, .unset, .unset, .unset, .unset, .unset, .unset, .unset, .unset, .unset, .unset, .unset, .unset, .unset] [(.int (1 : Int32)), (.int (5 : Int32)), (.ref b1), (.ref b1)])) _
    refine st13 _ ?_
    show Steps p.tables e below (T13.setTop (mkF m 28 #[.val (.int p0), .val (.int p1), .val (.int p2), .val (.int p3), .val (.int p4), .val (.int p5), .unset, .unset, .unset, .unset, .unset, .unset, .unset, .unset, .unset, .unset, .unset, .unset, .unset, .unset] [(.ref b1)])) _
    refine XS.dup X13.here hx rfl (hb hby at_28) rfl rfl ?_
    show Steps p.tables e below (T13.setTop (mkF m 29 #[.val (.int p0), .val (.int p1), .val (.int p2), .val (.int p3), .val (.int p4), .val (.int p5), .unset, .unset, .unset, .unset, .unset, .unset, .unset, .unset, .unset, .unset, .unset, .unset, .unset, .unset] [(.ref b1), (.ref b1)])) _
    refine XS.bipush X13.here hx rfl (hb hby at_29) ?_
    show Steps p.tables e below (T13.setTop (mkF m 31 #[.val (.int p0), .val (.int p1), .val (.int p2), .val (.int p3), .val (.int p4), .val (.int p5), .unset, .unset, .unset, .unset, .unset, .unset, .unset, .unset, .unset, .unset, .unset, .unset, .unset, .unset] [(.int (6 : Int32)), (.ref b1), (.ref b1)])) _
    refine XS.iconst X13.here hx rfl (hb hby at_31) ?_
    show Steps p.tables e below (T13.setTop (mkF m 32 #[.val (.int p0), .val (.int p1), .val (.int p2), .val (.int p3), .val (.int p4), .val (.int p5), .unset, .unset, .unset, .unset, .unset, .unset, .unset, .unset, .unset, .unset, .unset, .unset, .unset, .unset] [(.int (1 : Int32)), (.int (6 : Int32)), (.ref b1), (.ref b1)])) _
    refine st15 _ ?_
    show Steps p.tables e below (T15.setTop (mkF m 33 #[.val (.int p0), .val (.int p1), .val (.int p2), .val (.int p3), .val (.int p4), .val (.int p5), .unset, .unset, .unset, .unset, .unset, .unset, .unset, .unset, .unset, .unset, .unset, .unset, .unset, .unset] [(.ref b1)])) _
    refine XS.dup X15.here hx rfl (hb hby at_33) rfl rfl ?_
    show Steps p.tables e below (T15.setTop (mkF m 34 #[.val (.int p0), .val (.int p1), .val (.int p2), .val (.int p3), .val (.int p4), .val (.int p5), .unset, .unset, .unset, .unset, .unset, .unset, .unset, .unset, .unset, .unset, .unset, .unset, .unset, .unset] [(.ref b1), (.ref b1)])) _
    refine XS.bipush X15.here hx rfl (hb hby at_34) ?_
    show Steps p.tables e below (T15.setTop (mkF m 36 #[.val (.int p0), .val (.int p1), .val (.int p2), .val (.int p3), .val (.int p4), .val (.int p5), .unset, .unset, .unset, .unset, .unset, .unset, .unset, .unset, .unset, .unset, .unset, .unset, .unset, .unset] [(.int (7 : Int32)), (.ref b1), (.ref b1)])) _
    refine XS.iconst X15.here hx rfl (hb hby at_36) ?_
    show Steps p.tables e below (T15.setTop (mkF m 37 #[.val (.int p0), .val (.int p1), .val (.int p2), .val (.int p3), .val (.int p4), .val (.int p5), .unset, .unset, .unset, .unset, .unset, .unset, .unset, .unset, .unset, .unset, .unset, .unset, .unset, .unset] [(.int (1 : Int32)), (.int (7 : Int32)), (.ref b1), (.ref b1)])) _
    refine st17 _ ?_
    show Steps p.tables e below (T17.setTop (mkF m 38 #[.val (.int p0), .val (.int p1), .val (.int p2), .val (.int p3), .val (.int p4), .val (.int p5), .unset, .unset, .unset, .unset, .unset, .unset, .unset, .unset, .unset, .unset, .unset, .unset, .unset, .unset] [(.ref b1)])) _
    refine XS.dup X17.here hx rfl (hb hby at_38) rfl rfl ?_
    show Steps p.tables e below (T17.setTop (mkF m 39 #[.val (.int p0), .val (.int p1), .val (.int p2), .val (.int p3), .val (.int p4), .val (.int p5), .unset, .unset, .unset, .unset, .unset, .unset, .unset, .unset, .unset, .unset, .unset, .unset, .unset, .unset] [(.ref b1), (.ref b1)])) _
    refine XS.bipush X17.here hx rfl (hb hby at_39) ?_
    show Steps p.tables e below (T17.setTop (mkF m 41 #[.val (.int p0), .val (.int p1), .val (.int p2), .val (.int p3), .val (.int p4), .val (.int p5), .unset, .unset, .unset, .unset, .unset, .unset, .unset, .unset, .unset, .unset, .unset, .unset, .unset, .unset] [(.int (8 : Int32)), (.ref b1), (.ref b1)])) _
    refine XS.iconst X17.here hx rfl (hb hby at_41) ?_
    show Steps p.tables e below (T17.setTop (mkF m 42 #[.val (.int p0), .val (.int p1), .val (.int p2), .val (.int p3), .val (.int p4), .val (.int p5), .unset, .unset, .unset, .unset, .unset, .unset, .unset, .unset, .unset, .unset, .unset, .unset, .unset, .unset] [(.int (1 : Int32)), (.int (8 : Int32)), (.ref b1), (.ref b1)])) _
    refine st19 _ ?_
    show Steps p.tables e below (T19.setTop (mkF m 43 #[.val (.int p0), .val (.int p1), .val (.int p2), .val (.int p3), .val (.int p4), .val (.int p5), .unset, .unset, .unset, .unset, .unset, .unset, .unset, .unset, .unset, .unset, .unset, .unset, .unset, .unset] [(.ref b1)])) _
    refine XS.dup X19.here hx rfl (hb hby at_43) rfl rfl ?_
    show Steps p.tables e below (T19.setTop (mkF m 44 #[.val (.int p0), .val (.int p1), .val (.int p2), .val (.int p3), .val (.int p4), .val (.int p5), .unset, .unset, .unset, .unset, .unset, .unset, .unset, .unset, .unset, .unset, .unset, .unset, .unset, .unset] [(.ref b1), (.ref b1)])) _
    refine XS.bipush X19.here hx rfl (hb hby at_44) ?_
    show Steps p.tables e below (T19.setTop (mkF m 46 #[.val (.int p0), .val (.int p1), .val (.int p2), .val (.int p3), .val (.int p4), .val (.int p5), .unset, .unset, .unset, .unset, .unset, .unset, .unset, .unset, .unset, .unset, .unset, .unset, .unset, .unset] [(.int (9 : Int32)), (.ref b1), (.ref b1)])) _
    refine XS.iconst X19.here hx rfl (hb hby at_46) ?_
    show Steps p.tables e below (T19.setTop (mkF m 47 #[.val (.int p0), .val (.int p1), .val (.int p2), .val (.int p3), .val (.int p4), .val (.int p5), .unset, .unset, .unset, .unset, .unset, .unset, .unset, .unset, .unset, .unset, .unset, .unset, .unset, .unset] [(.int (1 : Int32)), (.int (9 : Int32)), (.ref b1), (.ref b1)])) _
    refine st21 _ ?_
    show Steps p.tables e below (T21.setTop (mkF m 48 #[.val (.int p0), .val (.int p1), .val (.int p2), .val (.int p3), .val (.int p4), .val (.int p5), .unset, .unset, .unset, .unset, .unset, .unset, .unset, .unset, .unset, .unset, .unset, .unset, .unset, .unset] [(.ref b1)])) _
    refine XS.dup X21.here hx rfl (hb hby at_48) rfl rfl ?_
    show Steps p.tables e below (T21.setTop (mkF m 49 #[.val (.int p0), .val (.int p1), .val (.int p2), .val (.int p3), .val (.int p4), .val (.int p5), .unset, .unset, .unset, .unset, .unset, .unset, .unset, .unset, .unset, .unset, .unset, .unset, .unset, .unset] [(.ref b1), (.ref b1)])) _
    refine XS.bipush X21.here hx rfl (hb hby at_49) ?_
    show Steps p.tables e below (T21.setTop (mkF m 51 #[.val (.int p0), .val (.int p1), .val (.int p2), .val (.int p3), .val (.int p4), .val (.int p5), .unset, .unset, .unset, .unset, .unset, .unset, .unset, .unset, .unset, .unset, .unset, .unset, .unset, .unset] [(.int (10 : Int32)), (.ref b1), (.ref b1)])) _
    refine XS.iconst X21.here hx rfl (hb hby at_51) ?_
    show Steps p.tables e below (T21.setTop (mkF m 52 #[.val (.int p0), .val (.int p1), .val (.int p2), .val (.int p3), .val (.int p4), .val (.int p5), .unset, .unset, .unset, .unset, .unset, .unset, .unset, .unset, .unset, .unset, .unset, .unset, .unset, .unset] [(.int (1 : Int32)), (.int (10 : Int32)), (.ref b1), (.ref b1)])) _
    refine st23 _ ?_
    show Steps p.tables e below (T23.setTop (mkF m 53 #[.val (.int p0), .val (.int p1), .val (.int p2), .val (.int p3), .val (.int p4), .val (.int p5), .unset, .unset, .unset, .unset, .unset, .unset, .unset, .unset, .unset, .unset, .unset, .unset, .unset, .unset] [(.ref b1)])) _
    refine XS.dup X23.here hx rfl (hb hby at_53) rfl rfl ?_
    show Steps p.tables e below (T23.setTop (mkF m 54 #[.val (.int p0), .val (.int p1), .val (.int p2), .val (.int p3), .val (.int p4), .val (.int p5), .unset, .unset, .unset, .unset, .unset, .unset, .unset, .unset, .unset, .unset, .unset, .unset, .unset, .unset] [(.ref b1), (.ref b1)])) _
    refine XS.bipush X23.here hx rfl (hb hby at_54) ?_
    show Steps p.tables e below (T23.setTop (mkF m 56 #[.val (.int p0), .val (.int p1), .val (.int p2), .val (.int p3), .val (.int p4), .val (.int p5), .unset, .unset, .unset, .unset, .unset, .unset, .unset, .unset, .unset, .unset, .unset, .unset, .unset, .unset] [(.int (11 : Int32)), (.ref b1), (.ref b1)])) _
    refine XS.iconst X23.here hx rfl (hb hby at_56) ?_
    show Steps p.tables e below (T23.setTop (mkF m 57 #[.val (.int p0), .val (.int p1), .val (.int p2), .val (.int p3), .val (.int p4), .val (.int p5), .unset, .unset, .unset, .unset, .unset, .unset, .unset, .unset, .unset, .unset, .unset, .unset, .unset, .unset] [(.int (1 : Int32)), (.int (11 : Int32)), (.ref b1), (.ref b1)])) _
    refine st25 _ ?_
    show Steps p.tables e below (T25.setTop (mkF m 58 #[.val (.int p0), .val (.int p1), .val (.int p2), .val (.int p3), .val (.int p4), .val (.int p5), .unset, .unset, .unset, .unset, .unset, .unset, .unset, .unset, .unset, .unset, .unset, .unset, .unset, .unset] [(.ref b1)])) _
    refine XS.dup X25.here hx rfl (hb hby at_58) rfl rfl ?_
    show Steps p.tables e below (T25.setTop (mkF m 59 #[.val (.int p0), .val (.int p1), .val (.int p2), .val (.int p3), .val (.int p4), .val (.int p5), .unset, .unset, .unset, .unset, .unset, .unset, .unset, .unset, .unset, .unset, .unset, .unset, .unset, .unset] [(.ref b1), (.ref b1)])) _
    refine XS.bipush X25.here hx rfl (hb hby at_59) ?_
    show Steps p.tables e below (T25.setTop (mkF m 61 #[.val (.int p0), .val (.int p1), .val (.int p2), .val (.int p3), .val (.int p4), .val (.int p5), .unset, .unset, .unset, .unset, .unset, .unset, .unset, .unset, .unset, .unset, .unset, .unset, .unset, .unset] [(.int (12 : Int32)), (.ref b1), (.ref b1)])) _
    refine XS.iconst X25.here hx rfl (hb hby at_61) ?_
    show Steps p.tables e below (T25.setTop (mkF m 62 #[.val (.int p0), .val (.int p1), .val (.int p2), .val (.int p3), .val (.int p4), .val (.int p5), .unset, .unset, .unset, .unset, .unset, .unset, .unset, .unset, .unset, .unset, .unset, .unset, .unset, .unset] [(.int (1 : Int32)), (.int (12 : Int32)), (.ref b1), (.ref b1)])) _
    refine st27 _ ?_
    show Steps p.tables e below (T27.setTop (mkF m 63 #[.val (.int p0), .val (.int p1), .val (.int p2), .val (.int p3), .val (.int p4), .val (.int p5), .unset, .unset, .unset, .unset, .unset, .unset, .unset, .unset, .unset, .unset, .unset, .unset, .unset, .unset] [(.ref b1)])) _
    refine XS.dup X27.here hx rfl (hb hby at_63) rfl rfl ?_
    show Steps p.tables e below (T27.setTop (mkF m 64 #[.val (.int p0), .val (.int p1), .val (.int p2), .val (.int p3), .val (.int p4), .val (.int p5), .unset, .unset, .unset, .unset, .unset, .unset, .unset, .unset, .unset, .unset, .unset, .unset, .unset, .unset] [(.ref b1), (.ref b1)])) _
    refine XS.bipush X27.here hx rfl (hb hby at_64) ?_
    show Steps p.tables e below (T27.setTop (mkF m 66 #[.val (.int p0), .val (.int p1), .val (.int p2), .val (.int p3), .val (.int p4), .val (.int p5), .unset, .unset, .unset, .unset, .unset, .unset, .unset, .unset, .unset, .unset, .unset, .unset, .unset, .unset] [(.int (13 : Int32)), (.ref b1), (.ref b1)])) _
    refine XS.iconst X27.here hx rfl (hb hby at_66) ?_
    show Steps p.tables e below (T27.setTop (mkF m 67 #[.val (.int p0), .val (.int p1), .val (.int p2), .val (.int p3), .val (.int p4), .val (.int p5), .unset, .unset, .unset, .unset, .unset, .unset, .unset, .unset, .unset, .unset, .unset, .unset, .unset, .unset] [(.int (1 : Int32)), (.int (13 : Int32)), (.ref b1), (.ref b1)])) _
    refine st29 _ ?_
    show Steps p.tables e below (T29.setTop (mkF m 68 #[.val (.int p0), .val (.int p1), .val (.int p2), .val (.int p3), .val (.int p4), .val (.int p5), .unset, .unset, .unset, .unset, .unset, .unset, .unset, .unset, .unset, .unset, .unset, .unset, .unset, .unset] [(.ref b1)])) _
    refine XS.dup X29.here hx rfl (hb hby at_68) rfl rfl ?_
    show Steps p.tables e below (T29.setTop (mkF m 69 #[.val (.int p0), .val (.int p1), .val (.int p2), .val (.int p3), .val (.int p4), .val (.int p5), .unset, .unset, .unset, .unset, .unset, .unset, .unset, .unset, .unset, .unset, .unset, .unset, .unset, .unset] [(.ref b1), (.ref b1)])) _
    refine XS.bipush X29.here hx rfl (hb hby at_69) ?_
    show Steps p.tables e below (T29.setTop (mkF m 71 #[.val (.int p0), .val (.int p1), .val (.int p2), .val (.int p3), .val (.int p4), .val (.int p5), .unset, .unset, .unset, .unset, .unset, .unset, .unset, .unset, .unset, .unset, .unset, .unset, .unset, .unset] [(.int (14 : Int32)), (.ref b1), (.ref b1)])) _
    refine XS.iconst X29.here hx rfl (hb hby at_71) ?_
    show Steps p.tables e below (T29.setTop (mkF m 72 #[.val (.int p0), .val (.int p1), .val (.int p2), .val (.int p3), .val (.int p4), .val (.int p5), .unset, .unset, .unset, .unset, .unset, .unset, .unset, .unset, .unset, .unset, .unset, .unset, .unset, .unset] [(.int (1 : Int32)), (.int (14 : Int32)), (.ref b1), (.ref b1)])) _
    refine st31 _ ?_
    show Steps p.tables e below (T31.setTop (mkF m 73 #[.val (.int p0), .val (.int p1), .val (.int p2), .val (.int p3), .val (.int p4), .val (.int p5), .unset, .unset, .unset, .unset, .unset, .unset, .unset, .unset, .unset, .unset, .unset, .unset, .unset, .unset] [(.ref b1)])) _
    refine XS.dup X31.here hx rfl (hb hby at_73) rfl rfl ?_
    show Steps p.tables e below (T31.setTop (mkF m 74 #[.val (.int p0), .val (.int p1), .val (.int p2), .val (.int p3), .val (.int p4), .val (.int p5), .unset, .unset, .unset, .unset, .unset, .unset, .unset, .unset, .unset, .unset, .unset, .unset, .unset, .unset] [(.ref b1), (.ref b1)])) _
    refine XS.bipush X31.here hx rfl (hb hby at_74) ?_
    show Steps p.tables e below (T31.setTop (mkF m 76 #[.val (.int p0), .val (.int p1), .val (.int p2), .val (.int p3), .val (.int p4), .val (.int p5), .unset, .unset, .unset, .unset, .unset, .unset, .unset, .unset, .unset, .unset, .unset, .unset, .unset, .unset] [(.int (15 : Int32)), (.ref b1), (.ref b1)])) _
    refine XS.iconst X31.here hx rfl (hb hby at_76) ?_
    show Steps p.tables e below (T31.setTop (mkF m 77 #[.val (.int p0), .val (.int p1), .val (.int p2), .val (.int p3), .val (.int p4), .val (.int p5), .unset, .unset, .unset, .unset, .unset, .unset, .unset, .unset, .unset, .unset, .unset, .unset, .unset, .unset] [(.int (1 : Int32)), (.int (15 : Int32)), (.ref b1), (.ref b1)])) _
    refine st33 _ ?_
    show Steps p.tables e below (T33.setTop (mkF m 78 #[.val (.int p0), .val (.int p1), .val (.int p2), .val (.int p3), .val (.int p4), .val (.int p5), .unset, .unset, .unset, .unset, .unset, .unset, .unset, .unset, .unset, .unset, .unset, .unset, .unset, .unset] [(.ref b1)])) _
    refine XS.dup X33.here hx rfl (hb hby at_78) rfl rfl ?_
    show Steps p.tables e below (T33.setTop (mkF m 79 #[.val (.int p0), .val (.int p1), .val (.int p2), .val (.int p3), .val (.int p4), .val (.int p5), .unset, .unset, .unset, .unset, .unset, .unset, .unset, .unset, .unset, .unset, .unset, .unset, .unset, .unset] [(.ref b1), (.ref b1)])) _
    refine XS.bipush X33.here hx rfl (hb hby at_79) ?_
    show Steps p.tables e below (T33.setTop (mkF m 81 #[.val (.int p0), .val (.int p1), .val (.int p2), .val (.int p3), .val (.int p4), .val (.int p5), .unset, .unset, .unset, .unset, .unset, .unset, .unset, .unset, .unset, .unset, .unset, .unset, .unset, .unset] [(.int (16 : Int32)), (.ref b1), (.ref b1)])) _
    refine XS.iconst X33.here hx rfl (hb hby at_81) ?_
    show Steps p.tables e below (T33.setTop (mkF m 82 #[.val (.int p0), .val (.int p1), .val (.int p2), .val (.int p3), .val (.int p4), .val (.int p5), .unset, .unset, .unset, .unset, .unset, .unset, .unset, .unset, .unset, .unset, .unset, .unset, .unset, .unset] [(.int (1 : Int32)), (.int (16 : Int32)), (.ref b1), (.ref b1)])) _
    refine st35 _ ?_
    show Steps p.tables e below (T35.setTop (mkF m 83 #[.val (.int p0), .val (.int p1), .val (.int p2), .val (.int p3), .val (.int p4), .val (.int p5), .unset, .unset, .unset, .unset, .unset, .unset, .unset, .unset, .unset, .unset, .unset, .unset, .unset, .unset] [(.ref b1)])) _
    refine XS.dup X35.here hx rfl (hb hby at_83) rfl rfl ?_
    show Steps p.tables e below (T35.setTop (mkF m 84 #[.val (.int p0), .val (.int p1), .val (.int p2), .val (.int p3), .val (.int p4), .val (.int p5), .unset, .unset, .unset, .unset, .unset, .unset, .unset, .unset, .unset, .unset, .unset, .unset, .unset, .unset] [(.ref b1), (.ref b1)])) _
    refine XS.bipush X35.here hx rfl (hb hby at_84) ?_
    show Steps p.tables e below (T35.setTop (mkF m 86 #[.val (.int p0), .val (.int p1), .val (.int p2), .val (.int p3), .val (.int p4), .val (.int p5), .unset, .unset, .unset, .unset, .unset, .unset, .unset, .unset, .unset, .unset, .unset, .unset, .unset, .unset] [(.int (17 : Int32)), (.ref b1), (.ref b1)])) _
    refine XS.iconst X35.here hx rfl (hb hby at_86) ?_
    show Steps p.tables e below (T35.setTop (mkF m 87 #[.val (.int p0), .val (.int p1), .val (.int p2), .val (.int p3), .val (.int p4), .val (.int p5), .unset, .unset, .unset, .unset, .unset, .unset, .unset, .unset, .unset, .unset, .unset, .unset, .unset, .unset] [(.int (1 : Int32)), (.int (17 : Int32)), (.ref b1), (.ref b1)])) _
    refine st37 _ ?_
    show Steps p.tables e below (T37.setTop (mkF m 88 #[.val (.int p0), .val (.int p1), .val (.int p2), .val (.int p3), .val (.int p4), .val (.int p5), .unset, .unset, .unset, .unset, .unset, .unset, .unset, .unset, .unset, .unset, .unset, .unset, .unset, .unset] [(.ref b1)])) _
    refine XS.dup X37.here hx rfl (hb hby at_88) rfl rfl ?_
    show Steps p.tables e below (T37.setTop (mkF m 89 #[.val (.int p0), .val (.int p1), .val (.int p2), .val (.int p3), .val (.int p4), .val (.int p5), .unset, .unset, .unset, .unset, .unset, .unset, .unset, .unset, .unset, .unset, .unset, .unset, .unset, .unset] [(.ref b1), (.ref b1)])) _
    refine XS.bipush X37.here hx rfl (hb hby at_89) ?_
    show Steps p.tables e below (T37.setTop (mkF m 91 #[.val (.int p0), .val (.int p1), .val (.int p2), .val (.int p3), .val (.int p4), .val (.int p5), .unset, .unset, .unset, .unset, .unset, .unset, .unset, .unset, .unset, .unset, .unset, .unset, .unset, .unset] [(.int (18 : Int32)), (.ref b1), (.ref b1)])) _
    refine XS.iconst X37.here hx rfl (hb hby at_91) ?_
    show Steps p.tables e below (T37.setTop (mkF m 92 #[.val (.int p0), .val (.int p1), .val (.int p2), .val (.int p3), .val (.int p4), .val (.int p5), .unset, .unset, .unset, .unset, .unset, .unset, .unset, .unset, .unset, .unset, .unset, .unset, .unset, .unset] [(.int (1 : Int32)), (.int (18 : Int32)), (.ref b1), (.ref b1)])) _
    refine st39 _ ?_
    show Steps p.tables e below (T39.setTop (mkF m 93 #[.val (.int p0), .val (.int p1), .val (.int p2), .val (.int p3), .val (.int p4), .val (.int p5), .unset, .unset, .unset, .unset, .unset, .unset, .unset, .unset, .unset, .unset, .unset, .unset, .unset, .unset] [(.ref b1)])) _
    refine XS.dup X39.here hx rfl (hb hby at_93) rfl rfl ?_
    show Steps p.tables e below (T39.setTop (mkF m 94 #[.val (.int p0), .val (.int p1), .val (.int p2), .val (.int p3), .val (.int p4), .val (.int p5), .unset, .unset, .unset, .unset, .unset, .unset, .unset, .unset, .unset, .unset, .unset, .unset, .unset, .unset] [(.ref b1), (.ref b1)])) _
    refine XS.bipush X39.here hx rfl (hb hby at_94) ?_
    show Steps p.tables e below (T39.setTop (mkF m 96 #[.val (.int p0), .val (.int p1), .val (.int p2), .val (.int p3), .val (.int p4), .val (.int p5), .unset, .unset, .unset, .unset, .unset, .unset, .unset, .unset, .unset, .unset, .unset, .unset, .unset, .unset] [(.int (19 : Int32)), (.ref b1), (.ref b1)])) _
    refine XS.iconst X39.here hx rfl (hb hby at_96) ?_
    show Steps p.tables e below (T39.setTop (mkF m 97 #[.val (.int p0), .val (.int p1), .val (.int p2), .val (.int p3), .val (.int p4), .val (.int p5), .unset, .unset, .unset, .unset, .unset, .unset, .unset, .unset, .unset, .unset, .unset, .unset, .unset, .unset] [(.int (1 : Int32)), (.int (19 : Int32)), (.ref b1), (.ref b1)])) _
    refine st41 _ ?_
    show Steps p.tables e below (T41.setTop (mkF m 98 #[.val (.int p0), .val (.int p1), .val (.int p2), .val (.int p3), .val (.int p4), .val (.int p5), .unset, .unset, .unset, .unset, .unset, .unset, .unset, .unset, .unset, .unset, .unset, .unset, .unset, .unset] [(.ref b1)])) _
    refine XS.dup X41.here hx rfl (hb hby at_98) rfl rfl ?_
    show Steps p.tables e below (T41.setTop (mkF m 99 #[.val (.int p0), .val (.int p1), .val (.int p2), .val (.int p3), .val (.int p4), .val (.int p5), .unset, .unset, .unset, .unset, .unset, .unset, .unset, .unset, .unset, .unset, .unset, .unset, .unset, .unset] [(.ref b1), (.ref b1)])) _
    refine XS.bipush X41.here hx rfl (hb hby at_99) ?_
    show Steps p.tables e below (T41.setTop (mkF m 101 #[.val (.int p0), .val (.int p1), .val (.int p2), .val (.int p3), .val (.int p4), .val (.int p5), .unset, .unset, .unset, .unset, .unset, .unset, .unset, .unset, .unset, .unset, .unset, .unset, .unset, .unset] [(.int (20 : Int32)), (.ref b1), (.ref b1)])) _
    refine XS.iconst X41.here hx rfl (hb hby at_101) ?_
    show Steps p.tables e below (T41.setTop (mkF m 102 #[.val (.int p0), .val (.int p1), .val (.int p2), .val (.int p3), .val (.int p4), .val (.int p5), .unset, .unset, .unset, .unset, .unset, .unset, .unset, .unset, .unset, .unset, .unset, .unset, .unset, .unset] [(.int (1 : Int32)), (.int (20 : Int32)), (.ref b1), (.ref b1)])) _
    refine st43 _ ?_
    show Steps p.tables e below (T43.setTop (mkF m 103 #[.val (.int p0), .val (.int p1), .val (.int p2), .val (.int p3), .val (.int p4), .val (.int p5), .unset, .unset, .unset, .unset, .unset, .unset, .unset, .unset, .unset, .unset, .unset, .unset, .unset, .unset] [(.ref b1)])) _
    refine XS.dup X43.here hx rfl (hb hby at_103) rfl rfl ?_
    show Steps p.tables e below (T43.setTop (mkF m 104 #[.val (.int p0), .val (.int p1), .val (.int p2), .val (.int p3), .val (.int p4), .val (.int p5), .unset, .unset, .unset, .unset, .unset, .unset, .unset, .unset, .unset, .unset, .unset, .unset, .unset, .unset] [(.ref b1), (.ref b1)])) _
    refine XS.bipush X43.here hx rfl (hb hby at_104) ?_
    show Steps p.tables e below (T43.setTop (mkF m 106 #[.val (.int p0), .val (.int p1), .val (.int p2), .val (.int p3), .val (.int p4), .val (.int p5), .unset, .unset, .unset, .unset, .unset, .unset, .unset, .unset, .unset, .unset, .unset, .unset, .unset, .unset] [(.int (21 : Int32)), (.ref b1), (.ref b1)])) _
    refine XS.iconst X43.here hx rfl (hb hby at_106) ?_
    show Steps p.tables e below (T43.setTop (mkF m 107 #[.val (.int p0), .val (.int p1), .val (.int p2), .val (.int p3), .val (.int p4), .val (.int p5), .unset, .unset, .unset, .unset, .unset, .unset, .unset, .unset, .unset, .unset, .unset, .unset, .unset, .unset] [(.int (1 : Int32)), (.int (21 : Int32)), (.ref b1), (.ref b1)])) _
    refine st45 _ ?_
    show Steps p.tables e below (T45.setTop (mkF m 108 #[.val (.int p0), .val (.int p1), .val (.int p2), .val (.int p3), .val (.int p4), .val (.int p5), .unset, .unset, .unset, .unset, .unset, .unset, .unset, .unset, .unset, .unset, .unset, .unset, .unset, .unset] [(.ref b1)])) _
    refine XS.dup X45.here hx rfl (hb hby at_108) rfl rfl ?_
    show Steps p.tables e below (T45.setTop (mkF m 109 #[.val (.int p0), .val (.int p1), .val (.int p2), .val (.int p3), .val (.int p4), .val (.int p5), .unset, .unset, .unset, .unset, .unset, .unset, .unset, .unset, .unset, .unset, .unset, .unset, .unset, .unset] [(.ref b1), (.ref b1)])) _
    refine XS.bipush X45.here hx rfl (hb hby at_109) ?_
    show Steps p.tables e below (T45.setTop (mkF m 111 #[.val (.int p0), .val (.int p1), .val (.int p2), .val (.int p3), .val (.int p4), .val (.int p5), .unset, .unset, .unset, .unset, .unset, .unset, .unset, .unset, .unset, .unset, .unset, .unset, .unset, .unset] [(.int (22 : Int32)), (.ref b1), (.ref b1)])) _
    refine XS.iconst X45.here hx rfl (hb hby at_111) ?_
    show Steps p.tables e below (T45.setTop (mkF m 112 #[.val (.int p0), .val (.int p1), .val (.int p2), .val (.int p3), .val (.int p4), .val (.int p5), .unset, .unset, .unset, .unset, .unset, .unset, .unset, .unset, .unset, .unset, .unset, .unset, .unset, .unset] [(.int (1 : Int32)), (.int (22 : Int32)), (.ref b1), (.ref b1)])) _
    refine st47 _ ?_
    show Steps p.tables e below (T47.setTop (mkF m 113 #[.val (.int p0), .val (.int p1), .val (.int p2), .val (.int p3), .val (.int p4), .val (.int p5), .unset, .unset, .unset, .unset, .unset, .unset, .unset, .unset, .unset, .unset, .unset, .unset, .unset, .unset] [(.ref b1)])) _
    refine XS.dup X47.here hx rfl (hb hby at_113) rfl rfl ?_
    show Steps p.tables e below (T47.setTop (mkF m 114 #[.val (.int p0), .val (.int p1), .val (.int p2), .val (.int p3), .val (.int p4), .val (.int p5), .unset, .unset, .unset, .unset, .unset, .unset, .unset, .unset, .unset, .unset, .unset, .unset, .unset, .unset] [(.ref b1), (.ref b1)])) _
    refine XS.bipush X47.here hx rfl (hb hby at_114) ?_
    show Steps p.tables e below (T47.setTop (mkF m 116 #[.val (.int p0), .val (.int p1), .val (.int p2), .val (.int p3), .val (.int p4), .val (.int p5), .unset, .unset, .unset, .unset, .unset, .unset, .unset, .unset, .unset, .unset, .unset, .unset, .unset, .unset] [(.int (23 : Int32)), (.ref b1), (.ref b1)])) _
    refine XS.iconst X47.here hx rfl (hb hby at_116) ?_
    show Steps p.tables e below (T47.setTop (mkF m 117 #[.val (.int p0), .val (.int p1), .val (.int p2), .val (.int p3), .val (.int p4), .val (.int p5), .unset, .unset, .unset, .unset, .unset, .unset, .unset, .unset, .unset, .unset, .unset, .unset, .unset, .unset] [(.int (1 : Int32)), (.int (23 : Int32)), (.ref b1), (.ref b1)])) _
    refine st49 _ ?_
    show Steps p.tables e below (T49.setTop (mkF m 118 #[.val (.int p0), .val (.int p1), .val (.int p2), .val (.int p3), .val (.int p4), .val (.int p5), .unset, .unset, .unset, .unset, .unset, .unset, .unset, .unset, .unset, .unset, .unset, .unset, .unset, .unset] [(.ref b1)])) _
    refine XS.dup X49.here hx rfl (hb hby at_118) rfl rfl ?_
    show Steps p.tables e below (T49.setTop (mkF m 119 #[.val (.int p0), .val (.int p1), .val (.int p2), .val (.int p3), .val (.int p4), .val (.int p5), .unset, .unset, .unset, .unset, .unset, .unset, .unset, .unset, .unset, .unset, .unset, .unset, .unset, .unset] [(.ref b1), (.ref b1)])) _
    refine XS.bipush X49.here hx rfl (hb hby at_119) ?_
    show Steps p.tables e below (T49.setTop (mkF m 121 #[.val (.int p0), .val (.int p1), .val (.int p2), .val (.int p3), .val (.int p4), .val (.int p5), .unset, .unset, .unset, .unset, .unset, .unset, .unset, .unset, .unset, .unset, .unset, .unset, .unset, .unset] [(.int (24 : Int32)), (.ref b1), (.ref b1)])) _
    refine XS.iconst X49.here hx rfl (hb hby at_121) ?_
    show Steps p.tables e below (T49.setTop (mkF m 122 #[.val (.int p0), .val (.int p1), .val (.int p2), .val (.int p3), .val (.int p4), .val (.int p5), .unset, .unset, .unset, .unset, .unset, .unset, .unset, .unset, .unset, .unset, .unset, .unset, .unset, .unset] [(.int (1 : Int32)), (.int (24 : Int32)), (.ref b1), (.ref b1)])) _
    refine st51 _ ?_
    show Steps p.tables e below (T51.setTop (mkF m 123 #[.val (.int p0), .val (.int p1), .val (.int p2), .val (.int p3), .val (.int p4), .val (.int p5), .unset, .unset, .unset, .unset, .unset, .unset, .unset, .unset, .unset, .unset, .unset, .unset, .unset, .unset] [(.ref b1)])) _
    refine XS.dup X51.here hx rfl (hb hby at_123) rfl rfl ?_
    show Steps p.tables e below (T51.setTop (mkF m 124 #[.val (.int p0), .val (.int p1), .val (.int p2), .val (.int p3), .val (.int p4), .val (.int p5), .unset, .unset, .unset, .unset, .unset, .unset, .unset, .unset, .unset, .unset, .unset, .unset, .unset, .unset] [(.ref b1), (.ref b1)])) _
    refine XS.bipush X51.here hx rfl (hb hby at_124) ?_
    show Steps p.tables e below (T51.setTop (mkF m 126 #[.val (.int p0), .val (.int p1), .val (.int p2), .val (.int p3), .val (.int p4), .val (.int p5), .unset, .unset, .unset, .unset, .unset, .unset, .unset, .unset, .unset, .unset, .unset, .unset, .unset, .unset] [(.int (25 : Int32)), (.ref b1), (.ref b1)])) _
    refine XS.iconst X51.here hx rfl (hb hby at_126) ?_
    show Steps p.tables e below (T51.setTop (mkF m 127 #[.val (.int p0), .val (.int p1), .val (.int p2), .val (.int p3), .val (.int p4), .val (.int p5), .unset, .unset, .unset, .unset, .unset, .unset, .unset, .unset, .unset, .unset, .unset, .unset, .unset, .unset] [(.int (1 : Int32)), (.int (25 : Int32)), (.ref b1), (.ref b1)])) _
    refine st53 _ ?_
    show Steps p.tables e below (T53.setTop (mkF m 128 #[.val (.int p0), .val (.int p1), .val (.int p2), .val (.int p3), .val (.int p4), .val (.int p5), .unset, .unset, .unset, .unset, .unset, .unset, .unset, .unset, .unset, .unset, .unset, .unset, .unset, .unset] [(.ref b1)])) _
    refine XS.dup X53.here hx rfl (hb hby at_128) rfl rfl ?_
    show Steps p.tables e below (T53.setTop (mkF m 129 #[.val (.int p0), .val (.int p1), .val (.int p2), .val (.int p3), .val (.int p4), .val (.int p5), .unset, .unset, .unset, .unset, .unset, .unset, .unset, .unset, .unset, .unset, .unset, .unset, .unset, .unset] [(.ref b1), (.ref b1)])) _
    refine XS.bipush X53.here hx rfl (hb hby at_129) ?_
    show Steps p.tables e below (T53.setTop (mkF m 131 #[.val (.int p0), .val (.int p1), .val (.int p2), .val (.int p3), .val (.int p4), .val (.int p5), .unset, .unset, .unset, .unset, .unset, .unset, .unset, .unset, .unset, .unset, .unset, .unset, .unset, .unset] [(.int (26 : Int32)), (.ref b1), (.ref b1)])) _
    refine XS.iconst X53.here hx rfl (hb hby at_131) ?_
    show Steps p.tables e below (T53.setTop (mkF m 132 #[.val (.int p0), .val (.int p1), .val (.int p2), .val (.int p3), .val (.int p4), .val (.int p5), .unset, .unset, .unset, .unset, .unset, .unset, .unset, .unset, .unset, .unset, .unset, .unset, .unset, .unset] [(.int (1 : Int32)), (.int (26 : Int32)), (.ref b1), (.ref b1)])) _
    refine st55 _ ?_
    show Steps p.tables e below (T55.setTop (mkF m 133 #[.val (.int p0), .val (.int p1), .val (.int p2), .val (.int p3), .val (.int p4), .val (.int p5), .unset, .unset, .unset, .unset, .unset, .unset, .unset, .unset, .unset, .unset, .unset, .unset, .unset, .unset] [(.ref b1)])) _
    refine XS.dup X55.here hx rfl (hb hby at_133) rfl rfl ?_
    show Steps p.tables e below (T55.setTop (mkF m 134 #[.val (.int p0), .val (.int p1), .val (.int p2), .val (.int p3), .val (.int p4), .val (.int p5), .unset, .unset, .unset, .unset, .unset, .unset, .unset, .unset, .unset, .unset, .unset, .unset, .unset, .unset] [(.ref b1), (.ref b1)])) _
    refine XS.bipush X55.here hx rfl (hb hby at_134) ?_
    show Steps p.tables e below (T55.setTop (mkF m 136 #[.val (.int p0), .val (.int p1), .val (.int p2), .val (.int p3), .val (.int p4), .val (.int p5), .unset, .unset, .unset, .unset, .unset, .unset, .unset, .unset, .unset, .unset, .unset, .unset, .unset, .unset] [(.int (27 : Int32)), (.ref b1), (.ref b1)])) _
    refine XS.iconst X55.here hx rfl (hb hby at_136) ?_
    show Steps p.tables e below (T55.setTop (mkF m 137 #[.val (.int p0), .val (.int p1), .val (.int p2), .val (.int p3), .val (.int p4), .val (.int p5), .unset, .unset, .unset, .unset, .unset, .unset, .unset, .unset, .unset, .unset, .unset, .unset, .unset, .unset] [(.int (1 : Int32)), (.int (27 : Int32)), (.ref b1), (.ref b1)])) _
    refine st57 _ ?_
    show Steps p.tables e below (T57.setTop (mkF m 138 #[.val (.int p0), .val (.int p1), .val (.int p2), .val (.int p3), .val (.int p4), .val (.int p5), .unset, .unset, .unset, .unset, .unset, .unset, .unset, .unset, .unset, .unset, .unset, .unset, .unset, .unset] [(.ref b1)])) _
    refine XS.dup X57.here hx rfl (hb hby at_138) rfl rfl ?_
    show Steps p.tables e below (T57.setTop (mkF m 139 #[.val (.int p0), .val (.int p1), .val (.int p2), .val (.int p3), .val (.int p4), .val (.int p5), .unset, .unset, .unset, .unset, .unset, .unset, .unset, .unset, .unset, .unset, .unset, .unset, .unset, .unset] [(.ref b1), (.ref b1)])) _
    refine XS.bipush X57.here hx rfl (hb hby at_139) ?_
    show Steps p.tables e below (T57.setTop (mkF m 141 #[.val (.int p0), .val (.int p1), .val (.int p2), .val (.int p3), .val (.int p4), .val (.int p5), .unset, .unset, .unset, .unset, .unset, .unset, .unset, .unset, .unset, .unset, .unset, .unset, .unset, .unset] [(.int (28 : Int32)), (.ref b1), (.ref b1)])) _
    refine XS.iconst X57.here hx rfl (hb hby at_141) ?_
    show Steps p.tables e below (T57.setTop (mkF m 142 #[.val (.int p0), .val (.int p1), .val (.int p2), .val (.int p3), .val (.int p4), .val (.int p5), .unset, .unset, .unset, .unset, .unset, .unset, .unset, .unset, .unset, .unset, .unset, .unset, .unset, .unset] [(.int (1 : Int32)), (.int (28 : Int32)), (.ref b1), (.ref b1)])) _
    refine st59 _ ?_
    show Steps p.tables e below (T59.setTop (mkF m 143 #[.val (.int p0), .val (.int p1), .val (.int p2), .val (.int p3), .val (.int p4), .val (.int p5), .unset, .unset, .unset, .unset, .unset, .unset, .unset, .unset, .unset, .unset, .unset, .unset, .unset, .unset] [(.ref b1)])) _
    refine XS.dup X59.here hx rfl (hb hby at_143) rfl rfl ?_
    show Steps p.tables e below (T59.setTop (mkF m 144 #[.val (.int p0), .val (.int p1), .val (.int p2), .val (.int p3), .val (.int p4), .val (.int p5), .unset, .unset, .unset, .unset, .unset, .unset, .unset, .unset, .unset, .unset, .unset, .unset, .unset, .unset] [(.ref b1), (.ref b1)])) _
    refine XS.bipush X59.here hx rfl (hb hby at_144) ?_
    show Steps p.tables e below (T59.setTop (mkF m 146 #[.val (.int p0), .val (.int p1), .val (.int p2), .val (.int p3), .val (.int p4), .val (.int p5), .unset, .unset, .unset, .unset, .unset, .unset, .unset, .unset, .unset, .unset, .unset, .unset, .unset, .unset] [(.int (29 : Int32)), (.ref b1), (.ref b1)])) _
    refine XS.iconst X59.here hx rfl (hb hby at_146) ?_
    show Steps p.tables e below (T59.setTop (mkF m 147 #[.val (.int p0), .val (.int p1), .val (.int p2), .val (.int p3), .val (.int p4), .val (.int p5), .unset, .unset, .unset, .unset, .unset, .unset, .unset, .unset, .unset, .unset, .unset, .unset, .unset, .unset] [(.int (1 : Int32)), (.int (29 : Int32)), (.ref b1), (.ref b1)])) _
    refine st61 _ ?_
    show Steps p.tables e below (T61.setTop (mkF m 148 #[.val (.int p0), .val (.int p1), .val (.int p2), .val (.int p3), .val (.int p4), .val (.int p5), .unset, .unset, .unset, .unset, .unset, .unset, .unset, .unset, .unset, .unset, .unset, .unset, .unset, .unset] [(.ref b1)])) _
    refine XS.dup X61.here hx rfl (hb hby at_148) rfl rfl ?_
    show Steps p.tables e below (T61.setTop (mkF m 149 #[.val (.int p0), .val (.int p1), .val (.int p2), .val (.int p3), .val (.int p4), .val (.int p5), .unset, .unset, .unset, .unset, .unset, .unset, .unset, .unset, .unset, .unset, .unset, .unset, .unset, .unset] [(.ref b1), (.ref b1)])) _
    refine XS.bipush X61.here hx rfl (hb hby at_149) ?_
    show Steps p.tables e below (T61.setTop (mkF m 151 #[.val (.int p0), .val (.int p1), .val (.int p2), .val (.int p3), .val (.int p4), .val (.int p5), .unset, .unset, .unset, .unset, .unset, .unset, .unset, .unset, .unset, .unset, .unset, .unset, .unset, .unset] [(.int (30 : Int32)), (.ref b1), (.ref b1)])) _
    refine XS.iconst X61.here hx rfl (hb hby at_151) ?_
    show Steps p.tables e below (T61.setTop (mkF m 152 #[.val (.int p0), .val (.int p1), .val (.int p2), .val (.int p3), .val (.int p4), .val (.int p5), .unset, .unset, .unset, .unset, .unset, .unset, .unset, .unset, .unset, .unset, .unset, .unset, .unset, .unset] [(.int (1 : Int32)), (.int (30 : Int32)), (.ref b1), (.ref b1)])) _
    refine st63 _ ?_
    show Steps p.tables e below (T63.setTop (mkF m 153 #[.val (.int p0), .val (.int p1), .val (.int p2), .val (.int p3), .val (.int p4), .val (.int p5), .unset, .unset, .unset, .unset, .unset, .unset, .unset, .unset, .unset, .unset, .unset, .unset, .unset, .unset] [(.ref b1)])) _
    refine XS.dup X63.here hx rfl (hb hby at_153) rfl rfl ?_
    show Steps p.tables e below (T63.setTop (mkF m 154 #[.val (.int p0), .val (.int p1), .val (.int p2), .val (.int p3), .val (.int p4), .val (.int p5), .unset, .unset, .unset, .unset, .unset, .unset, .unset, .unset, .unset, .unset, .unset, .unset, .unset, .unset] [(.ref b1), (.ref b1)])) _
    refine XS.bipush X63.here hx rfl (hb hby at_154) ?_
    show Steps p.tables e below (T63.setTop (mkF m 156 #[.val (.int p0), .val (.int p1), .val (.int p2), .val (.int p3), .val (.int p4), .val (.int p5), .unset, .unset, .unset, .unset, .unset, .unset, .unset, .unset, .unset, .unset, .unset, .unset, .unset, .unset] [(.int (31 : Int32)), (.ref b1), (.ref b1)])) _
    refine XS.iconst X63.here hx rfl (hb hby at_156) ?_
    show Steps p.tables e below (T63.setTop (mkF m 157 #[.val (.int p0), .val (.int p1), .val (.int p2), .val (.int p3), .val (.int p4), .val (.int p5), .unset, .unset, .unset, .unset, .unset, .unset, .unset, .unset, .unset, .unset, .unset, .unset, .unset, .unset] [(.int (1 : Int32)), (.int (31 : Int32)), (.ref b1), (.ref b1)])) _
    refine st65 _ ?_
    show Steps p.tables e below (T65.setTop (mkF m 158 #[.val (.int p0), .val (.int p1), .val (.int p2), .val (.int p3), .val (.int p4), .val (.int p5), .unset, .unset, .unset, .unset, .unset, .unset, .unset, .unset, .unset, .unset, .unset, .unset, .unset, .unset] [(.ref b1)])) _
    refine XS.astore X65.here hx rfl (hb hby at_158) rfl rfl (l' := #[.val (.int p0), .val (.int p1), .val (.int p2), .val (.int p3), .val (.int p4), .val (.int p5), .val (.ref b1), .unset, .unset, .unset, .unset, .unset, .unset, .unset, .unset, .unset, .unset, .unset, .unset, .unset]) rfl ?_
    show Steps p.tables e below (T65.setTop (mkF m 160 #[.val (.int p0), .val (.int p1), .val (.int p2), .val (.int p3), .val (.int p4), .val (.int p5), .val (.ref b1), .unset, .unset, .unset, .unset, .unset, .unset, .unset, .unset, .unset, .unset, .unset, .unset, .unset] [])) _
    refine XS.bipush X65.here hx rfl (hb hby at_160) ?_
    show Steps p.tables e below (T65.setTop (mkF m 162 #[.val (.int p0), .val (.int p1), .val (.int p2), .val (.int p3), .val (.int p4), .val (.int p5), .val (.ref b1), .unset, .unset, .unset, .unset, .unset, .unset, .unset, .unset, .unset, .unset, .unset, .unset, .unset] [(.int (32 : Int32))])) _
    refine st66 _ ?_
    show Steps p.tables e below (T66.setTop (mkF m 164 #[.val (.int p0), .val (.int p1), .val (.int p2), .val (.int p3), .val (.int p4), .val (.int p5), .val (.ref b1), .unset, .unset, .unset, .unset, .unset, .unset, .unset, .unset, .unset, .unset, .unset, .unset, .unset] [(.ref b66)])) _
    refine XS.dup X66.here hx rfl (hb hby at_164) rfl rfl ?_
    show Steps p.tables e below (T66.setTop (mkF m 165 #[.val (.int p0), .val (.int p1), .val (.int p2), .val (.int p3), .val (.int p4), .val (.int p5), .val (.ref b1), .unset, .unset, .unset, .unset, .unset, .unset, .unset, .unset, .unset, .unset, .unset, .unset, .unset] [(.ref b66), (.ref b66)])) _
    refine XS.iconst X66.here hx rfl (hb hby at_165) ?_
    show Steps p.tables e below (T66.setTop (mkF m 166 #[.val (.int p0), .val (.int p1), .val (.int p2), .val (.int p3), .val (.int p4), .val (.int p5), .val (.ref b1), .unset, .unset, .unset, .unset, .unset, .unset, .unset, .unset, .unset, .unset, .unset, .unset, .unset] [(.int (0 : Int32)), (.ref b66), (.ref b66)])) _
    refine XS.iconst X66.here hx rfl (hb hby at_166) ?_
    show Steps p.tables e below (T66.setTop (mkF m 167 #[.val (.int p0), .val (.int p1), .val (.int p2), .val (.int p3), .val (.int p4), .val (.int p5), .val (.ref b1), .unset, .unset, .unset, .unset, .unset, .unset, .unset, .unset, .unset, .unset, .unset, .unset, .unset] [(.int (2 : Int32)), (.int (0 : Int32)), (.ref b66), (.ref b66)])) _
    refine st68 _ ?_
    show Steps p.tables e below (T68.setTop (mkF m 168 #[.val (.int p0), .val (.int p1), .val (.int p2), .val (.int p3), .val (.int p4), .val (.int p5), .val (.ref b1), .unset, .unset, .unset, .unset, .unset, .unset, .unset, .unset, .unset, .unset, .unset, .unset, .unset] [(.ref b66)])) _
    refine XS.dup X68.here hx rfl (hb hby at_168) rfl rfl ?_
    show Steps p.tables e below (T68.setTop (mkF m 169 #[.val (.int p0), .val (.int p1), .val (.int p2), .val (.int p3), .val (.int p4), .val (.int p5), .val (.ref b1), .unset, .unset, .unset, .unset, .unset, .unset, .unset, .unset, .unset, .unset, .unset, .unset, .unset] [(.ref b66), (.ref b66)])) _
    refine XS.iconst X68.here hx rfl (hb hby at_169) ?_
    show Steps p.tables e below (T68.setTop (mkF m 170 #[.val (.int p0), .val (.int p1), .val (.int p2), .val (.int p3), .val (.int p4), .val (.int p5), .val (.ref b1), .unset, .unset, .unset, .unset, .unset, .unset, .unset, .unset, .unset, .unset, .unset, .unset, .unset] [(.int (1 : Int32)), (.ref b66), (.ref b66)])) _
    refine XS.iconst X68.here hx rfl (hb hby at_170) ?_
    show Steps p.tables e below (T68.setTop (mkF m 171 #[.val (.int p0), .val (.int p1), .val (.int p2), .val (.int p3), .val (.int p4), .val (.int p5), .val (.ref b1), .unset, .unset, .unset, .unset, .unset, .unset, .unset, .unset, .unset, .unset, .unset, .unset, .unset] [(.int (2 : Int32)), (.int (1 : Int32)), (.ref b66), (.ref b66)])) _
    refine st70 _ ?_
    show Steps p.tables e below (T70.setTop (mkF m 172 #[.val (.int p0), .val (.int p1), .val (.int p2), .val (.int p3), .val (.int p4), .val (.int p5), .val (.ref b1), .unset, .unset, .unset, .unset, .unset, .unset, .unset, .unset, .unset, .unset, .unset, .unset, .unset] [(.ref b66)])) _
    refine XS.dup X70.here hx rfl (hb hby at_172) rfl rfl ?_
    show Steps p.tables e below (T70.setTop (mkF m 173 #[.val (.int p0), .val (.int p1), .val (.int p2), .val (.int p3), .val (.int p4), .val (.int p5), .val (.ref b1), .unset, .unset, .unset, .unset, .unset, .unset, .unset, .unset, .unset, .unset, .unset, .unset, .unset] [(.ref b66), (.ref b66)])) _
    refine XS.iconst X70.here hx rfl (hb hby at_173) ?_
    show Steps p.tables e below (T70.setTop (mkF m 174 #[.val (.int p0), .val (.int p1), .val (.int p2), .val (.int p3), .val (.int p4), .val (.int p5), .val (.ref b1), .unset, .unset, .unset, .unset, .unset, .unset, .unset, .unset, .unset, .unset, .unset, .unset, .unset] [(.int (2 : Int32)), (.ref b66), (.ref b66)])) _
    refine XS.iconst X70.here hx rfl (hb hby at_174) ?_
    show Steps p.tables e below (T70.setTop (mkF m 175 #[.val (.int p0), .val (.int p1), .val (.int p2), .val (.int p3), .val (.int p4), .val (.int p5), .val (.ref b1), .unset, .unset, .unset, .unset, .unset, .unset, .unset, .unset, .unset, .unset, .unset, .unset, .unset] [(.int (2 : Int32)), (.int (2 : Int32)), (.ref b66), (.ref b66)])) _
    refine st72 _ ?_
    show Steps p.tables e below (T72.setTop (mkF m 176 #[.val (.int p0), .val (.int p1), .val (.int p2), .val (.int p3), .val (.int p4), .val (.int p5), .val (.ref b1), .unset, .unset, .unset, .unset, .unset, .unset, .unset, .unset, .unset, .unset, .unset, .unset, .unset] [(.ref b66)])) _
    refine XS.dup X72.here hx rfl (hb hby at_176) rfl rfl ?_
    show Steps p.tables e below (T72.setTop (mkF m 177 #[.val (.int p0), .val (.int p1), .val (.int p2), .val (.int p3), .val (.int p4), .val (.int p5), .val (.ref b1), .unset, .unset, .unset, .unset, .unset, .unset, .unset, .unset, .unset, .unset, .unset, .unset, .unset] [(.ref b66), (.ref b66)])) _
    refine XS.iconst X72.here hx rfl (hb hby at_177) ?_
    show Steps p.tables e below (T72.setTop (mkF m 178 #[.val (.int p0), .val (.int p1), .val (.int p2), .val (.int p3), .val (.int p4), .val (.int p5), .val (.ref b1), .unset, .unset, .unset, .unset, .unset, .unset, .unset, .unset, .unset, .unset, .unset, .unset, .unset] [(.int (3 : Int32)), (.ref b66), (.ref b66)])) _
    refine XS.iconst X72.here hx rfl (hb hby at_178) ?_
    show Steps p.tables e below (T72.setTop (mkF m 179 #[.val (.int p0), .val (.int p1), .val (.int p2), .val (.int p3), .val (.int p4), .val (.int p5), .val (.ref b1), .unset, .unset, .unset, .unset, .unset, .unset, .unset, .unset, .unset, .unset, .unset, .unset, .unset] [(.int (2 : Int32)), (.int (3 : Int32)), (.ref b66), (.ref b66)])) _
    refine st74 _ ?_
    show Steps p.tables e below (T74.setTop (mkF m 180 #[.val (.int p0), .val (.int p1), .val (.int p2), .val (.int p3), .val (.int p4), .val (.int p5), .val (.ref b1), .unset, .unset, .unset, .unset, .unset, .unset, .unset, .unset, .unset, .unset, .unset, .unset, .unset] [(.ref b66)])) _
    refine XS.dup X74.here hx rfl (hb hby at_180) rfl rfl ?_
    show Steps p.tables e below (T74.setTop (mkF m 181 #[.val (.int p0), .val (.int p1), .val (.int p2), .val (.int p3), .val (.int p4), .val (.int p5), .val (.ref b1), .unset, .unset, .unset, .unset, .unset, .unset, .unset, .unset, .unset, .unset, .unset, .unset, .unset] [(.ref b66), (.ref b66)])) _
    refine XS.iconst X74.here hx rfl (hb hby at_181) ?_
    show Steps p.tables e below (T74.setTop (mkF m 182 #[.val (.int p0), .val (.int p1), .val (.int p2), .val (.int p3), .val (.int p4), .val (.int p5), .val (.ref b1), .unset, .unset, .unset, .unset, .unset, .unset, .unset, .unset, .unset, .unset, .unset, .unset, .unset] [(.int (4 : Int32)), (.ref b66), (.ref b66)])) _
    refine XS.iconst X74.here hx rfl (hb hby at_182) ?_
    show Steps p.tables e below (T74.setTop (mkF m 183 #[.val (.int p0), .val (.int p1), .val (.int p2), .val (.int p3), .val (.int p4), .val (.int p5), .val (.ref b1), .unset, .unset, .unset, .unset, .unset, .unset, .unset, .unset, .unset, .unset, .unset, .unset, .unset] [(.int (2 : Int32)), (.int (4 : Int32)), (.ref b66), (.ref b66)])) _
    refine st76 _ ?_
    show Steps p.tables e below (T76.setTop (mkF m 184 #[.val (.int p0), .val (.int p1), .val (.int p2), .val (.int p3), .val (.int p4), .val (.int p5), .val (.ref b1), .unset, .unset, .unset, .unset, .unset, .unset, .unset, .unset, .unset, .unset, .unset, .unset, .unset] [(.ref b66)])) _
    refine XS.dup X76.here hx rfl (hb hby at_184) rfl rfl ?_
    show Steps p.tables e below (T76.setTop (mkF m 185 #[.val (.int p0), .val (.int p1), .val (.int p2), .val (.int p3), .val (.int p4), .val (.int p5), .val (.ref b1), .unset, .unset, .unset, .unset, .unset, .unset, .unset, .unset, .unset, .unset, .unset, .unset, .unset] [(.ref b66), (.ref b66)])) _
    refine XS.iconst X76.here hx rfl (hb hby at_185) ?_
    show Steps p.tables e below (T76.setTop (mkF m 186 #[.val (.int p0), .val (.int p1), .val (.int p2), .val (.int p3), .val (.int p4), .val (.int p5), .val (.ref b1), .unset, .unset, .unset, .unset, .unset, .unset, .unset, .unset, .unset, .unset, .unset, .unset, .unset] [(.int (5 : Int32)), (.ref b66), (.ref b66)])) _
    refine XS.iconst X76.here hx rfl (hb hby at_186) ?_
    show Steps p.tables e below (T76.setTop (mkF m 187 #[.val (.int p0), .val (.int p1), .val (.int p2), .val (.int p3), .val (.int p4), .val (.int p5), .val (.ref b1), .unset, .unset, .unset, .unset, .unset, .unset, .unset, .unset, .unset, .unset, .unset, .unset, .unset] [(.int (2 : Int32)), (.int (5 : Int32)), (.ref b66), (.ref b66)])) _
    refine st78 _ ?_
    show Steps p.tables e below (T78.setTop (mkF m 188 #[.val (.int p0), .val (.int p1), .val (.int p2), .val (.int p3), .val (.int p4), .val (.int p5), .val (.ref b1), .unset, .unset, .unset, .unset, .unset, .unset, .unset, .unset, .unset, .unset, .unset, .unset, .unset] [(.ref b66)])) _
    refine XS.dup X78.here hx rfl (hb hby at_188) rfl rfl ?_
    show Steps p.tables e below (T78.setTop (mkF m 189 #[.val (.int p0), .val (.int p1), .val (.int p2), .val (.int p3), .val (.int p4), .val (.int p5), .val (.ref b1), .unset, .unset, .unset, .unset, .unset, .unset, .unset, .unset, .unset, .unset, .unset, .unset, .unset] [(.ref b66), (.ref b66)])) _
    refine XS.bipush X78.here hx rfl (hb hby at_189) ?_
    show Steps p.tables e below (T78.setTop (mkF m 191 #[.val (.int p0), .val (.int p1), .val (.int p2), .val (.int p3), .val (.int p4), .val (.int p5), .val (.ref b1), .unset, .unset, .unset, .unset, .unset, .unset, .unset, .unset, .unset, .unset, .unset, .unset, .unset] [(.int (6 : Int32)), (.ref b66), (.ref b66)])) _
    refine XS.iconst X78.here hx rfl (hb hby at_191) ?_
    show Steps p.tables e below (T78.setTop (mkF m 192 #[.val (.int p0), .val (.int p1), .val (.int p2), .val (.int p3), .val (.int p4), .val (.int p5), .val (.ref b1), .unset, .unset, .unset, .unset, .unset, .unset, .unset, .unset, .unset, .unset, .unset, .unset, .unset] [(.int (2 : Int32)), (.int (6 : Int32)), (.ref b66), (.ref b66)])) _
    refine st80 _ ?_
    show Steps p.tables e below (T80.setTop (mkF m 193 #[.val (.int p0), .val (.int p1), .val (.int p2), .val (.int p3), .val (.int p4), .val (.int p5), .val (.ref b1), .unset, .unset, .unset, .unset, .unset, .unset, .unset, .unset, .unset, .unset, .unset, .unset, .unset] [(.ref b66)])) _
    refine XS.dup X80.here hx rfl (hb hby at_193) rfl rfl ?_
    show Steps p.tables e below (T80.setTop (mkF m 194 #[.val (.int p0), .val (.int p1), .val (.int p2), .val (.int p3), .val (.int p4), .val (.int p5), .val (.ref b1), .unset, .unset, .unset, .unset, .unset, .unset, .unset, .unset, .unset, .unset, .unset, .unset, .unset] [(.ref b66), (.ref b66)])) _
    refine XS.bipush X80.here hx rfl (hb hby at_194) ?_
    show Steps p.tables e below (T80.setTop (mkF m 196 #[.val (.int p0), .val (.int p1), .val (.int p2), .val (.int p3), .val (.int p4), .val (.int p5), .val (.ref b1), .unset, .unset, .unset, .unset, .unset, .unset, .unset, .unset, .unset, .unset, .unset, .unset, .unset] [(.int (7 : Int32)), (.ref b66), (.ref b66)])) _
    refine XS.iconst X80.here hx rfl (hb hby at_196) ?_
    show Steps p.tables e below (T80.setTop (mkF m 197 #[.val (.int p0), .val (.int p1), .val (.int p2), .val (.int p3), .val (.int p4), .val (.int p5), .val (.ref b1), .unset, .unset, .unset, .unset, .unset, .unset, .unset, .unset, .unset, .unset, .unset, .unset, .unset] [(.int (2 : Int32)), (.int (7 : Int32)), (.ref b66), (.ref b66)])) _
    refine st82 _ ?_
    show Steps p.tables e below (T82.setTop (mkF m 198 #[.val (.int p0), .val (.int p1), .val (.int p2), .val (.int p3), .val (.int p4), .val (.int p5), .val (.ref b1), .unset, .unset, .unset, .unset, .unset, .unset, .unset, .unset, .unset, .unset, .unset, .unset, .unset] [(.ref b66)])) _
    refine XS.dup X82.here hx rfl (hb hby at_198) rfl rfl ?_
    show Steps p.tables e below (T82.setTop (mkF m 199 #[.val (.int p0), .val (.int p1), .val (.int p2), .val (.int p3), .val (.int p4), .val (.int p5), .val (.ref b1), .unset, .unset, .unset, .unset, .unset, .unset, .unset, .unset, .unset, .unset, .unset, .unset, .unset] [(.ref b66), (.ref b66)])) _
    refine XS.bipush X82.here hx rfl (hb hby at_199) ?_
    show Steps p.tables e below (T82.setTop (mkF m 201 #[.val (.int p0), .val (.int p1), .val (.int p2), .val (.int p3), .val (.int p4), .val (.int p5), .val (.ref b1), .unset, .unset, .unset, .unset, .unset, .unset, .unset, .unset, .unset, .unset, .unset, .unset, .unset] [(.int (8 : Int32)), (.ref b66), (.ref b66)])) _
    refine XS.iconst X82.here hx rfl (hb hby at_201) ?_
    show Steps p.tables e below (T82.setTop (mkF m 202 #[.val (.int p0), .val (.int p1), .val (.int p2), .val (.int p3), .val (.int p4), .val (.int p5), .val (.ref b1), .unset, .unset, .unset, .unset, .unset, .unset, .unset, .unset, .unset, .unset, .unset, .unset, .unset] [(.int (2 : Int32)), (.int (8 : Int32)), (.ref b66), (.ref b66)])) _
    refine st84 _ ?_
    show Steps p.tables e below (T84.setTop (mkF m 203 #[.val (.int p0), .val (.int p1), .val (.int p2), .val (.int p3), .val (.int p4), .val (.int p5), .val (.ref b1), .unset, .unset, .unset, .unset, .unset, .unset, .unset, .unset, .unset, .unset, .unset, .unset, .unset] [(.ref b66)])) _
    refine XS.dup X84.here hx rfl (hb hby at_203) rfl rfl ?_
    show Steps p.tables e below (T84.setTop (mkF m 204 #[.val (.int p0), .val (.int p1), .val (.int p2), .val (.int p3), .val (.int p4), .val (.int p5), .val (.ref b1), .unset, .unset, .unset, .unset, .unset, .unset, .unset, .unset, .unset, .unset, .unset, .unset, .unset] [(.ref b66), (.ref b66)])) _
    refine XS.bipush X84.here hx rfl (hb hby at_204) ?_
    show Steps p.tables e below (T84.setTop (mkF m 206 #[.val (.int p0), .val (.int p1), .val (.int p2), .val (.int p3), .val (.int p4), .val (.int p5), .val (.ref b1), .unset, .unset, .unset, .unset, .unset, .unset, .unset, .unset, .unset, .unset, .unset, .unset, .unset] [(.int (9 : Int32)), (.ref b66), (.ref b66)])) _
    refine XS.iconst X84.here hx rfl (hb hby at_206) ?_
    show Steps p.tables e below (T84.setTop (mkF m 207 #[.val (.int p0), .val (.int p1), .val (.int p2), .val (.int p3), .val (.int p4), .val (.int p5), .val (.ref b1), .unset, .unset, .unset, .unset, .unset, .unset, .unset, .unset, .unset, .unset, .unset, .unset, .unset] [(.int (2 : Int32)), (.int (9 : Int32)), (.ref b66), (.ref b66)])) _
    refine st86 _ ?_
    show Steps p.tables e below (T86.setTop (mkF m 208 #[.val (.int p0), .val (.int p1), .val (.int p2), .val (.int p3), .val (.int p4), .val (.int p5), .val (.ref b1), .unset, .unset, .unset, .unset, .unset, .unset, .unset, .unset, .unset, .unset, .unset, .unset, .unset] [(.ref b66)])) _
    refine XS.dup X86.here hx rfl (hb hby at_208) rfl rfl ?_
    show Steps p.tables e below (T86.setTop (mkF m 209 #[.val (.int p0), .val (.int p1), .val (.int p2), .val (.int p3), .val (.int p4), .val (.int p5), .val (.ref b1), .unset, .unset, .unset, .unset, .unset, .unset, .unset, .unset, .unset, .unset, .unset, .unset, .unset] [(.ref b66), (.ref b66)])) _
    refine XS.bipush X86.here hx rfl (hb hby at_209) ?_
    show Steps p.tables e below (T86.setTop (mkF m 211 #[.val (.int p0), .val (.int p1), .val (.int p2), .val (.int p3), .val (.int p4), .val (.int p5), .val (.ref b1), .unset, .unset, .unset, .unset, .unset, .unset, .unset, .unset, .unset, .unset, .unset, .unset, .unset] [(.int (10 : Int32)), (.ref b66), (.ref b66)])) _
    refine XS.iconst X86.here hx rfl (hb hby at_211) ?_
    show Steps p.tables e below (T86.setTop (mkF m 212 #[.val (.int p0), .val (.int p1), .val (.int p2), .val (.int p3), .val (.int p4), .val (.int p5), .val (.ref b1), .unset, .unset, .unset, .unset, .unset, .unset, .unset, .unset, .unset, .unset, .unset, .unset, .unset] [(.int (2 : Int32)), (.int (10 : Int32)), (.ref b66), (.ref b66)])) _
    refine st88 _ ?_
    show Steps p.tables e below (T88.setTop (mkF m 213 #[.val (.int p0), .val (.int p1), .val (.int p2), .val (.int p3), .val (.int p4), .val (.int p5), .val (.ref b1), .unset, .unset, .unset, .unset, .unset, .unset, .unset, .unset, .unset, .unset, .unset, .unset, .unset] [(.ref b66)])) _
    refine XS.dup X88.here hx rfl (hb hby at_213) rfl rfl ?_
    show Steps p.tables e below (T88.setTop (mkF m 214 #[.val (.int p0), .val (.int p1), .val (.int p2), .val (.int p3), .val (.int p4), .val (.int p5), .val (.ref b1), .unset, .unset, .unset, .unset, .unset, .unset, .unset, .unset, .unset, .unset, .unset, .unset, .unset] [(.ref b66), (.ref b66)])) _
    refine XS.bipush X88.here hx rfl (hb hby at_214) ?_
    show Steps p.tables e below (T88.setTop (mkF m 216 #[.val (.int p0), .val (.int p1), .val (.int p2), .val (.int p3), .val (.int p4), .val (.int p5), .val (.ref b1), .unset, .unset, .unset, .unset, .unset, .unset, .unset, .unset, .unset, .unset, .unset, .unset, .unset] [(.int (11 : Int32)), (.ref b66), (.ref b66)])) _
    refine XS.iconst X88.here hx rfl (hb hby at_216) ?_
    show Steps p.tables e below (T88.setTop (mkF m 217 #[.val (.int p0), .val (.int p1), .val (.int p2), .val (.int p3), .val (.int p4), .val (.int p5), .val (.ref b1), .unset, .unset, .unset, .unset, .unset, .unset, .unset, .unset, .unset, .unset, .unset, .unset, .unset] [(.int (2 : Int32)), (.int (11 : Int32)), (.ref b66), (.ref b66)])) _
    refine st90 _ ?_
    show Steps p.tables e below (T90.setTop (mkF m 218 #[.val (.int p0), .val (.int p1), .val (.int p2), .val (.int p3), .val (.int p4), .val (.int p5), .val (.ref b1), .unset, .unset, .unset, .unset, .unset, .unset, .unset, .unset, .unset, .unset, .unset, .unset, .unset] [(.ref b66)])) _
    refine XS.dup X90.here hx rfl (hb hby at_218) rfl rfl ?_
    show Steps p.tables e below (T90.setTop (mkF m 219 #[.val (.int p0), .val (.int p1), .val (.int p2), .val (.int p3), .val (.int p4), .val (.int p5), .val (.ref b1), .unset, .unset, .unset, .unset, .unset, .unset, .unset, .unset, .unset, .unset, .unset, .unset, .unset] [(.ref b66), (.ref b66)])) _
    refine XS.bipush X90.here hx rfl (hb hby at_219) ?_
    show Steps p.tables e below (T90.setTop (mkF m 221 #[.val (.int p0), .val (.int p1), .val (.int p2), .val (.int p3), .val (.int p4), .val (.int p5), .val (.ref b1), .unset, .unset, .unset, .unset, .unset, .unset, .unset, .unset, .unset, .unset, .unset, .unset, .unset] [(.int (12 : Int32)), (.ref b66), (.ref b66)])) _
    refine XS.iconst X90.here hx rfl (hb hby at_221) ?_
    show Steps p.tables e below (T90.setTop (mkF m 222 #[.val (.int p0), .val (.int p1), .val (.int p2), .val (.int p3), .val (.int p4), .val (.int p5), .val (.ref b1), .unset, .unset, .unset, .unset, .unset, .unset, .unset, .unset, .unset, .unset, .unset, .unset, .unset] [(.int (2 : Int32)), (.int (12 : Int32)), (.ref b66), (.ref b66)])) _
    refine st92 _ ?_
    show Steps p.tables e below (T92.setTop (mkF m 223 #[.val (.int p0), .val (.int p1), .val (.int p2), .val (.int p3), .val (.int p4), .val (.int p5), .val (.ref b1), .unset, .unset, .unset, .unset, .unset, .unset, .unset, .unset, .unset, .unset, .unset, .unset, .unset] [(.ref b66)])) _
    refine XS.dup X92.here hx rfl (hb hby at_223) rfl rfl ?_
    show Steps p.tables e below (T92.setTop (mkF m 224 #[.val (.int p0), .val (.int p1), .val (.int p2), .val (.int p3), .val (.int p4), .val (.int p5), .val (.ref b1), .unset, .unset, .unset, .unset, .unset, .unset, .unset, .unset, .unset, .unset, .unset, .unset, .unset] [(.ref b66), (.ref b66)])) _
    refine XS.bipush X92.here hx rfl (hb hby at_224) ?_
    show Steps p.tables e below (T92.setTop (mkF m 226 #[.val (.int p0), .val (.int p1), .val (.int p2), .val (.int p3), .val (.int p4), .val (.int p5), .val (.ref b1), .unset, .unset, .unset, .unset, .unset, .unset, .unset, .unset, .unset, .unset, .unset, .unset, .unset] [(.int (13 : Int32)), (.ref b66), (.ref b66)])) _
    refine XS.iconst X92.here hx rfl (hb hby at_226) ?_
    show Steps p.tables e below (T92.setTop (mkF m 227 #[.val (.int p0), .val (.int p1), .val (.int p2), .val (.int p3), .val (.int p4), .val (.int p5), .val (.ref b1), .unset, .unset, .unset, .unset, .unset, .unset, .unset, .unset, .unset, .unset, .unset, .unset, .unset] [(.int (2 : Int32)), (.int (13 : Int32)), (.ref b66), (.ref b66)])) _
    refine st94 _ ?_
    show Steps p.tables e below (T94.setTop (mkF m 228 #[.val (.int p0), .val (.int p1), .val (.int p2), .val (.int p3), .val (.int p4), .val (.int p5), .val (.ref b1), .unset, .unset, .unset, .unset, .unset, .unset, .unset, .unset, .unset, .unset, .unset, .unset, .unset] [(.ref b66)])) _
    refine XS.dup X94.here hx rfl (hb hby at_228) rfl rfl ?_
    show Steps p.tables e below (T94.setTop (mkF m 229 #[.val (.int p0), .val (.int p1), .val (.int p2), .val (.int p3), .val (.int p4), .val (.int p5), .val (.ref b1), .unset, .unset, .unset, .unset, .unset, .unset, .unset, .unset, .unset, .unset, .unset, .unset, .unset] [(.ref b66), (.ref b66)])) _
    refine XS.bipush X94.here hx rfl (hb hby at_229) ?_
    show Steps p.tables e below (T94.setTop (mkF m 231 #[.val (.int p0), .val (.int p1), .val (.int p2), .val (.int p3), .val (.int p4), .val (.int p5), .val (.ref b1), .unset, .unset, .unset, .unset, .unset, .unset, .unset, .unset, .unset, .unset, .unset, .unset, .unset] [(.int (14 : Int32)), (.ref b66), (.ref b66)])) _
    refine XS.iconst X94.here hx rfl (hb hby at_231) ?_
    show Steps p.tables e below (T94.setTop (mkF m 232 #[.val (.int p0), .val (.int p1), .val (.int p2), .val (.int p3), .val (.int p4), .val (.int p5), .val (.ref b1), .unset, .unset, .unset, .unset, .unset, .unset, .unset, .unset, .unset, .unset, .unset, .unset, .unset] [(.int (2 : Int32)), (.int (14 : Int32)), (.ref b66), (.ref b66)])) _
    refine st96 _ ?_
    show Steps p.tables e below (T96.setTop (mkF m 233 #[.val (.int p0), .val (.int p1), .val (.int p2), .val (.int p3), .val (.int p4), .val (.int p5), .val (.ref b1), .unset, .unset, .unset, .unset, .unset, .unset, .unset, .unset, .unset, .unset, .unset, .unset, .unset] [(.ref b66)])) _
    refine XS.dup X96.here hx rfl (hb hby at_233) rfl rfl ?_
    show Steps p.tables e below (T96.setTop (mkF m 234 #[.val (.int p0), .val (.int p1), .val (.int p2), .val (.int p3), .val (.int p4), .val (.int p5), .val (.ref b1), .unset, .unset, .unset, .unset, .unset, .unset, .unset, .unset, .unset, .unset, .unset, .unset, .unset] [(.ref b66), (.ref b66)])) _
    refine XS.bipush X96.here hx rfl (hb hby at_234) ?_
    show Steps p.tables e below (T96.setTop (mkF m 236 #[.val (.int p0), .val (.int p1), .val (.int p2), .val (.int p3), .val (.int p4), .val (.int p5), .val (.ref b1), .unset, .unset, .unset, .unset, .unset, .unset, .unset, .unset, .unset, .unset, .unset, .unset, .unset] [(.int (15 : Int32)), (.ref b66), (.ref b66)])) _
    refine XS.iconst X96.here hx rfl (hb hby at_236) ?_
    show Steps p.tables e below (T96.setTop (mkF m 237 #[.val (.int p0), .val (.int p1), .val (.int p2), .val (.int p3), .val (.int p4), .val (.int p5), .val (.ref b1), .unset, .unset, .unset, .unset, .unset, .unset, .unset, .unset, .unset, .unset, .unset, .unset, .unset] [(.int (2 : Int32)), (.int (15 : Int32)), (.ref b66), (.ref b66)])) _
    refine st98 _ ?_
    show Steps p.tables e below (T98.setTop (mkF m 238 #[.val (.int p0), .val (.int p1), .val (.int p2), .val (.int p3), .val (.int p4), .val (.int p5), .val (.ref b1), .unset, .unset, .unset, .unset, .unset, .unset, .unset, .unset, .unset, .unset, .unset, .unset, .unset] [(.ref b66)])) _
    refine XS.dup X98.here hx rfl (hb hby at_238) rfl rfl ?_
    show Steps p.tables e below (T98.setTop (mkF m 239 #[.val (.int p0), .val (.int p1), .val (.int p2), .val (.int p3), .val (.int p4), .val (.int p5), .val (.ref b1), .unset, .unset, .unset, .unset, .unset, .unset, .unset, .unset, .unset, .unset, .unset, .unset, .unset] [(.ref b66), (.ref b66)])) _
    refine XS.bipush X98.here hx rfl (hb hby at_239) ?_
    show Steps p.tables e below (T98.setTop (mkF m 241 #[.val (.int p0), .val (.int p1), .val (.int p2), .val (.int p3), .val (.int p4), .val (.int p5), .val (.ref b1), .unset, .unset, .unset, .unset, .unset, .unset, .unset, .unset, .unset, .unset, .unset, .unset, .unset] [(.int (16 : Int32)), (.ref b66), (.ref b66)])) _
    refine XS.iconst X98.here hx rfl (hb hby at_241) ?_
    show Steps p.tables e below (T98.setTop (mkF m 242 #[.val (.int p0), .val (.int p1), .val (.int p2), .val (.int p3), .val (.int p4), .val (.int p5), .val (.ref b1), .unset, .unset, .unset, .unset, .unset, .unset, .unset, .unset, .unset, .unset, .unset, .unset, .unset] [(.int (2 : Int32)), (.int (16 : Int32)), (.ref b66), (.ref b66)])) _
    refine st100 _ ?_
    show Steps p.tables e below (T100.setTop (mkF m 243 #[.val (.int p0), .val (.int p1), .val (.int p2), .val (.int p3), .val (.int p4), .val (.int p5), .val (.ref b1), .unset, .unset, .unset, .unset, .unset, .unset, .unset, .unset, .unset, .unset, .unset, .unset, .unset] [(.ref b66)])) _
    refine XS.dup X100.here hx rfl (hb hby at_243) rfl rfl ?_
    show Steps p.tables e below (T100.setTop (mkF m 244 #[.val (.int p0), .val (.int p1), .val (.int p2), .val (.int p3), .val (.int p4), .val (.int p5), .val (.ref b1), .unset, .unset, .unset, .unset, .unset, .unset, .unset, .unset, .unset, .unset, .unset, .unset, .unset] [(.ref b66), (.ref b66)])) _
    refine XS.bipush X100.here hx rfl (hb hby at_244) ?_
    show Steps p.tables e below (T100.setTop (mkF m 246 #[.val (.int p0), .val (.int p1), .val (.int p2), .val (.int p3), .val (.int p4), .val (.int p5), .val (.ref b1), .unset, .unset, .unset, .unset, .unset, .unset, .unset, .unset, .unset, .unset, .unset, .unset, .unset] [(.int (17 : Int32)), (.ref b66), (.ref b66)])) _
    refine XS.iconst X100.here hx rfl (hb hby at_246) ?_
    show Steps p.tables e below (T100.setTop (mkF m 247 #[.val (.int p0), .val (.int p1), .val (.int p2), .val (.int p3), .val (.int p4), .val (.int p5), .val (.ref b1), .unset, .unset, .unset, .unset, .unset, .unset, .unset, .unset, .unset, .unset, .unset, .unset, .unset] [(.int (2 : Int32)), (.int (17 : Int32)), (.ref b66), (.ref b66)])) _
    refine st102 _ ?_
    show Steps p.tables e below (T102.setTop (mkF m 248 #[.val (.int p0), .val (.int p1), .val (.int p2), .val (.int p3), .val (.int p4), .val (.int p5), .val (.ref b1), .unset, .unset, .unset, .unset, .unset, .unset, .unset, .unset, .unset, .unset, .unset, .unset, .unset] [(.ref b66)])) _
    refine XS.dup X102.here hx rfl (hb hby at_248) rfl rfl ?_
    show Steps p.tables e below (T102.setTop (mkF m 249 #[.val (.int p0), .val (.int p1), .val (.int p2), .val (.int p3), .val (.int p4), .val (.int p5), .val (.ref b1), .unset, .unset, .unset, .unset, .unset, .unset, .unset, .unset, .unset, .unset, .unset, .unset, .unset] [(.ref b66), (.ref b66)])) _
    refine XS.bipush X102.here hx rfl (hb hby at_249) ?_
    show Steps p.tables e below (T102.setTop (mkF m 251 #[.val (.int p0), .val (.int p1), .val (.int p2), .val (.int p3), .val (.int p4), .val (.int p5), .val (.ref b1), .unset, .unset, .unset, .unset, .unset, .unset, .unset, .unset, .unset, .unset, .unset, .unset, .unset] [(.int (18 : Int32)), (.ref b66), (.ref b66)])) _
    refine XS.iconst X102.here hx rfl (hb hby at_251) ?_
    show Steps p.tables e below (T102.setTop (mkF m 252 #[.val (.int p0), .val (.int p1), .val (.int p2), .val (.int p3), .val (.int p4), .val (.int p5), .val (.ref b1), .unset, .unset, .unset, .unset, .unset, .unset, .unset, .unset, .unset, .unset, .unset, .unset, .unset] [(.int (2 : Int32)), (.int (18 : Int32)), (.ref b66), (.ref b66)])) _
    refine st104 _ ?_
    show Steps p.tables e below (T104.setTop (mkF m 253 #[.val (.int p0), .val (.int p1), .val (.int p2), .val (.int p3), .val (.int p4), .val (.int p5), .val (.ref b1), .unset, .unset, .unset, .unset, .unset, .unset, .unset, .unset, .unset, .unset, .unset, .unset, .unset] [(.ref b66)])) _
    refine XS.dup X104.here hx rfl (hb hby at_253) rfl rfl ?_
    show Steps p.tables e below (T104.setTop (mkF m 254 #[.val (.int p0), .val (.int p1), .val (.int p2), .val (.int p3), .val (.int p4), .val (.int p5), .val (.ref b1), .unset, .unset, .unset, .unset, .unset, .unset, .unset, .unset, .unset, .unset, .unset, .unset, .unset] [(.ref b66), (.ref b66)])) _
    refine XS.bipush X104.here hx rfl (hb hby at_254) ?_
    show Steps p.tables e below (T104.setTop (mkF m 256 #[.val (.int p0), .val (.int p1), .val (.int p2), .val (.int p3), .val (.int p4), .val (.int p5), .val (.ref b1), .unset, .unset, .unset, .unset, .unset, .unset, .unset, .unset, .unset, .unset, .unset, .unset, .unset] [(.int (19 : Int32)), (.ref b66), (.ref b66)])) _
    refine XS.iconst X104.here hx rfl (hb hby at_256) ?_
    show Steps p.tables e below (T104.setTop (mkF m 257 #[.val (.int p0), .val (.int p1), .val (.int p2), .val (.int p3), .val (.int p4), .val (.int p5), .val (.ref b1), .unset, .unset, .unset, .unset, .unset, .unset, .unset, .unset, .unset, .unset, .unset, .unset, .unset] [(.int (2 : Int32)), (.int (19 : Int32)), (.ref b66), (.ref b66)])) _
    refine st106 _ ?_
    show Steps p.tables e below (T106.setTop (mkF m 258 #[.val (.int p0), .val (.int p1), .val (.int p2), .val (.int p3), .val (.int p4), .val (.int p5), .val (.ref b1), .unset, .unset, .unset, .unset, .unset, .unset, .unset, .unset, .unset, .unset, .unset, .unset, .unset] [(.ref b66)])) _
    refine XS.dup X106.here hx rfl (hb hby at_258) rfl rfl ?_
    show Steps p.tables e below (T106.setTop (mkF m 259 #[.val (.int p0), .val (.int p1), .val (.int p2), .val (.int p3), .val (.int p4), .val (.int p5), .val (.ref b1), .unset, .unset, .unset, .unset, .unset, .unset, .unset, .unset, .unset, .unset, .unset, .unset, .unset] [(.ref b66), (.ref b66)])) _
    refine XS.bipush X106.here hx rfl (hb hby at_259) ?_
    show Steps p.tables e below (T106.setTop (mkF m 261 #[.val (.int p0), .val (.int p1), .val (.int p2), .val (.int p3), .val (.int p4), .val (.int p5), .val (.ref b1), .unset, .unset, .unset, .unset, .unset, .unset, .unset, .unset, .unset, .unset, .unset, .unset, .unset] [(.int (20 : Int32)), (.ref b66), (.ref b66)])) _
    refine XS.iconst X106.here hx rfl (hb hby at_261) ?_
    show Steps p.tables e below (T106.setTop (mkF m 262 #[.val (.int p0), .val (.int p1), .val (.int p2), .val (.int p3), .val (.int p4), .val (.int p5), .val (.ref b1), .unset, .unset, .unset, .unset, .unset, .unset, .unset, .unset, .unset, .unset, .unset, .unset, .unset] [(.int (2 : Int32)), (.int (20 : Int32)), (.ref b66), (.ref b66)])) _
    refine st108 _ ?_
    show Steps p.tables e below (T108.setTop (mkF m 263 #[.val (.int p0), .val (.int p1), .val (.int p2), .val (.int p3), .val (.int p4), .val (.int p5), .val (.ref b1), .unset, .unset, .unset, .unset, .unset, .unset, .unset, .unset, .unset, .unset, .unset, .unset, .unset] [(.ref b66)])) _
    refine XS.dup X108.here hx rfl (hb hby at_263) rfl rfl ?_
    show Steps p.tables e below (T108.setTop (mkF m 264 #[.val (.int p0), .val (.int p1), .val (.int p2), .val (.int p3), .val (.int p4), .val (.int p5), .val (.ref b1), .unset, .unset, .unset, .unset, .unset, .unset, .unset, .unset, .unset, .unset, .unset, .unset, .unset] [(.ref b66), (.ref b66)])) _
    refine XS.bipush X108.here hx rfl (hb hby at_264) ?_
    show Steps p.tables e below (T108.setTop (mkF m 266 #[.val (.int p0), .val (.int p1), .val (.int p2), .val (.int p3), .val (.int p4), .val (.int p5), .val (.ref b1), .unset, .unset, .unset, .unset, .unset, .unset, .unset, .unset, .unset, .unset, .unset, .unset, .unset] [(.int (21 : Int32)), (.ref b66), (.ref b66)])) _
    refine XS.iconst X108.here hx rfl (hb hby at_266) ?_
    show Steps p.tables e below (T108.setTop (mkF m 267 #[.val (.int p0), .val (.int p1), .val (.int p2), .val (.int p3), .val (.int p4), .val (.int p5), .val (.ref b1), .unset, .unset, .unset, .unset, .unset, .unset, .unset, .unset, .unset, .unset, .unset, .unset, .unset] [(.int (2 : Int32)), (.int (21 : Int32)), (.ref b66), (.ref b66)])) _
    refine st110 _ ?_
    show Steps p.tables e below (T110.setTop (mkF m 268 #[.val (.int p0), .val (.int p1), .val (.int p2), .val (.int p3), .val (.int p4), .val (.int p5), .val (.ref b1), .unset, .unset, .unset, .unset, .unset, .unset, .unset, .unset, .unset, .unset, .unset, .unset, .unset] [(.ref b66)])) _
    refine XS.dup X110.here hx rfl (hb hby at_268) rfl rfl ?_
    show Steps p.tables e below (T110.setTop (mkF m 269 #[.val (.int p0), .val (.int p1), .val (.int p2), .val (.int p3), .val (.int p4), .val (.int p5), .val (.ref b1), .unset, .unset, .unset, .unset, .unset, .unset, .unset, .unset, .unset, .unset, .unset, .unset, .unset] [(.ref b66), (.ref b66)])) _
    refine XS.bipush X110.here hx rfl (hb hby at_269) ?_
    show Steps p.tables e below (T110.setTop (mkF m 271 #[.val (.int p0), .val (.int p1), .val (.int p2), .val (.int p3), .val (.int p4), .val (.int p5), .val (.ref b1), .unset, .unset, .unset, .unset, .unset, .unset, .unset, .unset, .unset, .unset, .unset, .unset, .unset] [(.int (22 : Int32)), (.ref b66), (.ref b66)])) _
    refine XS.iconst X110.here hx rfl (hb hby at_271) ?_
    show Steps p.tables e below (T110.setTop (mkF m 272 #[.val (.int p0), .val (.int p1), .val (.int p2), .val (.int p3), .val (.int p4), .val (.int p5), .val (.ref b1), .unset, .unset, .unset, .unset, .unset, .unset, .unset, .unset, .unset, .unset, .unset, .unset, .unset] [(.int (2 : Int32)), (.int (22 : Int32)), (.ref b66), (.ref b66)])) _
    refine st112 _ ?_
    show Steps p.tables e below (T112.setTop (mkF m 273 #[.val (.int p0), .val (.int p1), .val (.int p2), .val (.int p3), .val (.int p4), .val (.int p5), .val (.ref b1), .unset, .unset, .unset, .unset, .unset, .unset, .unset, .unset, .unset, .unset, .unset, .unset, .unset] [(.ref b66)])) _
    refine XS.dup X112.here hx rfl (hb hby at_273) rfl rfl ?_
    show Steps p.tables e below (T112.setTop (mkF m 274 #[.val (.int p0), .val (.int p1), .val (.int p2), .val (.int p3), .val (.int p4), .val (.int p5), .val (.ref b1), .unset, .unset, .unset, .unset, .unset, .unset, .unset, .unset, .unset, .unset, .unset, .unset, .unset] [(.ref b66), (.ref b66)])) _
    refine XS.bipush X112.here hx rfl (hb hby at_274) ?_
    show Steps p.tables e below (T112.setTop (mkF m 276 #[.val (.int p0), .val (.int p1), .val (.int p2), .val (.int p3), .val (.int p4), .val (.int p5), .val (.ref b1), .unset, .unset, .unset, .unset, .unset, .unset, .unset, .unset, .unset, .unset, .unset, .unset, .unset] [(.int (23 : Int32)), (.ref b66), (.ref b66)])) _
    refine XS.iconst X112.here hx rfl (hb hby at_276) ?_
    show Steps p.tables e below (T112.setTop (mkF m 277 #[.val (.int p0), .val (.int p1), .val (.int p2), .val (.int p3), .val (.int p4), .val (.int p5), .val (.ref b1), .unset, .unset, .unset, .unset, .unset, .unset, .unset, .unset, .unset, .unset, .unset, .unset, .unset] [(.int (2 : Int32)), (.int (23 : Int32)), (.ref b66), (.ref b66)])) _
    refine st114 _ ?_
    show Steps p.tables e below (T114.setTop (mkF m 278 #[.val (.int p0), .val (.int p1), .val (.int p2), .val (.int p3), .val (.int p4), .val (.int p5), .val (.ref b1), .unset, .unset, .unset, .unset, .unset, .unset, .unset, .unset, .unset, .unset, .unset, .unset, .unset] [(.ref b66)])) _
    refine XS.dup X114.here hx rfl (hb hby at_278) rfl rfl ?_
    show Steps p.tables e below (T114.setTop (mkF m 279 #[.val (.int p0), .val (.int p1), .val (.int p2), .val (.int p3), .val (.int p4), .val (.int p5), .val (.ref b1), .unset, .unset, .unset, .unset, .unset, .unset, .unset, .unset, .unset, .unset, .unset, .unset, .unset] [(.ref b66), (.ref b66)])) _
    refine XS.bipush X114.here hx rfl (hb hby at_279) ?_
    show Steps p.tables e below (T114.setTop (mkF m 281 #[.val (.int p0), .val (.int p1), .val (.int p2), .val (.int p3), .val (.int p4), .val (.int p5), .val (.ref b1), .unset, .unset, .unset, .unset, .unset, .unset, .unset, .unset, .unset, .unset, .unset, .unset, .unset] [(.int (24 : Int32)), (.ref b66), (.ref b66)])) _
    refine XS.iconst X114.here hx rfl (hb hby at_281) ?_
    show Steps p.tables e below (T114.setTop (mkF m 282 #[.val (.int p0), .val (.int p1), .val (.int p2), .val (.int p3), .val (.int p4), .val (.int p5), .val (.ref b1), .unset, .unset, .unset, .unset, .unset, .unset, .unset, .unset, .unset, .unset, .unset, .unset, .unset] [(.int (2 : Int32)), (.int (24 : Int32)), (.ref b66), (.ref b66)])) _
    refine st116 _ ?_
    show Steps p.tables e below (T116.setTop (mkF m 283 #[.val (.int p0), .val (.int p1), .val (.int p2), .val (.int p3), .val (.int p4), .val (.int p5), .val (.ref b1), .unset, .unset, .unset, .unset, .unset, .unset, .unset, .unset, .unset, .unset, .unset, .unset, .unset] [(.ref b66)])) _
    refine XS.dup X116.here hx rfl (hb hby at_283) rfl rfl ?_
    show Steps p.tables e below (T116.setTop (mkF m 284 #[.val (.int p0), .val (.int p1), .val (.int p2), .val (.int p3), .val (.int p4), .val (.int p5), .val (.ref b1), .unset, .unset, .unset, .unset, .unset, .unset, .unset, .unset, .unset, .unset, .unset, .unset, .unset] [(.ref b66), (.ref b66)])) _
    refine XS.bipush X116.here hx rfl (hb hby at_284) ?_
    show Steps p.tables e below (T116.setTop (mkF m 286 #[.val (.int p0), .val (.int p1), .val (.int p2), .val (.int p3), .val (.int p4), .val (.int p5), .val (.ref b1), .unset, .unset, .unset, .unset, .unset, .unset, .unset, .unset, .unset, .unset, .unset, .unset, .unset] [(.int (25 : Int32)), (.ref b66), (.ref b66)])) _
    refine XS.iconst X116.here hx rfl (hb hby at_286) ?_
    show Steps p.tables e below (T116.setTop (mkF m 287 #[.val (.int p0), .val (.int p1), .val (.int p2), .val (.int p3), .val (.int p4), .val (.int p5), .val (.ref b1), .unset, .unset, .unset, .unset, .unset, .unset, .unset, .unset, .unset, .unset, .unset, .unset, .unset] [(.int (2 : Int32)), (.int (25 : Int32)), (.ref b66), (.ref b66)])) _
    refine st118 _ ?_
    show Steps p.tables e below (T118.setTop (mkF m 288 #[.val (.int p0), .val (.int p1), .val (.int p2), .val (.int p3), .val (.int p4), .val (.int p5), .val (.ref b1), .unset, .unset, .unset, .unset, .unset, .unset, .unset, .unset, .unset, .unset, .unset, .unset, .unset] [(.ref b66)])) _
    refine XS.dup X118.here hx rfl (hb hby at_288) rfl rfl ?_
    show Steps p.tables e below (T118.setTop (mkF m 289 #[.val (.int p0), .val (.int p1), .val (.int p2), .val (.int p3), .val (.int p4), .val (.int p5), .val (.ref b1), .unset, .unset, .unset, .unset, .unset, .unset, .unset, .unset, .unset, .unset, .unset, .unset, .unset] [(.ref b66), (.ref b66)])) _
    refine XS.bipush X118.here hx rfl (hb hby at_289) ?_
    show Steps p.tables e below (T118.setTop (mkF m 291 #[.val (.int p0), .val (.int p1), .val (.int p2), .val (.int p3), .val (.int p4), .val (.int p5), .val (.ref b1), .unset, .unset, .unset, .unset, .unset, .unset, .unset, .unset, .unset, .unset, .unset, .unset, .unset] [(.int (26 : Int32)), (.ref b66), (.ref b66)])) _
    refine XS.iconst X118.here hx rfl (hb hby at_291) ?_
    show Steps p.tables e below (T118.setTop (mkF m 292 #[.val (.int p0), .val (.int p1), .val (.int p2), .val (.int p3), .val (.int p4), .val (.int p5), .val (.ref b1), .unset, .unset, .unset, .unset, .unset, .unset, .unset, .unset, .unset, .unset, .unset, .unset, .unset] [(.int (2 : Int32)), (.int (26 : Int32)), (.ref b66), (.ref b66)])) _
    refine st120 _ ?_
    show Steps p.tables e below (T120.setTop (mkF m 293 #[.val (.int p0), .val (.int p1), .val (.int p2), .val (.int p3), .val (.int p4), .val (.int p5), .val (.ref b1), .unset, .unset, .unset, .unset, .unset, .unset, .unset, .unset, .unset, .unset, .unset, .unset, .unset] [(.ref b66)])) _
    refine XS.dup X120.here hx rfl (hb hby at_293) rfl rfl ?_
    show Steps p.tables e below (T120.setTop (mkF m 294 #[.val (.int p0), .val (.int p1), .val (.int p2), .val (.int p3), .val (.int p4), .val (.int p5), .val (.ref b1), .unset, .unset, .unset, .unset, .unset, .unset, .unset, .unset, .unset, .unset, .unset, .unset, .unset] [(.ref b66), (.ref b66)])) _
    refine XS.bipush X120.here hx rfl (hb hby at_294) ?_
    show Steps p.tables e below (T120.setTop (mkF m 296 #[.val (.int p0), .val (.int p1), .val (.int p2), .val (.int p3), .val (.int p4), .val (.int p5), .val (.ref b1), .unset, .unset, .unset, .unset, .unset, .unset, .unset, .unset, .unset, .unset, .unset, .unset, .unset] [(.int (27 : Int32)), (.ref b66), (.ref b66)])) _
    refine XS.iconst X120.here hx rfl (hb hby at_296) ?_
    show Steps p.tables e below (T120.setTop (mkF m 297 #[.val (.int p0), .val (.int p1), .val (.int p2), .val (.int p3), .val (.int p4), .val (.int p5), .val (.ref b1), .unset, .unset, .unset, .unset, .unset, .unset, .unset, .unset, .unset, .unset, .unset, .unset, .unset] [(.int (2 : Int32)), (.int (27 : Int32)), (.ref b66), (.ref b66)])) _
    refine st122 _ ?_
    show Steps p.tables e below (T122.setTop (mkF m 298 #[.val (.int p0), .val (.int p1), .val (.int p2), .val (.int p3), .val (.int p4), .val (.int p5), .val (.ref b1), .unset, .unset, .unset, .unset, .unset, .unset, .unset, .unset, .unset, .unset, .unset, .unset, .unset] [(.ref b66)])) _
    refine XS.dup X122.here hx rfl (hb hby at_298) rfl rfl ?_
    show Steps p.tables e below (T122.setTop (mkF m 299 #[.val (.int p0), .val (.int p1), .val (.int p2), .val (.int p3), .val (.int p4), .val (.int p5), .val (.ref b1), .unset, .unset, .unset, .unset, .unset, .unset, .unset, .unset, .unset, .unset, .unset, .unset, .unset] [(.ref b66), (.ref b66)])) _
    refine XS.bipush X122.here hx rfl (hb hby at_299) ?_
    show Steps p.tables e below (T122.setTop (mkF m 301 #[.val (.int p0), .val (.int p1), .val (.int p2), .val (.int p3), .val (.int p4), .val (.int p5), .val (.ref b1), .unset, .unset, .unset, .unset, .unset, .unset, .unset, .unset, .unset, .unset, .unset, .unset, .unset] [(.int (28 : Int32)), (.ref b66), (.ref b66)])) _
    refine XS.iconst X122.here hx rfl (hb hby at_301) ?_
    show Steps p.tables e below (T122.setTop (mkF m 302 #[.val (.int p0), .val (.int p1), .val (.int p2), .val (.int p3), .val (.int p4), .val (.int p5), .val (.ref b1), .unset, .unset, .unset, .unset, .unset, .unset, .unset, .unset, .unset, .unset, .unset, .unset, .unset] [(.int (2 : Int32)), (.int (28 : Int32)), (.ref b66), (.ref b66)])) _
    refine st124 _ ?_
    show Steps p.tables e below (T124.setTop (mkF m 303 #[.val (.int p0), .val (.int p1), .val (.int p2), .val (.int p3), .val (.int p4), .val (.int p5), .val (.ref b1), .unset, .unset, .unset, .unset, .unset, .unset, .unset, .unset, .unset, .unset, .unset, .unset, .unset] [(.ref b66)])) _
    refine XS.dup X124.here hx rfl (hb hby at_303) rfl rfl ?_
    show Steps p.tables e below (T124.setTop (mkF m 304 #[.val (.int p0), .val (.int p1), .val (.int p2), .val (.int p3), .val (.int p4), .val (.int p5), .val (.ref b1), .unset, .unset, .unset, .unset, .unset, .unset, .unset, .unset, .unset, .unset, .unset, .unset, .unset] [(.ref b66), (.ref b66)])) _
    refine XS.bipush X124.here hx rfl (hb hby at_304) ?_
    show Steps p.tables e below (T124.setTop (mkF m 306 #[.val (.int p0), .val (.int p1), .val (.int p2), .val (.int p3), .val (.int p4), .val (.int p5), .val (.ref b1), .unset, .unset, .unset, .unset, .unset, .unset, .unset, .unset, .unset, .unset, .unset, .unset, .unset] [(.int (29 : Int32)), (.ref b66), (.ref b66)])) _
    refine XS.iconst X124.here hx rfl (hb hby at_306) ?_
    show Steps p.tables e below (T124.setTop (mkF m 307 #[.val (.int p0), .val (.int p1), .val (.int p2), .val (.int p3), .val (.int p4), .val (.int p5), .val (.ref b1), .unset, .unset, .unset, .unset, .unset, .unset, .unset, .unset, .unset, .unset, .unset, .unset, .unset] [(.int (2 : Int32)), (.int (29 : Int32)), (.ref b66), (.ref b66)])) _
    refine st126 _ ?_
    show Steps p.tables e below (T126.setTop (mkF m 308 #[.val (.int p0), .val (.int p1), .val (.int p2), .val (.int p3), .val (.int p4), .val (.int p5), .val (.ref b1), .unset, .unset, .unset, .unset, .unset, .unset, .unset, .unset, .unset, .unset, .unset, .unset, .unset] [(.ref b66)])) _
    refine XS.dup X126.here hx rfl (hb hby at_308) rfl rfl ?_
    show Steps p.tables e below (T126.setTop (mkF m 309 #[.val (.int p0), .val (.int p1), .val (.int p2), .val (.int p3), .val (.int p4), .val (.int p5), .val (.ref b1), .unset, .unset, .unset, .unset, .unset, .unset, .unset, .unset, .unset, .unset, .unset, .unset, .unset] [(.ref b66), (.ref b66)])) _
    refine XS.bipush X126.here hx rfl (hb hby at_309) ?_
    show Steps p.tables e below (T126.setTop (mkF m 311 #[.val (.int p0), .val (.int p1), .val (.int p2), .val (.int p3), .val (.int p4), .val (.int p5), .val (.ref b1), .unset, .unset, .unset, .unset, .unset, .unset, .unset, .unset, .unset, .unset, .unset, .unset, .unset] [(.int (30 : Int32)), (.ref b66), (.ref b66)])) _
    refine XS.iconst X126.here hx rfl (hb hby at_311) ?_
    show Steps p.tables e below (T126.setTop (mkF m 312 #[.val (.int p0), .val (.int p1), .val (.int p2), .val (.int p3), .val (.int p4), .val (.int p5), .val (.ref b1), .unset, .unset, .unset, .unset, .unset, .unset, .unset, .unset, .unset, .unset, .unset, .unset, .unset] [(.int (2 : Int32)), (.int (30 : Int32)), (.ref b66), (.ref b66)])) _
    refine st128 _ ?_
    show Steps p.tables e below (T128.setTop (mkF m 313 #[.val (.int p0), .val (.int p1), .val (.int p2), .val (.int p3), .val (.int p4), .val (.int p5), .val (.ref b1), .unset, .unset, .unset, .unset, .unset, .unset, .unset, .unset, .unset, .unset, .unset, .unset, .unset] [(.ref b66)])) _
    refine XS.dup X128.here hx rfl (hb hby at_313) rfl rfl ?_
    show Steps p.tables e below (T128.setTop (mkF m 314 #[.val (.int p0), .val (.int p1), .val (.int p2), .val (.int p3), .val (.int p4), .val (.int p5), .val (.ref b1), .unset, .unset, .unset, .unset, .unset, .unset, .unset, .unset, .unset, .unset, .unset, .unset, .unset] [(.ref b66), (.ref b66)])) _
    refine XS.bipush X128.here hx rfl (hb hby at_314) ?_
    show Steps p.tables e below (T128.setTop (mkF m 316 #[.val (.int p0), .val (.int p1), .val (.int p2), .val (.int p3), .val (.int p4), .val (.int p5), .val (.ref b1), .unset, .unset, .unset, .unset, .unset, .unset, .unset, .unset, .unset, .unset, .unset, .unset, .unset] [(.int (31 : Int32)), (.ref b66), (.ref b66)])) _
    refine XS.iconst X128.here hx rfl (hb hby at_316) ?_
    show Steps p.tables e below (T128.setTop (mkF m 317 #[.val (.int p0), .val (.int p1), .val (.int p2), .val (.int p3), .val (.int p4), .val (.int p5), .val (.ref b1), .unset, .unset, .unset, .unset, .unset, .unset, .unset, .unset, .unset, .unset, .unset, .unset, .unset] [(.int (2 : Int32)), (.int (31 : Int32)), (.ref b66), (.ref b66)])) _
    refine st130 _ ?_
    show Steps p.tables e below (T130.setTop (mkF m 318 #[.val (.int p0), .val (.int p1), .val (.int p2), .val (.int p3), .val (.int p4), .val (.int p5), .val (.ref b1), .unset, .unset, .unset, .unset, .unset, .unset, .unset, .unset, .unset, .unset, .unset, .unset, .unset] [(.ref b66)])) _
    refine XS.astore X130.here hx rfl (hb hby at_318) rfl rfl (l' := #[.val (.int p0), .val (.int p1), .val (.int p2), .val (.int p3), .val (.int p4), .val (.int p5), .val (.ref b1), .val (.ref b66), .unset, .unset, .unset, .unset, .unset, .unset, .unset, .unset, .unset, .unset, .unset, .unset]) rfl ?_
    show Steps p.tables e below (T130.setTop (mkF m 320 #[.val (.int p0), .val (.int p1), .val (.int p2), .val (.int p3), .val (.int p4), .val (.int p5), .val (.ref b1), .val (.ref b66), .unset, .unset, .unset, .unset, .unset, .unset, .unset, .unset, .unset, .unset, .unset, .unset] [])) _
    refine XS.bipush X130.here hx rfl (hb hby at_320) ?_
    show Steps p.tables e below (T130.setTop (mkF m 322 #[.val (.int p0), .val (.int p1), .val (.int p2), .val (.int p3), .val (.int p4), .val (.int p5), .val (.ref b1), .val (.ref b66), .unset, .unset, .unset, .unset, .unset, .unset, .unset, .unset, .unset, .unset, .unset, .unset] [(.int (32 : Int32))])) _
    refine st132 _ ?_
    show Steps p.tables e below (T132.setTop (mkF m 324 #[.val (.int p0), .val (.int p1), .val (.int p2), .val (.int p3), .val (.int p4), .val (.int p5), .val (.ref b1), .val (.ref b66), .unset, .unset, .unset, .unset, .unset, .unset, .unset, .unset, .unset, .unset, .unset, .unset] [(.ref b132)])) _
    refine XS.dup X132.here hx rfl (hb hby at_324) rfl rfl ?_
    show Steps p.tables e below (T132.setTop (mkF m 325 #[.val (.int p0), .val (.int p1), .val (.int p2), .val (.int p3), .val (.int p4), .val (.int p5), .val (.ref b1), .val (.ref b66), .unset, .unset, .unset, .unset, .unset, .unset, .unset, .unset, .unset, .unset, .unset, .unset] [(.ref b132), (.ref b132)])) _
    refine XS.iconst X132.here hx rfl (hb hby at_325) ?_
    show Steps p.tables e below (T132.setTop (mkF m 326 #[.val (.int p0), .val (.int p1), .val (.int p2), .val (.int p3), .val (.int p4), .val (.int p5), .val (.ref b1), .val (.ref b66), .unset, .unset, .unset, .unset, .unset, .unset, .unset, .unset, .unset, .unset, .unset, .unset] [(.int (0 : Int32)), (.ref b132), (.ref b132)])) _
    refine XS.iconst X132.here hx rfl (hb hby at_326) ?_
    show Steps p.tables e below (T132.setTop (mkF m 327 #[.val (.int p0), .val (.int p1), .val (.int p2), .val (.int p3), .val (.int p4), .val (.int p5), .val (.ref b1), .val (.ref b66), .unset, .unset, .unset, .unset, .unset, .unset, .unset, .unset, .unset, .unset, .unset, .unset] [(.int (3 : Int32)), (.int (0 : Int32)), (.ref b132), (.ref b132)])) _
    refine st134 _ ?_
    show Steps p.tables e below (T134.setTop (mkF m 328 #[.val (.int p0), .val (.int p1), .val (.int p2), .val (.int p3), .val (.int p4), .val (.int p5), .val (.ref b1), .val (.ref b66), .unset, .unset, .unset, .unset, .unset, .unset, .unset, .unset, .unset, .unset, .unset, .unset] [(.ref b132)])) _
    refine XS.dup X134.here hx rfl (hb hby at_328) rfl rfl ?_
    show Steps p.tables e below (T134.setTop (mkF m 329 #[.val (.int p0), .val (.int p1), .val (.int p2), .val (.int p3), .val (.int p4), .val (.int p5), .val (.ref b1), .val (.ref b66), .unset, .unset, .unset, .unset, .unset, .unset, .unset, .unset, .unset, .unset, .unset, .unset] [(.ref b132), (.ref b132)])) _
    refine XS.iconst X134.here hx rfl (hb hby at_329) ?_
    show Steps p.tables e below (T134.setTop (mkF m 330 #[.val (.int p0), .val (.int p1), .val (.int p2), .val (.int p3), .val (.int p4), .val (.int p5), .val (.ref b1), .val (.ref b66), .unset, .unset, .unset, .unset, .unset, .unset, .unset, .unset, .unset, .unset, .unset, .unset] [(.int (1 : Int32)), (.ref b132), (.ref b132)])) _
    refine XS.iconst X134.here hx rfl (hb hby at_330) ?_
    show Steps p.tables e below (T134.setTop (mkF m 331 #[.val (.int p0), .val (.int p1), .val (.int p2), .val (.int p3), .val (.int p4), .val (.int p5), .val (.ref b1), .val (.ref b66), .unset, .unset, .unset, .unset, .unset, .unset, .unset, .unset, .unset, .unset, .unset, .unset] [(.int (3 : Int32)), (.int (1 : Int32)), (.ref b132), (.ref b132)])) _
    refine st136 _ ?_
    show Steps p.tables e below (T136.setTop (mkF m 332 #[.val (.int p0), .val (.int p1), .val (.int p2), .val (.int p3), .val (.int p4), .val (.int p5), .val (.ref b1), .val (.ref b66), .unset, .unset, .unset, .unset, .unset, .unset, .unset, .unset, .unset, .unset, .unset, .unset] [(.ref b132)])) _
    refine XS.dup X136.here hx rfl (hb hby at_332) rfl rfl ?_
    show Steps p.tables e below (T136.setTop (mkF m 333 #[.val (.int p0), .val (.int p1), .val (.int p2), .val (.int p3), .val (.int p4), .val (.int p5), .val (.ref b1), .val (.ref b66), .unset, .unset, .unset, .unset, .unset, .unset, .unset, .unset, .unset, .unset, .unset, .unset] [(.ref b132), (.ref b132)])) _
    refine XS.iconst X136.here hx rfl (hb hby at_333) ?_
    show Steps p.tables e below (T136.setTop (mkF m 334 #[.val (.int p0), .val (.int p1), .val (.int p2), .val (.int p3), .val (.int p4), .val (.int p5), .val (.ref b1), .val (.ref b66), .unset, .unset, .unset, .unset, .unset, .unset, .unset, .unset, .unset, .unset, .unset, .unset] [(.int (2 : Int32)), (.ref b132), (.ref b132)])) _
    refine XS.iconst X136.here hx rfl (hb hby at_334) ?_
    show Steps p.tables e below (T136.setTop (mkF m 335 #[.val (.int p0), .val (.int p1), .val (.int p2), .val (.int p3), .val (.int p4), .val (.int p5), .val (.ref b1), .val (.ref b66), .unset, .unset, .unset, .unset, .unset, .unset, .unset, .unset, .unset, .unset, .unset, .unset] [(.int (3 : Int32)), (.int (2 : Int32)), (.ref b132), (.ref b132)])) _
    refine st138 _ ?_
    show Steps p.tables e below (T138.setTop (mkF m 336 #[.val (.int p0), .val (.int p1), .val (.int p2), .val (.int p3), .val (.int p4), .val (.int p5), .val (.ref b1), .val (.ref b66), .unset, .unset, .unset, .unset, .unset, .unset, .unset, .unset, .unset, .unset, .unset, .unset] [(.ref b132)])) _
    refine XS.dup X138.here hx rfl (hb hby at_336) rfl rfl ?_
    show Steps p.tables e below (T138.setTop (mkF m 337 #[.val (.int p0), .val (.int p1), .val (.int p2), .val (.int p3), .val (.int p4), .val (.int p5), .val (.ref b1), .val (.ref b66), .unset, .unset, .unset, .unset, .unset, .unset, .unset, .unset, .unset, .unset, .unset, .unset] [(.ref b132), (.ref b132)])) _
    refine XS.iconst X138.here hx rfl (hb hby at_337) ?_
    show Steps p.tables e below (T138.setTop (mkF m 338 #[.val (.int p0), .val (.int p1), .val (.int p2), .val (.int p3), .val (.int p4), .val (.int p5), .val (.ref b1), .val (.ref b66), .unset, .unset, .unset, .unset, .unset, .unset, .unset, .unset, .unset, .unset, .unset, .unset] [(.int (3 : Int32)), (.ref b132), (.ref b132)])) _
    refine XS.iconst X138.here hx rfl (hb hby at_338) ?_
    show Steps p.tables e below (T138.setTop (mkF m 339 #[.val (.int p0), .val (.int p1), .val (.int p2), .val (.int p3), .val (.int p4), .val (.int p5), .val (.ref b1), .val (.ref b66), .unset, .unset, .unset, .unset, .unset, .unset, .unset, .unset, .unset, .unset, .unset, .unset] [(.int (3 : Int32)), (.int (3 : Int32)), (.ref b132), (.ref b132)])) _
    refine st140 _ ?_
    show Steps p.tables e below (T140.setTop (mkF m 340 #[.val (.int p0), .val (.int p1), .val (.int p2), .val (.int p3), .val (.int p4), .val (.int p5), .val (.ref b1), .val (.ref b66), .unset, .unset, .unset, .unset, .unset, .unset, .unset, .unset, .unset, .unset, .unset, .unset] [(.ref b132)])) _
    refine XS.dup X140.here hx rfl (hb hby at_340) rfl rfl ?_
    show Steps p.tables e below (T140.setTop (mkF m 341 #[.val (.int p0), .val (.int p1), .val (.int p2), .val (.int p3), .val (.int p4), .val (.int p5), .val (.ref b1), .val (.ref b66), .unset, .unset, .unset, .unset, .unset, .unset, .unset, .unset, .unset, .unset, .unset, .unset] [(.ref b132), (.ref b132)])) _
    refine XS.iconst X140.here hx rfl (hb hby at_341) ?_
    show Steps p.tables e below (T140.setTop (mkF m 342 #[.val (.int p0), .val (.int p1), .val (.int p2), .val (.int p3), .val (.int p4), .val (.int p5), .val (.ref b1), .val (.ref b66), .unset, .unset, .unset, .unset, .unset, .unset, .unset, .unset, .unset, .unset, .unset, .unset] [(.int (4 : Int32)), (.ref b132), (.ref b132)])) _
    refine XS.iconst X140.here hx rfl (hb hby at_342) ?_
    show Steps p.tables e below (T140.setTop (mkF m 343 #[.val (.int p0), .val (.int p1), .val (.int p2), .val (.int p3), .val (.int p4), .val (.int p5), .val (.ref b1), .val (.ref b66), .unset, .unset, .unset, .unset, .unset, .unset, .unset, .unset, .unset, .unset, .unset, .unset] [(.int (3 : Int32)), (.int (4 : Int32)), (.ref b132), (.ref b132)])) _
    refine st142 _ ?_
    show Steps p.tables e below (T142.setTop (mkF m 344 #[.val (.int p0), .val (.int p1), .val (.int p2), .val (.int p3), .val (.int p4), .val (.int p5), .val (.ref b1), .val (.ref b66), .unset, .unset, .unset, .unset, .unset, .unset, .unset, .unset, .unset, .unset, .unset, .unset] [(.ref b132)])) _
    refine XS.dup X142.here hx rfl (hb hby at_344) rfl rfl ?_
    show Steps p.tables e below (T142.setTop (mkF m 345 #[.val (.int p0), .val (.int p1), .val (.int p2), .val (.int p3), .val (.int p4), .val (.int p5), .val (.ref b1), .val (.ref b66), .unset, .unset, .unset, .unset, .unset, .unset, .unset, .unset, .unset, .unset, .unset, .unset] [(.ref b132), (.ref b132)])) _
    refine XS.iconst X142.here hx rfl (hb hby at_345) ?_
    show Steps p.tables e below (T142.setTop (mkF m 346 #[.val (.int p0), .val (.int p1), .val (.int p2), .val (.int p3), .val (.int p4), .val (.int p5), .val (.ref b1), .val (.ref b66), .unset, .unset, .unset, .unset, .unset, .unset, .unset, .unset, .unset, .unset, .unset, .unset] [(.int (5 : Int32)), (.ref b132), (.ref b132)])) _
    refine XS.iconst X142.here hx rfl (hb hby at_346) ?_
    show Steps p.tables e below (T142.setTop (mkF m 347 #[.val (.int p0), .val (.int p1), .val (.int p2), .val (.int p3), .val (.int p4), .val (.int p5), .val (.ref b1), .val (.ref b66), .unset, .unset, .unset, .unset, .unset, .unset, .unset, .unset, .unset, .unset, .unset, .unset] [(.int (3 : Int32)), (.int (5 : Int32)), (.ref b132), (.ref b132)])) _
    refine st144 _ ?_
    show Steps p.tables e below (T144.setTop (mkF m 348 #[.val (.int p0), .val (.int p1), .val (.int p2), .val (.int p3), .val (.int p4), .val (.int p5), .val (.ref b1), .val (.ref b66), .unset, .unset, .unset, .unset, .unset, .unset, .unset, .unset, .unset, .unset, .unset, .unset] [(.ref b132)])) _
    refine XS.dup X144.here hx rfl (hb hby at_348) rfl rfl ?_
    show Steps p.tables e below (T144.setTop (mkF m 349 #[.val (.int p0), .val (.int p1), .val (.int p2), .val (.int p3), .val (.int p4), .val (.int p5), .val (.ref b1), .val (.ref b66), .unset, .unset, .unset, .unset, .unset, .unset, .unset, .unset, .unset, .unset, .unset, .unset] [(.ref b132), (.ref b132)])) _
    refine XS.bipush X144.here hx rfl (hb hby at_349) ?_
    show Steps p.tables e below (T144.setTop (mkF m 351 #[.val (.int p0), .val (.int p1), .val (.int p2), .val (.int p3), .val (.int p4), .val (.int p5), .val (.ref b1), .val (.ref b66), .unset, .unset, .unset, .unset, .unset, .unset, .unset, .unset, .unset, .unset, .unset, .unset] [(.int (6 : Int32)), (.ref b132), (.ref b132)])) _
    refine XS.iconst X144.here hx rfl (hb hby at_351) ?_
    show Steps p.tables e below (T144.setTop (mkF m 352 #[.val (.int p0), .val (.int p1), .val (.int p2), .val (.int p3), .val (.int p4), .val (.int p5), .val (.ref b1), .val (.ref b66), .unset, .unset, .unset, .unset, .unset, .unset, .unset, .unset, .unset, .unset, .unset, .unset] [(.int (3 : Int32)), (.int (6 : Int32)), (.ref b132), (.ref b132)])) _
    refine st146 _ ?_
    show Steps p.tables e below (T146.setTop (mkF m 353 #[.val (.int p0), .val (.int p1), .val (.int p2), .val (.int p3), .val (.int p4), .val (.int p5), .val (.ref b1), .val (.ref b66), .unset, .unset, .unset, .unset, .unset, .unset, .unset, .unset, .unset, .unset, .unset, .unset] [(.ref b132)])) _
    refine XS.dup X146.here hx rfl (hb hby at_353) rfl rfl ?_
    show Steps p.tables e below (T146.setTop (mkF m 354 #[.val (.int p0), .val (.int p1), .val (.int p2), .val (.int p3), .val (.int p4), .val (.int p5), .val (.ref b1), .val (.ref b66), .unset, .unset, .unset, .unset, .unset, .unset, .unset, .unset, .unset, .unset, .unset, .unset] [(.ref b132), (.ref b132)])) _
    refine XS.bipush X146.here hx rfl (hb hby at_354) ?_
    show Steps p.tables e below (T146.setTop (mkF m 356 #[.val (.int p0), .val (.int p1), .val (.int p2), .val (.int p3), .val (.int p4), .val (.int p5), .val (.ref b1), .val (.ref b66), .unset, .unset, .unset, .unset, .unset, .unset, .unset, .unset, .unset, .unset, .unset, .unset] [(.int (7 : Int32)), (.ref b132), (.ref b132)])) _
    refine XS.iconst X146.here hx rfl (hb hby at_356) ?_
    show Steps p.tables e below (T146.setTop (mkF m 357 #[.val (.int p0), .val (.int p1), .val (.int p2), .val (.int p3), .val (.int p4), .val (.int p5), .val (.ref b1), .val (.ref b66), .unset, .unset, .unset, .unset, .unset, .unset, .unset, .unset, .unset, .unset, .unset, .unset] [(.int (3 : Int32)), (.int (7 : Int32)), (.ref b132), (.ref b132)])) _
    refine st148 _ ?_
    show Steps p.tables e below (T148.setTop (mkF m 358 #[.val (.int p0), .val (.int p1), .val (.int p2), .val (.int p3), .val (.int p4), .val (.int p5), .val (.ref b1), .val (.ref b66), .unset, .unset, .unset, .unset, .unset, .unset, .unset, .unset, .unset, .unset, .unset, .unset] [(.ref b132)])) _
    refine XS.dup X148.here hx rfl (hb hby at_358) rfl rfl ?_
    show Steps p.tables e below (T148.setTop (mkF m 359 #[.val (.int p0), .val (.int p1), .val (.int p2), .val (.int p3), .val (.int p4), .val (.int p5), .val (.ref b1), .val (.ref b66), .unset, .unset, .unset, .unset, .unset, .unset, .unset, .unset, .unset, .unset, .unset, .unset] [(.ref b132), (.ref b132)])) _
    refine XS.bipush X148.here hx rfl (hb hby at_359) ?_
    show Steps p.tables e below (T148.setTop (mkF m 361 #[.val (.int p0), .val (.int p1), .val (.int p2), .val (.int p3), .val (.int p4), .val (.int p5), .val (.ref b1), .val (.ref b66), .unset, .unset, .unset, .unset, .unset, .unset, .unset, .unset, .unset, .unset, .unset, .unset] [(.int (8 : Int32)), (.ref b132), (.ref b132)])) _
    refine XS.iconst X148.here hx rfl (hb hby at_361) ?_
    show Steps p.tables e below (T148.setTop (mkF m 362 #[.val (.int p0), .val (.int p1), .val (.int p2), .val (.int p3), .val (.int p4), .val (.int p5), .val (.ref b1), .val (.ref b66), .unset, .unset, .unset, .unset, .unset, .unset, .unset, .unset, .unset, .unset, .unset, .unset] [(.int (3 : Int32)), (.int (8 : Int32)), (.ref b132), (.ref b132)])) _
    refine st150 _ ?_
    show Steps p.tables e below (T150.setTop (mkF m 363 #[.val (.int p0), .val (.int p1), .val (.int p2), .val (.int p3), .val (.int p4), .val (.int p5), .val (.ref b1), .val (.ref b66), .unset, .unset, .unset, .unset, .unset, .unset, .unset, .unset, .unset, .unset, .unset, .unset] [(.ref b132)])) _
    refine XS.dup X150.here hx rfl (hb hby at_363) rfl rfl ?_
    show Steps p.tables e below (T150.setTop (mkF m 364 #[.val (.int p0), .val (.int p1), .val (.int p2), .val (.int p3), .val (.int p4), .val (.int p5), .val (.ref b1), .val (.ref b66), .unset, .unset, .unset, .unset, .unset, .unset, .unset, .unset, .unset, .unset, .unset, .unset] [(.ref b132), (.ref b132)])) _
    refine XS.bipush X150.here hx rfl (hb hby at_364) ?_
    show Steps p.tables e below (T150.setTop (mkF m 366 #[.val (.int p0), .val (.int p1), .val (.int p2), .val (.int p3), .val (.int p4), .val (.int p5), .val (.ref b1), .val (.ref b66), .unset, .unset, .unset, .unset, .unset, .unset, .unset, .unset, .unset, .unset, .unset, .unset] [(.int (9 : Int32)), (.ref b132), (.ref b132)])) _
    refine XS.iconst X150.here hx rfl (hb hby at_366) ?_
    show Steps p.tables e below (T150.setTop (mkF m 367 #[.val (.int p0), .val (.int p1), .val (.int p2), .val (.int p3), .val (.int p4), .val (.int p5), .val (.ref b1), .val (.ref b66), .unset, .unset, .unset, .unset, .unset, .unset, .unset, .unset, .unset, .unset, .unset, .unset] [(.int (3 : Int32)), (.int (9 : Int32)), (.ref b132), (.ref b132)])) _
    refine st152 _ ?_
    show Steps p.tables e below (T152.setTop (mkF m 368 #[.val (.int p0), .val (.int p1), .val (.int p2), .val (.int p3), .val (.int p4), .val (.int p5), .val (.ref b1), .val (.ref b66), .unset, .unset, .unset, .unset, .unset, .unset, .unset, .unset, .unset, .unset, .unset, .unset] [(.ref b132)])) _
    refine XS.dup X152.here hx rfl (hb hby at_368) rfl rfl ?_
    show Steps p.tables e below (T152.setTop (mkF m 369 #[.val (.int p0), .val (.int p1), .val (.int p2), .val (.int p3), .val (.int p4), .val (.int p5), .val (.ref b1), .val (.ref b66), .unset, .unset, .unset, .unset, .unset, .unset, .unset, .unset, .unset, .unset, .unset, .unset] [(.ref b132), (.ref b132)])) _
    refine XS.bipush X152.here hx rfl (hb hby at_369) ?_
    show Steps p.tables e below (T152.setTop (mkF m 371 #[.val (.int p0), .val (.int p1), .val (.int p2), .val (.int p3), .val (.int p4), .val (.int p5), .val (.ref b1), .val (.ref b66), .unset, .unset, .unset, .unset, .unset, .unset, .unset, .unset, .unset, .unset, .unset, .unset] [(.int (10 : Int32)), (.ref b132), (.ref b132)])) _
    refine XS.iconst X152.here hx rfl (hb hby at_371) ?_
    show Steps p.tables e below (T152.setTop (mkF m 372 #[.val (.int p0), .val (.int p1), .val (.int p2), .val (.int p3), .val (.int p4), .val (.int p5), .val (.ref b1), .val (.ref b66), .unset, .unset, .unset, .unset, .unset, .unset, .unset, .unset, .unset, .unset, .unset, .unset] [(.int (3 : Int32)), (.int (10 : Int32)), (.ref b132), (.ref b132)])) _
    refine st154 _ ?_
    show Steps p.tables e below (T154.setTop (mkF m 373 #[.val (.int p0), .val (.int p1), .val (.int p2), .val (.int p3), .val (.int p4), .val (.int p5), .val (.ref b1), .val (.ref b66), .unset, .unset, .unset, .unset, .unset, .unset, .unset, .unset, .unset, .unset, .unset, .unset] [(.ref b132)])) _
    refine XS.dup X154.here hx rfl (hb hby at_373) rfl rfl ?_
    show Steps p.tables e below (T154.setTop (mkF m 374 #[.val (.int p0), .val (.int p1), .val (.int p2), .val (.int p3), .val (.int p4), .val (.int p5), .val (.ref b1), .val (.ref b66), .unset, .unset, .unset, .unset, .unset, .unset, .unset, .unset, .unset, .unset, .unset, .unset] [(.ref b132), (.ref b132)])) _
    refine XS.bipush X154.here hx rfl (hb hby at_374) ?_
    show Steps p.tables e below (T154.setTop (mkF m 376 #[.val (.int p0), .val (.int p1), .val (.int p2), .val (.int p3), .val (.int p4), .val (.int p5), .val (.ref b1), .val (.ref b66), .unset, .unset, .unset, .unset, .unset, .unset, .unset, .unset, .unset, .unset, .unset, .unset] [(.int (11 : Int32)), (.ref b132), (.ref b132)])) _
    refine XS.iconst X154.here hx rfl (hb hby at_376) ?_
    show Steps p.tables e below (T154.setTop (mkF m 377 #[.val (.int p0), .val (.int p1), .val (.int p2), .val (.int p3), .val (.int p4), .val (.int p5), .val (.ref b1), .val (.ref b66), .unset, .unset, .unset, .unset, .unset, .unset, .unset, .unset, .unset, .unset, .unset, .unset] [(.int (3 : Int32)), (.int (11 : Int32)), (.ref b132), (.ref b132)])) _
    refine st156 _ ?_
    show Steps p.tables e below (T156.setTop (mkF m 378 #[.val (.int p0), .val (.int p1), .val (.int p2), .val (.int p3), .val (.int p4), .val (.int p5), .val (.ref b1), .val (.ref b66), .unset, .unset, .unset, .unset, .unset, .unset, .unset, .unset, .unset, .unset, .unset, .unset] [(.ref b132)])) _
    refine XS.dup X156.here hx rfl (hb hby at_378) rfl rfl ?_
    show Steps p.tables e below (T156.setTop (mkF m 379 #[.val (.int p0), .val (.int p1), .val (.int p2), .val (.int p3), .val (.int p4), .val (.int p5), .val (.ref b1), .val (.ref b66), .unset, .unset, .unset, .unset, .unset, .unset, .unset, .unset, .unset, .unset, .unset, .unset] [(.ref b132), (.ref b132)])) _
    refine XS.bipush X156.here hx rfl (hb hby at_379) ?_
    show Steps p.tables e below (T156.setTop (mkF m 381 #[.val (.int p0), .val (.int p1), .val (.int p2), .val (.int p3), .val (.int p4), .val (.int p5), .val (.ref b1), .val (.ref b66), .unset, .unset, .unset, .unset, .unset, .unset, .unset, .unset, .unset, .unset, .unset, .unset] [(.int (12 : Int32)), (.ref b132), (.ref b132)])) _
    refine XS.iconst X156.here hx rfl (hb hby at_381) ?_
    show Steps p.tables e below (T156.setTop (mkF m 382 #[.val (.int p0), .val (.int p1), .val (.int p2), .val (.int p3), .val (.int p4), .val (.int p5), .val (.ref b1), .val (.ref b66), .unset, .unset, .unset, .unset, .unset, .unset, .unset, .unset, .unset, .unset, .unset, .unset] [(.int (3 : Int32)), (.int (12 : Int32)), (.ref b132), (.ref b132)])) _
    refine st158 _ ?_
    show Steps p.tables e below (T158.setTop (mkF m 383 #[.val (.int p0), .val (.int p1), .val (.int p2), .val (.int p3), .val (.int p4), .val (.int p5), .val (.ref b1), .val (.ref b66), .unset, .unset, .unset, .unset, .unset, .unset, .unset, .unset, .unset, .unset, .unset, .unset] [(.ref b132)])) _
    refine XS.dup X158.here hx rfl (hb hby at_383) rfl rfl ?_
    show Steps p.tables e below (T158.setTop (mkF m 384 #[.val (.int p0), .val (.int p1), .val (.int p2), .val (.int p3), .val (.int p4), .val (.int p5), .val (.ref b1), .val (.ref b66), .unset, .unset, .unset, .unset, .unset, .unset, .unset, .unset, .unset, .unset, .unset, .unset] [(.ref b132), (.ref b132)])) _
    refine XS.bipush X158.here hx rfl (hb hby at_384) ?_
    show Steps p.tables e below (T158.setTop (mkF m 386 #[.val (.int p0), .val (.int p1), .val (.int p2), .val (.int p3), .val (.int p4), .val (.int p5), .val (.ref b1), .val (.ref b66), .unset, .unset, .unset, .unset, .unset, .unset, .unset, .unset, .unset, .unset, .unset, .unset] [(.int (13 : Int32)), (.ref b132), (.ref b132)])) _
    refine XS.iconst X158.here hx rfl (hb hby at_386) ?_
    show Steps p.tables e below (T158.setTop (mkF m 387 #[.val (.int p0), .val (.int p1), .val (.int p2), .val (.int p3), .val (.int p4), .val (.int p5), .val (.ref b1), .val (.ref b66), .unset, .unset, .unset, .unset, .unset, .unset, .unset, .unset, .unset, .unset, .unset, .unset] [(.int (3 : Int32)), (.int (13 : Int32)), (.ref b132), (.ref b132)])) _
    refine st160 _ ?_
    show Steps p.tables e below (T160.setTop (mkF m 388 #[.val (.int p0), .val (.int p1), .val (.int p2), .val (.int p3), .val (.int p4), .val (.int p5), .val (.ref b1), .val (.ref b66), .unset, .unset, .unset, .unset, .unset, .unset, .unset, .unset, .unset, .unset, .unset, .unset] [(.ref b132)])) _
    refine XS.dup X160.here hx rfl (hb hby at_388) rfl rfl ?_
    show Steps p.tables e below (T160.setTop (mkF m 389 #[.val (.int p0), .val (.int p1), .val (.int p2), .val (.int p3), .val (.int p4), .val (.int p5), .val (.ref b1), .val (.ref b66), .unset, .unset, .unset, .unset, .unset, .unset, .unset, .unset, .unset, .unset, .unset, .unset] [(.ref b132), (.ref b132)])) _
    refine XS.bipush X160.here hx rfl (hb hby at_389) ?_
    show Steps p.tables e below (T160.setTop (mkF m 391 #[.val (.int p0), .val (.int p1), .val (.int p2), .val (.int p3), .val (.int p4), .val (.int p5), .val (.ref b1), .val (.ref b66), .unset, .unset, .unset, .unset, .unset, .unset, .unset, .unset, .unset, .unset, .unset, .unset] [(.int (14 : Int32)), (.ref b132), (.ref b132)])) _
    refine XS.iconst X160.here hx rfl (hb hby at_391) ?_
    show Steps p.tables e below (T160.setTop (mkF m 392 #[.val (.int p0), .val (.int p1), .val (.int p2), .val (.int p3), .val (.int p4), .val (.int p5), .val (.ref b1), .val (.ref b66), .unset, .unset, .unset, .unset, .unset, .unset, .unset, .unset, .unset, .unset, .unset, .unset] [(.int (3 : Int32)), (.int (14 : Int32)), (.ref b132), (.ref b132)])) _
    refine st162 _ ?_
    show Steps p.tables e below (T162.setTop (mkF m 393 #[.val (.int p0), .val (.int p1), .val (.int p2), .val (.int p3), .val (.int p4), .val (.int p5), .val (.ref b1), .val (.ref b66), .unset, .unset, .unset, .unset, .unset, .unset, .unset, .unset, .unset, .unset, .unset, .unset] [(.ref b132)])) _
    refine XS.dup X162.here hx rfl (hb hby at_393) rfl rfl ?_
    show Steps p.tables e below (T162.setTop (mkF m 394 #[.val (.int p0), .val (.int p1), .val (.int p2), .val (.int p3), .val (.int p4), .val (.int p5), .val (.ref b1), .val (.ref b66), .unset, .unset, .unset, .unset, .unset, .unset, .unset, .unset, .unset, .unset, .unset, .unset] [(.ref b132), (.ref b132)])) _
    refine XS.bipush X162.here hx rfl (hb hby at_394) ?_
    show Steps p.tables e below (T162.setTop (mkF m 396 #[.val (.int p0), .val (.int p1), .val (.int p2), .val (.int p3), .val (.int p4), .val (.int p5), .val (.ref b1), .val (.ref b66), .unset, .unset, .unset, .unset, .unset, .unset, .unset, .unset, .unset, .unset, .unset, .unset] [(.int (15 : Int32)), (.ref b132), (.ref b132)])) _
    refine XS.iconst X162.here hx rfl (hb hby at_396) ?_
    show Steps p.tables e below (T162.setTop (mkF m 397 #[.val (.int p0), .val (.int p1), .val (.int p2), .val (.int p3), .val (.int p4), .val (.int p5), .val (.ref b1), .val (.ref b66), .unset, .unset, .unset, .unset, .unset, .unset, .unset, .unset, .unset, .unset, .unset, .unset] [(.int (3 : Int32)), (.int (15 : Int32)), (.ref b132), (.ref b132)])) _
    refine st164 _ ?_
    show Steps p.tables e below (T164.setTop (mkF m 398 #[.val (.int p0), .val (.int p1), .val (.int p2), .val (.int p3), .val (.int p4), .val (.int p5), .val (.ref b1), .val (.ref b66), .unset, .unset, .unset, .unset, .unset, .unset, .unset, .unset, .unset, .unset, .unset, .unset] [(.ref b132)])) _
    refine XS.dup X164.here hx rfl (hb hby at_398) rfl rfl ?_
    show Steps p.tables e below (T164.setTop (mkF m 399 #[.val (.int p0), .val (.int p1), .val (.int p2), .val (.int p3), .val (.int p4), .val (.int p5), .val (.ref b1), .val (.ref b66), .unset, .unset, .unset, .unset, .unset, .unset, .unset, .unset, .unset, .unset, .unset, .unset] [(.ref b132), (.ref b132)])) _
    refine XS.bipush X164.here hx rfl (hb hby at_399) ?_
    show Steps p.tables e below (T164.setTop (mkF m 401 #[.val (.int p0), .val (.int p1), .val (.int p2), .val (.int p3), .val (.int p4), .val (.int p5), .val (.ref b1), .val (.ref b66), .unset, .unset, .unset, .unset, .unset, .unset, .unset, .unset, .unset, .unset, .unset, .unset] [(.int (16 : Int32)), (.ref b132), (.ref b132)])) _
    refine XS.iconst X164.here hx rfl (hb hby at_401) ?_
    show Steps p.tables e below (T164.setTop (mkF m 402 #[.val (.int p0), .val (.int p1), .val (.int p2), .val (.int p3), .val (.int p4), .val (.int p5), .val (.ref b1), .val (.ref b66), .unset, .unset, .unset, .unset, .unset, .unset, .unset, .unset, .unset, .unset, .unset, .unset] [(.int (3 : Int32)), (.int (16 : Int32)), (.ref b132), (.ref b132)])) _
    refine st166 _ ?_
    show Steps p.tables e below (T166.setTop (mkF m 403 #[.val (.int p0), .val (.int p1), .val (.int p2), .val (.int p3), .val (.int p4), .val (.int p5), .val (.ref b1), .val (.ref b66), .unset, .unset, .unset, .unset, .unset, .unset, .unset, .unset, .unset, .unset, .unset, .unset] [(.ref b132)])) _
    refine XS.dup X166.here hx rfl (hb hby at_403) rfl rfl ?_
    show Steps p.tables e below (T166.setTop (mkF m 404 #[.val (.int p0), .val (.int p1), .val (.int p2), .val (.int p3), .val (.int p4), .val (.int p5), .val (.ref b1), .val (.ref b66), .unset, .unset, .unset, .unset, .unset, .unset, .unset, .unset, .unset, .unset, .unset, .unset] [(.ref b132), (.ref b132)])) _
    refine XS.bipush X166.here hx rfl (hb hby at_404) ?_
    show Steps p.tables e below (T166.setTop (mkF m 406 #[.val (.int p0), .val (.int p1), .val (.int p2), .val (.int p3), .val (.int p4), .val (.int p5), .val (.ref b1), .val (.ref b66), .unset, .unset, .unset, .unset, .unset, .unset, .unset, .unset, .unset, .unset, .unset, .unset] [(.int (17 : Int32)), (.ref b132), (.ref b132)])) _
    refine XS.iconst X166.here hx rfl (hb hby at_406) ?_
    show Steps p.tables e below (T166.setTop (mkF m 407 #[.val (.int p0), .val (.int p1), .val (.int p2), .val (.int p3), .val (.int p4), .val (.int p5), .val (.ref b1), .val (.ref b66), .unset, .unset, .unset, .unset, .unset, .unset, .unset, .unset, .unset, .unset, .unset, .unset] [(.int (3 : Int32)), (.int (17 : Int32)), (.ref b132), (.ref b132)])) _
    refine st168 _ ?_
    show Steps p.tables e below (T168.setTop (mkF m 408 #[.val (.int p0), .val (.int p1), .val (.int p2), .val (.int p3), .val (.int p4), .val (.int p5), .val (.ref b1), .val (.ref b66), .unset, .unset, .unset, .unset, .unset, .unset, .unset, .unset, .unset, .unset, .unset, .unset] [(.ref b132)])) _
    refine XS.dup X168.here hx rfl (hb hby at_408) rfl rfl ?_
    show Steps p.tables e below (T168.setTop (mkF m 409 #[.val (.int p0), .val (.int p1), .val (.int p2), .val (.int p3), .val (.int p4), .val (.int p5), .val (.ref b1), .val (.ref b66), .unset, .unset, .unset, .unset, .unset, .unset, .unset, .unset, .unset, .unset, .unset, .unset] [(.ref b132), (.ref b132)])) _
    refine XS.bipush X168.here hx rfl (hb hby at_409) ?_
    show Steps p.tables e below (T168.setTop (mkF m 411 #[.val (.int p0), .val (.int p1), .val (.int p2), .val (.int p3), .val (.int p4), .val (.int p5), .val (.ref b1), .val (.ref b66), .unset, .unset, .unset, .unset, .unset, .unset, .unset, .unset, .unset, .unset, .unset, .unset] [(.int (18 : Int32)), (.ref b132), (.ref b132)])) _
    refine XS.iconst X168.here hx rfl (hb hby at_411) ?_
    show Steps p.tables e below (T168.setTop (mkF m 412 #[.val (.int p0), .val (.int p1), .val (.int p2), .val (.int p3), .val (.int p4), .val (.int p5), .val (.ref b1), .val (.ref b66), .unset, .unset, .unset, .unset, .unset, .unset, .unset, .unset, .unset, .unset, .unset, .unset] [(.int (3 : Int32)), (.int (18 : Int32)), (.ref b132), (.ref b132)])) _
    refine st170 _ ?_
    show Steps p.tables e below (T170.setTop (mkF m 413 #[.val (.int p0), .val (.int p1), .val (.int p2), .val (.int p3), .val (.int p4), .val (.int p5), .val (.ref b1), .val (.ref b66), .unset, .unset, .unset, .unset, .unset, .unset, .unset, .unset, .unset, .unset, .unset, .unset] [(.ref b132)])) _
    refine XS.dup X170.here hx rfl (hb hby at_413) rfl rfl ?_
    show Steps p.tables e below (T170.setTop (mkF m 414 #[.val (.int p0), .val (.int p1), .val (.int p2), .val (.int p3), .val (.int p4), .val (.int p5), .val (.ref b1), .val (.ref b66), .unset, .unset, .unset, .unset, .unset, .unset, .unset, .unset, .unset, .unset, .unset, .unset] [(.ref b132), (.ref b132)])) _
    refine XS.bipush X170.here hx rfl (hb hby at_414) ?_
    show Steps p.tables e below (T170.setTop (mkF m 416 #[.val (.int p0), .val (.int p1), .val (.int p2), .val (.int p3), .val (.int p4), .val (.int p5), .val (.ref b1), .val (.ref b66), .unset, .unset, .unset, .unset, .unset, .unset, .unset, .unset, .unset, .unset, .unset, .unset] [(.int (19 : Int32)), (.ref b132), (.ref b132)])) _
    refine XS.iconst X170.here hx rfl (hb hby at_416) ?_
    show Steps p.tables e below (T170.setTop (mkF m 417 #[.val (.int p0), .val (.int p1), .val (.int p2), .val (.int p3), .val (.int p4), .val (.int p5), .val (.ref b1), .val (.ref b66), .unset, .unset, .unset, .unset, .unset, .unset, .unset, .unset, .unset, .unset, .unset, .unset] [(.int (3 : Int32)), (.int (19 : Int32)), (.ref b132), (.ref b132)])) _
    refine st172 _ ?_
    show Steps p.tables e below (T172.setTop (mkF m 418 #[.val (.int p0), .val (.int p1), .val (.int p2), .val (.int p3), .val (.int p4), .val (.int p5), .val (.ref b1), .val (.ref b66), .unset, .unset, .unset, .unset, .unset, .unset, .unset, .unset, .unset, .unset, .unset, .unset] [(.ref b132)])) _
    refine XS.dup X172.here hx rfl (hb hby at_418) rfl rfl ?_
    show Steps p.tables e below (T172.setTop (mkF m 419 #[.val (.int p0), .val (.int p1), .val (.int p2), .val (.int p3), .val (.int p4), .val (.int p5), .val (.ref b1), .val (.ref b66), .unset, .unset, .unset, .unset, .unset, .unset, .unset, .unset, .unset, .unset, .unset, .unset] [(.ref b132), (.ref b132)])) _
    refine XS.bipush X172.here hx rfl (hb hby at_419) ?_
    show Steps p.tables e below (T172.setTop (mkF m 421 #[.val (.int p0), .val (.int p1), .val (.int p2), .val (.int p3), .val (.int p4), .val (.int p5), .val (.ref b1), .val (.ref b66), .unset, .unset, .unset, .unset, .unset, .unset, .unset, .unset, .unset, .unset, .unset, .unset] [(.int (20 : Int32)), (.ref b132), (.ref b132)])) _
    refine XS.iconst X172.here hx rfl (hb hby at_421) ?_
    show Steps p.tables e below (T172.setTop (mkF m 422 #[.val (.int p0), .val (.int p1), .val (.int p2), .val (.int p3), .val (.int p4), .val (.int p5), .val (.ref b1), .val (.ref b66), .unset, .unset, .unset, .unset, .unset, .unset, .unset, .unset, .unset, .unset, .unset, .unset] [(.int (3 : Int32)), (.int (20 : Int32)), (.ref b132), (.ref b132)])) _
    refine st174 _ ?_
    show Steps p.tables e below (T174.setTop (mkF m 423 #[.val (.int p0), .val (.int p1), .val (.int p2), .val (.int p3), .val (.int p4), .val (.int p5), .val (.ref b1), .val (.ref b66), .unset, .unset, .unset, .unset, .unset, .unset, .unset, .unset, .unset, .unset, .unset, .unset] [(.ref b132)])) _
    refine XS.dup X174.here hx rfl (hb hby at_423) rfl rfl ?_
    show Steps p.tables e below (T174.setTop (mkF m 424 #[.val (.int p0), .val (.int p1), .val (.int p2), .val (.int p3), .val (.int p4), .val (.int p5), .val (.ref b1), .val (.ref b66), .unset, .unset, .unset, .unset, .unset, .unset, .unset, .unset, .unset, .unset, .unset, .unset] [(.ref b132), (.ref b132)])) _
    refine XS.bipush X174.here hx rfl (hb hby at_424) ?_
    show Steps p.tables e below (T174.setTop (mkF m 426 #[.val (.int p0), .val (.int p1), .val (.int p2), .val (.int p3), .val (.int p4), .val (.int p5), .val (.ref b1), .val (.ref b66), .unset, .unset, .unset, .unset, .unset, .unset, .unset, .unset, .unset, .unset, .unset, .unset] [(.int (21 : Int32)), (.ref b132), (.ref b132)])) _
    refine XS.iconst X174.here hx rfl (hb hby at_426) ?_
    show Steps p.tables e below (T174.setTop (mkF m 427 #[.val (.int p0), .val (.int p1), .val (.int p2), .val (.int p3), .val (.int p4), .val (.int p5), .val (.ref b1), .val (.ref b66), .unset, .unset, .unset, .unset, .unset, .unset, .unset, .unset, .unset, .unset, .unset, .unset] [(.int (3 : Int32)), (.int (21 : Int32)), (.ref b132), (.ref b132)])) _
    refine st176 _ ?_
    show Steps p.tables e below (T176.setTop (mkF m 428 #[.val (.int p0), .val (.int p1), .val (.int p2), .val (.int p3), .val (.int p4), .val (.int p5), .val (.ref b1), .val (.ref b66), .unset, .unset, .unset, .unset, .unset, .unset, .unset, .unset, .unset, .unset, .unset, .unset] [(.ref b132)])) _
    refine XS.dup X176.here hx rfl (hb hby at_428) rfl rfl ?_
    show Steps p.tables e below (T176.setTop (mkF m 429 #[.val (.int p0), .val (.int p1), .val (.int p2), .val (.int p3), .val (.int p4), .val (.int p5), .val (.ref b1), .val (.ref b66), .unset, .unset, .unset, .unset, .unset, .unset, .unset, .unset, .unset, .unset, .unset, .unset] [(.ref b132), (.ref b132)])) _
    refine XS.bipush X176.here hx rfl (hb hby at_429) ?_
    show Steps p.tables e below (T176.setTop (mkF m 431 #[.val (.int p0), .val (.int p1), .val (.int p2), .val (.int p3), .val (.int p4), .val (.int p5), .val (.ref b1), .val (.ref b66), .unset, .unset, .unset, .unset, .unset, .unset, .unset, .unset, .unset, .unset, .unset, .unset] [(.int (22 : Int32)), (.ref b132), (.ref b132)])) _
    refine XS.iconst X176.here hx rfl (hb hby at_431) ?_
    show Steps p.tables e below (T176.setTop (mkF m 432 #[.val (.int p0), .val (.int p1), .val (.int p2), .val (.int p3), .val (.int p4), .val (.int p5), .val (.ref b1), .val (.ref b66), .unset, .unset, .unset, .unset, .unset, .unset, .unset, .unset, .unset, .unset, .unset, .unset] [(.int (3 : Int32)), (.int (22 : Int32)), (.ref b132), (.ref b132)])) _
    refine st178 _ ?_
    show Steps p.tables e below (T178.setTop (mkF m 433 #[.val (.int p0), .val (.int p1), .val (.int p2), .val (.int p3), .val (.int p4), .val (.int p5), .val (.ref b1), .val (.ref b66), .unset, .unset, .unset, .unset, .unset, .unset, .unset, .unset, .unset, .unset, .unset, .unset] [(.ref b132)])) _
    refine XS.dup X178.here hx rfl (hb hby at_433) rfl rfl ?_
    show Steps p.tables e below (T178.setTop (mkF m 434 #[.val (.int p0), .val (.int p1), .val (.int p2), .val (.int p3), .val (.int p4), .val (.int p5), .val (.ref b1), .val (.ref b66), .unset, .unset, .unset, .unset, .unset, .unset, .unset, .unset, .unset, .unset, .unset, .unset] [(.ref b132), (.ref b132)])) _
    refine XS.bipush X178.here hx rfl (hb hby at_434) ?_
    show Steps p.tables e below (T178.setTop (mkF m 436 #[.val (.int p0), .val (.int p1), .val (.int p2), .val (.int p3), .val (.int p4), .val (.int p5), .val (.ref b1), .val (.ref b66), .unset, .unset, .unset, .unset, .unset, .unset, .unset, .unset, .unset, .unset, .unset, .unset] [(.int (23 : Int32)), (.ref b132), (.ref b132)])) _
    refine XS.iconst X178.here hx rfl (hb hby at_436) ?_
    show Steps p.tables e below (T178.setTop (mkF m 437 #[.val (.int p0), .val (.int p1), .val (.int p2), .val (.int p3), .val (.int p4), .val (.int p5), .val (.ref b1), .val (.ref b66), .unset, .unset, .unset, .unset, .unset, .unset, .unset, .unset, .unset, .unset, .unset, .unset] [(.int (3 : Int32)), (.int (23 : Int32)), (.ref b132), (.ref b132)])) _
    refine st180 _ ?_
    show Steps p.tables e below (T180.setTop (mkF m 438 #[.val (.int p0), .val (.int p1), .val (.int p2), .val (.int p3), .val (.int p4), .val (.int p5), .val (.ref b1), .val (.ref b66), .unset, .unset, .unset, .unset, .unset, .unset, .unset, .unset, .unset, .unset, .unset, .unset] [(.ref b132)])) _
    refine XS.dup X180.here hx rfl (hb hby at_438) rfl rfl ?_
    show Steps p.tables e below (T180.setTop (mkF m 439 #[.val (.int p0), .val (.int p1), .val (.int p2), .val (.int p3), .val (.int p4), .val (.int p5), .val (.ref b1), .val (.ref b66), .unset, .unset, .unset, .unset, .unset, .unset, .unset, .unset, .unset, .unset, .unset, .unset] [(.ref b132), (.ref b132)])) _
    refine XS.bipush X180.here hx rfl (hb hby at_439) ?_
    show Steps p.tables e below (T180.setTop (mkF m 441 #[.val (.int p0), .val (.int p1), .val (.int p2), .val (.int p3), .val (.int p4), .val (.int p5), .val (.ref b1), .val (.ref b66), .unset, .unset, .unset, .unset, .unset, .unset, .unset, .unset, .unset, .unset, .unset, .unset] [(.int (24 : Int32)), (.ref b132), (.ref b132)])) _
    refine XS.iconst X180.here hx rfl (hb hby at_441) ?_
    show Steps p.tables e below (T180.setTop (mkF m 442 #[.val (.int p0), .val (.int p1), .val (.int p2), .val (.int p3), .val (.int p4), .val (.int p5), .val (.ref b1), .val (.ref b66), .unset, .unset, .unset, .unset, .unset, .unset, .unset, .unset, .unset, .unset, .unset, .unset] [(.int (3 : Int32)), (.int (24 : Int32)), (.ref b132), (.ref b132)])) _
    refine st182 _ ?_
    show Steps p.tables e below (T182.setTop (mkF m 443 #[.val (.int p0), .val (.int p1), .val (.int p2), .val (.int p3), .val (.int p4), .val (.int p5), .val (.ref b1), .val (.ref b66), .unset, .unset, .unset, .unset, .unset, .unset, .unset, .unset, .unset, .unset, .unset, .unset] [(.ref b132)])) _
    refine XS.dup X182.here hx rfl (hb hby at_443) rfl rfl ?_
    show Steps p.tables e below (T182.setTop (mkF m 444 #[.val (.int p0), .val (.int p1), .val (.int p2), .val (.int p3), .val (.int p4), .val (.int p5), .val (.ref b1), .val (.ref b66), .unset, .unset, .unset, .unset, .unset, .unset, .unset, .unset, .unset, .unset, .unset, .unset] [(.ref b132), (.ref b132)])) _
    refine XS.bipush X182.here hx rfl (hb hby at_444) ?_
    show Steps p.tables e below (T182.setTop (mkF m 446 #[.val (.int p0), .val (.int p1), .val (.int p2), .val (.int p3), .val (.int p4), .val (.int p5), .val (.ref b1), .val (.ref b66), .unset, .unset, .unset, .unset, .unset, .unset, .unset, .unset, .unset, .unset, .unset, .unset] [(.int (25 : Int32)), (.ref b132), (.ref b132)])) _
    refine XS.iconst X182.here hx rfl (hb hby at_446) ?_
    show Steps p.tables e below (T182.setTop (mkF m 447 #[.val (.int p0), .val (.int p1), .val (.int p2), .val (.int p3), .val (.int p4), .val (.int p5), .val (.ref b1), .val (.ref b66), .unset, .unset, .unset, .unset, .unset, .unset, .unset, .unset, .unset, .unset, .unset, .unset] [(.int (3 : Int32)), (.int (25 : Int32)), (.ref b132), (.ref b132)])) _
    refine st184 _ ?_
    show Steps p.tables e below (T184.setTop (mkF m 448 #[.val (.int p0), .val (.int p1), .val (.int p2), .val (.int p3), .val (.int p4), .val (.int p5), .val (.ref b1), .val (.ref b66), .unset, .unset, .unset, .unset, .unset, .unset, .unset, .unset, .unset, .unset, .unset, .unset] [(.ref b132)])) _
    refine XS.dup X184.here hx rfl (hb hby at_448) rfl rfl ?_
    show Steps p.tables e below (T184.setTop (mkF m 449 #[.val (.int p0), .val (.int p1), .val (.int p2), .val (.int p3), .val (.int p4), .val (.int p5), .val (.ref b1), .val (.ref b66), .unset, .unset, .unset, .unset, .unset, .unset, .unset, .unset, .unset, .unset, .unset, .unset] [(.ref b132), (.ref b132)])) _
    refine XS.bipush X184.here hx rfl (hb hby at_449) ?_
    show Steps p.tables e below (T184.setTop (mkF m 451 #[.val (.int p0), .val (.int p1), .val (.int p2), .val (.int p3), .val (.int p4), .val (.int p5), .val (.ref b1), .val (.ref b66), .unset, .unset, .unset, .unset, .unset, .unset, .unset, .unset, .unset, .unset, .unset, .unset] [(.int (26 : Int32)), (.ref b132), (.ref b132)])) _
    refine XS.iconst X184.here hx rfl (hb hby at_451) ?_
    show Steps p.tables e below (T184.setTop (mkF m 452 #[.val (.int p0), .val (.int p1), .val (.int p2), .val (.int p3), .val (.int p4), .val (.int p5), .val (.ref b1), .val (.ref b66), .unset, .unset, .unset, .unset, .unset, .unset, .unset, .unset, .unset, .unset, .unset, .unset] [(.int (3 : Int32)), (.int (26 : Int32)), (.ref b132), (.ref b132)])) _
    refine st186 _ ?_
    show Steps p.tables e below (T186.setTop (mkF m 453 #[.val (.int p0), .val (.int p1), .val (.int p2), .val (.int p3), .val (.int p4), .val (.int p5), .val (.ref b1), .val (.ref b66), .unset, .unset, .unset, .unset, .unset, .unset, .unset, .unset, .unset, .unset, .unset, .unset] [(.ref b132)])) _
    refine XS.dup X186.here hx rfl (hb hby at_453) rfl rfl ?_
    show Steps p.tables e below (T186.setTop (mkF m 454 #[.val (.int p0), .val (.int p1), .val (.int p2), .val (.int p3), .val (.int p4), .val (.int p5), .val (.ref b1), .val (.ref b66), .unset, .unset, .unset, .unset, .unset, .unset, .unset, .unset, .unset, .unset, .unset, .unset] [(.ref b132), (.ref b132)])) _
    refine XS.bipush X186.here hx rfl (hb hby at_454) ?_
    show Steps p.tables e below (T186.setTop (mkF m 456 #[.val (.int p0), .val (.int p1), .val (.int p2), .val (.int p3), .val (.int p4), .val (.int p5), .val (.ref b1), .val (.ref b66), .unset, .unset, .unset, .unset, .unset, .unset, .unset, .unset, .unset, .unset, .unset, .unset] [(.int (27 : Int32)), (.ref b132), (.ref b132)])) _
    refine XS.iconst X186.here hx rfl (hb hby at_456) ?_
    show Steps p.tables e below (T186.setTop (mkF m 457 #[.val (.int p0), .val (.int p1), .val (.int p2), .val (.int p3), .val (.int p4), .val (.int p5), .val (.ref b1), .val (.ref b66), .unset, .unset, .unset, .unset, .unset, .unset, .unset, .unset, .unset, .unset, .unset, .unset] [(.int (3 : Int32)), (.int (27 : Int32)), (.ref b132), (.ref b132)])) _
    refine st188 _ ?_
    show Steps p.tables e below (T188.setTop (mkF m 458 #[.val (.int p0), .val (.int p1), .val (.int p2), .val (.int p3), .val (.int p4), .val (.int p5), .val (.ref b1), .val (.ref b66), .unset, .unset, .unset, .unset, .unset, .unset, .unset, .unset, .unset, .unset, .unset, .unset] [(.ref b132)])) _
    refine XS.dup X188.here hx rfl (hb hby at_458) rfl rfl ?_
    show Steps p.tables e below (T188.setTop (mkF m 459 #[.val (.int p0), .val (.int p1), .val (.int p2), .val (.int p3), .val (.int p4), .val (.int p5), .val (.ref b1), .val (.ref b66), .unset, .unset, .unset, .unset, .unset, .unset, .unset, .unset, .unset, .unset, .unset, .unset] [(.ref b132), (.ref b132)])) _
    refine XS.bipush X188.here hx rfl (hb hby at_459) ?_
    show Steps p.tables e below (T188.setTop (mkF m 461 #[.val (.int p0), .val (.int p1), .val (.int p2), .val (.int p3), .val (.int p4), .val (.int p5), .val (.ref b1), .val (.ref b66), .unset, .unset, .unset, .unset, .unset, .unset, .unset, .unset, .unset, .unset, .unset, .unset] [(.int (28 : Int32)), (.ref b132), (.ref b132)])) _
    refine XS.iconst X188.here hx rfl (hb hby at_461) ?_
    show Steps p.tables e below (T188.setTop (mkF m 462 #[.val (.int p0), .val (.int p1), .val (.int p2), .val (.int p3), .val (.int p4), .val (.int p5), .val (.ref b1), .val (.ref b66), .unset, .unset, .unset, .unset, .unset, .unset, .unset, .unset, .unset, .unset, .unset, .unset] [(.int (3 : Int32)), (.int (28 : Int32)), (.ref b132), (.ref b132)])) _
    refine st190 _ ?_
    show Steps p.tables e below (T190.setTop (mkF m 463 #[.val (.int p0), .val (.int p1), .val (.int p2), .val (.int p3), .val (.int p4), .val (.int p5), .val (.ref b1), .val (.ref b66), .unset, .unset, .unset, .unset, .unset, .unset, .unset, .unset, .unset, .unset, .unset, .unset] [(.ref b132)])) _
    refine XS.dup X190.here hx rfl (hb hby at_463) rfl rfl ?_
    show Steps p.tables e below (T190.setTop (mkF m 464 #[.val (.int p0), .val (.int p1), .val (.int p2), .val (.int p3), .val (.int p4), .val (.int p5), .val (.ref b1), .val (.ref b66), .unset, .unset, .unset, .unset, .unset, .unset, .unset, .unset, .unset, .unset, .unset, .unset] [(.ref b132), (.ref b132)])) _
    refine XS.bipush X190.here hx rfl (hb hby at_464) ?_
    show Steps p.tables e below (T190.setTop (mkF m 466 #[.val (.int p0), .val (.int p1), .val (.int p2), .val (.int p3), .val (.int p4), .val (.int p5), .val (.ref b1), .val (.ref b66), .unset, .unset, .unset, .unset, .unset, .unset, .unset, .unset, .unset, .unset, .unset, .unset] [(.int (29 : Int32)), (.ref b132), (.ref b132)])) _
    refine XS.iconst X190.here hx rfl (hb hby at_466) ?_
    show Steps p.tables e below (T190.setTop (mkF m 467 #[.val (.int p0), .val (.int p1), .val (.int p2), .val (.int p3), .val (.int p4), .val (.int p5), .val (.ref b1), .val (.ref b66), .unset, .unset, .unset, .unset, .unset, .unset, .unset, .unset, .unset, .unset, .unset, .unset] [(.int (3 : Int32)), (.int (29 : Int32)), (.ref b132), (.ref b132)])) _
    refine st192 _ ?_
    show Steps p.tables e below (T192.setTop (mkF m 468 #[.val (.int p0), .val (.int p1), .val (.int p2), .val (.int p3), .val (.int p4), .val (.int p5), .val (.ref b1), .val (.ref b66), .unset, .unset, .unset, .unset, .unset, .unset, .unset, .unset, .unset, .unset, .unset, .unset] [(.ref b132)])) _
    refine XS.dup X192.here hx rfl (hb hby at_468) rfl rfl ?_
    show Steps p.tables e below (T192.setTop (mkF m 469 #[.val (.int p0), .val (.int p1), .val (.int p2), .val (.int p3), .val (.int p4), .val (.int p5), .val (.ref b1), .val (.ref b66), .unset, .unset, .unset, .unset, .unset, .unset, .unset, .unset, .unset, .unset, .unset, .unset] [(.ref b132), (.ref b132)])) _
    refine XS.bipush X192.here hx rfl (hb hby at_469) ?_
    show Steps p.tables e below (T192.setTop (mkF m 471 #[.val (.int p0), .val (.int p1), .val (.int p2), .val (.int p3), .val (.int p4), .val (.int p5), .val (.ref b1), .val (.ref b66), .unset, .unset, .unset, .unset, .unset, .unset, .unset, .unset, .unset, .unset, .unset, .unset] [(.int (30 : Int32)), (.ref b132), (.ref b132)])) _
    refine XS.iconst X192.here hx rfl (hb hby at_471) ?_
    show Steps p.tables e below (T192.setTop (mkF m 472 #[.val (.int p0), .val (.int p1), .val (.int p2), .val (.int p3), .val (.int p4), .val (.int p5), .val (.ref b1), .val (.ref b66), .unset, .unset, .unset, .unset, .unset, .unset, .unset, .unset, .unset, .unset, .unset, .unset] [(.int (3 : Int32)), (.int (30 : Int32)), (.ref b132), (.ref b132)])) _
    refine st194 _ ?_
    show Steps p.tables e below (T194.setTop (mkF m 473 #[.val (.int p0), .val (.int p1), .val (.int p2), .val (.int p3), .val (.int p4), .val (.int p5), .val (.ref b1), .val (.ref b66), .unset, .unset, .unset, .unset, .unset, .unset, .unset, .unset, .unset, .unset, .unset, .unset] [(.ref b132)])) _
    refine XS.dup X194.here hx rfl (hb hby at_473) rfl rfl ?_
    show Steps p.tables e below (T194.setTop (mkF m 474 #[.val (.int p0), .val (.int p1), .val (.int p2), .val (.int p3), .val (.int p4), .val (.int p5), .val (.ref b1), .val (.ref b66), .unset, .unset, .unset, .unset, .unset, .unset, .unset, .unset, .unset, .unset, .unset, .unset] [(.ref b132), (.ref b132)])) _
    refine XS.bipush X194.here hx rfl (hb hby at_474) ?_
    show Steps p.tables e below (T194.setTop (mkF m 476 #[.val (.int p0), .val (.int p1), .val (.int p2), .val (.int p3), .val (.int p4), .val (.int p5), .val (.ref b1), .val (.ref b66), .unset, .unset, .unset, .unset, .unset, .unset, .unset, .unset, .unset, .unset, .unset, .unset] [(.int (31 : Int32)), (.ref b132), (.ref b132)])) _
    refine XS.iconst X194.here hx rfl (hb hby at_476) ?_
    show Steps p.tables e below (T194.setTop (mkF m 477 #[.val (.int p0), .val (.int p1), .val (.int p2), .val (.int p3), .val (.int p4), .val (.int p5), .val (.ref b1), .val (.ref b66), .unset, .unset, .unset, .unset, .unset, .unset, .unset, .unset, .unset, .unset, .unset, .unset] [(.int (3 : Int32)), (.int (31 : Int32)), (.ref b132), (.ref b132)])) _
    refine st196 _ ?_
    show Steps p.tables e below (T196.setTop (mkF m 478 #[.val (.int p0), .val (.int p1), .val (.int p2), .val (.int p3), .val (.int p4), .val (.int p5), .val (.ref b1), .val (.ref b66), .unset, .unset, .unset, .unset, .unset, .unset, .unset, .unset, .unset, .unset, .unset, .unset] [(.ref b132)])) _
    refine XS.astore X196.here hx rfl (hb hby at_478) rfl rfl (l' := #[.val (.int p0), .val (.int p1), .val (.int p2), .val (.int p3), .val (.int p4), .val (.int p5), .val (.ref b1), .val (.ref b66), .val (.ref b132), .unset, .unset, .unset, .unset, .unset, .unset, .unset, .unset, .unset, .unset, .unset]) rfl ?_
    show Steps p.tables e below (T196.setTop (mkF m 480 #[.val (.int p0), .val (.int p1), .val (.int p2), .val (.int p3), .val (.int p4), .val (.int p5), .val (.ref b1), .val (.ref b66), .val (.ref b132), .unset, .unset, .unset, .unset, .unset, .unset, .unset, .unset, .unset, .unset, .unset] [])) _
    refine XS.iloadN X196.here hx rfl (hb hby at_480) rfl ?_
    show Steps p.tables e below (T196.setTop (mkF m 481 #[.val (.int p0), .val (.int p1), .val (.int p2), .val (.int p3), .val (.int p4), .val (.int p5), .val (.ref b1), .val (.ref b66), .val (.ref b132), .unset, .unset, .unset, .unset, .unset, .unset, .unset, .unset, .unset, .unset, .unset] [(.int p0)])) _
    refine XS.bipush X196.here hx rfl (hb hby at_481) ?_
    show Steps p.tables e below (T196.setTop (mkF m 483 #[.val (.int p0), .val (.int p1), .val (.int p2), .val (.int p3), .val (.int p4), .val (.int p5), .val (.ref b1), .val (.ref b66), .val (.ref b132), .unset, .unset, .unset, .unset, .unset, .unset, .unset, .unset, .unset, .unset, .unset] [(.int (15 : Int32)), (.int p0)])) _
    refine XS.iand X196.here hx rfl (hb hby at_483) rfl ?_
    show Steps p.tables e below (T196.setTop (mkF m 484 #[.val (.int p0), .val (.int p1), .val (.int p2), .val (.int p3), .val (.int p4), .val (.int p5), .val (.ref b1), .val (.ref b66), .val (.ref b132), .unset, .unset, .unset, .unset, .unset, .unset, .unset, .unset, .unset, .unset, .unset] [(.int (p0 &&& (15 : Int32)))])) _
    exact kt
  obtain ⟨sv199, hsv199⟩ : ∃ z, z = (((p0.toUInt32 >>> ((4 : Int32) &&& 31).toUInt32).toInt32) &&& (15 : Int32)) := ⟨_, rfl⟩
  have pre200 : ∀ t, Steps p.tables e below (T196.setTop (mkF m 492 #[.val (.int p0), .val (.int p1), .val (.int p2), .val (.int p3), .val (.int p4), .val (.int p5), .val (.ref b1), .val (.ref b66), .val (.ref b132), .val (.int lv197), .unset, .unset, .unset, .unset, .unset, .unset, .unset, .unset, .unset, .unset] [(.int sv199)])) t → Steps p.tables e below (s₁.setTop (entryFrame m #[(.int p0), (.int p1), (.int p2), (.int p3), (.int p4), (.int p5)] maxLocals)) t := by
    intro t kt
    rw [hsv199] at kt
    refine pre198 _ ?_
    show Steps p.tables e below (T196.setTop (mkF m 484 #[.val (.int p0), .val (.int p1), .val (.int p2), .val (.int p3), .val (.int p4), .val (.int p5), .val (.ref b1), .val (.ref b66), .val (.ref b132), .unset, .unset, .unset, .unset, .unset, .unset, .unset, .unset, .unset, .unset, .unset] [(.int lv197)])) _
    refine XS.istore X196.here hx rfl (hb hby at_484) rfl (l' := #[.val (.int p0), .val (.int p1), .val (.int p2), .val (.int p3), .val (.int p4), .val (.int p5), .val (.ref b1), .val (.ref b66), .val (.ref b132), .val (.int lv197), .unset, .unset, .unset, .unset, .unset, .unset, .unset, .unset, .unset, .unset]) rfl ?_
    show Steps p.tables e below (T196.setTop (mkF m 486 #[.val (.int p0), .val (.int p1), .val (.int p2), .val (.int p3), .val (.int p4), .val (.int p5), .val (.ref b1), .val (.ref b66), .val (.ref b132), .val (.int lv197), .unset, .unset, .unset, .unset, .unset, .unset, .unset, .unset, .unset, .unset] [])) _
    refine XS.iloadN X196.here hx rfl (hb hby at_486) rfl ?_
    show Steps p.tables e below (T196.setTop (mkF m 487 #[.val (.int p0), .val (.int p1), .val (.int p2), .val (.int p3), .val (.int p4), .val (.int p5), .val (.ref b1), .val (.ref b66), .val (.ref b132), .val (.int lv197), .unset, .unset, .unset, .unset, .unset, .unset, .unset, .unset, .unset, .unset] [(.int p0)])) _
    refine XS.iconst X196.here hx rfl (hb hby at_487) ?_
    show Steps p.tables e below (T196.setTop (mkF m 488 #[.val (.int p0), .val (.int p1), .val (.int p2), .val (.int p3), .val (.int p4), .val (.int p5), .val (.ref b1), .val (.ref b66), .val (.ref b132), .val (.int lv197), .unset, .unset, .unset, .unset, .unset, .unset, .unset, .unset, .unset, .unset] [(.int (4 : Int32)), (.int p0)])) _
    refine XS.iushr X196.here hx rfl (hb hby at_488) rfl ?_
    show Steps p.tables e below (T196.setTop (mkF m 489 #[.val (.int p0), .val (.int p1), .val (.int p2), .val (.int p3), .val (.int p4), .val (.int p5), .val (.ref b1), .val (.ref b66), .val (.ref b132), .val (.int lv197), .unset, .unset, .unset, .unset, .unset, .unset, .unset, .unset, .unset, .unset] [(.int ((p0.toUInt32 >>> ((4 : Int32) &&& 31).toUInt32).toInt32))])) _
    refine XS.bipush X196.here hx rfl (hb hby at_489) ?_
    show Steps p.tables e below (T196.setTop (mkF m 491 #[.val (.int p0), .val (.int p1), .val (.int p2), .val (.int p3), .val (.int p4), .val (.int p5), .val (.ref b1), .val (.ref b66), .val (.ref b132), .val (.int lv197), .unset, .unset, .unset, .unset, .unset, .unset, .unset, .unset, .unset, .unset] [(.int (15 : Int32)), (.int ((p0.toUInt32 >>> ((4 : Int32) &&& 31).toUInt32).toInt32))])) _
    refine XS.iand X196.here hx rfl (hb hby at_491) rfl ?_
    show Steps p.tables e below (T196.setTop (mkF m 492 #[.val (.int p0), .val (.int p1), .val (.int p2), .val (.int p3), .val (.int p4), .val (.int p5), .val (.ref b1), .val (.ref b66), .val (.ref b132), .val (.int lv197), .unset, .unset, .unset, .unset, .unset, .unset, .unset, .unset, .unset, .unset] [(.int (((p0.toUInt32 >>> ((4 : Int32) &&& 31).toUInt32).toInt32) &&& (15 : Int32)))])) _
    exact kt
  obtain ⟨lv201, hlv201⟩ : ∃ z, z = ((1 : Int32) + (p1 &&& (15 : Int32))) := ⟨_, rfl⟩
  have pre202 : ∀ t, Steps p.tables e below (T196.setTop (mkF m 500 #[.val (.int p0), .val (.int p1), .val (.int p2), .val (.int p3), .val (.int p4), .val (.int p5), .val (.ref b1), .val (.ref b66), .val (.ref b132), .val (.int lv197), .val (.int sv199), .unset, .unset, .unset, .unset, .unset, .unset, .unset, .unset, .unset] [(.int lv201)])) t → Steps p.tables e below (s₁.setTop (entryFrame m #[(.int p0), (.int p1), (.int p2), (.int p3), (.int p4), (.int p5)] maxLocals)) t := by
    intro t kt
    rw [hlv201] at kt
    refine pre200 _ ?_
    show Steps p.tables e below (T196.setTop (mkF m 492 #[.val (.int p0), .val (.int p1), .val (.int p2), .val (.int p3), .val (.int p4), .val (.int p5), .val (.ref b1), .val (.ref b66), .val (.ref b132), .val (.int lv197), .unset, .unset, .unset, .unset, .unset, .unset, .unset, .unset, .unset, .unset] [(.int sv199)])) _
    refine XS.istore X196.here hx rfl (hb hby at_492) rfl (l' := #[.val (.int p0), .val (.int p1), .val (.int p2), .val (.int p3), .val (.int p4), .val (.int p5), .val (.ref b1), .val (.ref b66), .val (.ref b132), .val (.int lv197), .val (.int sv199), .unset, .unset, .unset, .unset, .unset, .unset, .unset, .unset, .unset]) rfl ?_
    show Steps p.tables e below (T196.setTop (mkF m 494 #[.val (.int p0), .val (.int p1), .val (.int p2), .val (.int p3), .val (.int p4), .val (.int p5), .val (.ref b1), .val (.ref b66), .val (.ref b132), .val (.int lv197), .val (.int sv199), .unset, .unset, .unset, .unset, .unset, .unset, .unset, .unset, .unset] [])) _
    refine XS.iconst X196.here hx rfl (hb hby at_494) ?_
    show Steps p.tables e below (T196.setTop (mkF m 495 #[.val (.int p0), .val (.int p1), .val (.int p2), .val (.int p3), .val (.int p4), .val (.int p5), .val (.ref b1), .val (.ref b66), .val (.ref b132), .val (.int lv197), .val (.int sv199), .unset, .unset, .unset, .unset, .unset, .unset, .unset, .unset, .unset] [(.int (1 : Int32))])) _
    refine XS.iloadN X196.here hx rfl (hb hby at_495) rfl ?_
    show Steps p.tables e below (T196.setTop (mkF m 496 #[.val (.int p0), .val (.int p1), .val (.int p2), .val (.int p3), .val (.int p4), .val (.int p5), .val (.ref b1), .val (.ref b66), .val (.ref b132), .val (.int lv197), .val (.int sv199), .unset, .unset, .unset, .unset, .unset, .unset, .unset, .unset, .unset] [(.int p1), (.int (1 : Int32))])) _
    refine XS.bipush X196.here hx rfl (hb hby at_496) ?_
    show Steps p.tables e below (T196.setTop (mkF m 498 #[.val (.int p0), .val (.int p1), .val (.int p2), .val (.int p3), .val (.int p4), .val (.int p5), .val (.ref b1), .val (.ref b66), .val (.ref b132), .val (.int lv197), .val (.int sv199), .unset, .unset, .unset, .unset, .unset, .unset, .unset, .unset, .unset] [(.int (15 : Int32)), (.int p1), (.int (1 : Int32))])) _
    refine XS.iand X196.here hx rfl (hb hby at_498) rfl ?_
    show Steps p.tables e below (T196.setTop (mkF m 499 #[.val (.int p0), .val (.int p1), .val (.int p2), .val (.int p3), .val (.int p4), .val (.int p5), .val (.ref b1), .val (.ref b66), .val (.ref b132), .val (.int lv197), .val (.int sv199), .unset, .unset, .unset, .unset, .unset, .unset, .unset, .unset, .unset] [(.int (p1 &&& (15 : Int32))), (.int (1 : Int32))])) _
    refine XS.iadd X196.here hx rfl (hb hby at_499) rfl ?_
    show Steps p.tables e below (T196.setTop (mkF m 500 #[.val (.int p0), .val (.int p1), .val (.int p2), .val (.int p3), .val (.int p4), .val (.int p5), .val (.ref b1), .val (.ref b66), .val (.ref b132), .val (.int lv197), .val (.int sv199), .unset, .unset, .unset, .unset, .unset, .unset, .unset, .unset, .unset] [(.int ((1 : Int32) + (p1 &&& (15 : Int32))))])) _
    exact kt
  obtain ⟨sv203, hsv203⟩ : ∃ z, z = (((p1.toUInt32 >>> ((4 : Int32) &&& 31).toUInt32).toInt32) &&& (15 : Int32)) := ⟨_, rfl⟩
  have pre204 : ∀ t, Steps p.tables e below (T196.setTop (mkF m 508 #[.val (.int p0), .val (.int p1), .val (.int p2), .val (.int p3), .val (.int p4), .val (.int p5), .val (.ref b1), .val (.ref b66), .val (.ref b132), .val (.int lv197), .val (.int sv199), .val (.int lv201), .unset, .unset, .unset, .unset, .unset, .unset, .unset, .unset] [(.int sv203)])) t → Steps p.tables e below (s₁.setTop (entryFrame m #[(.int p0), (.int p1), (.int p2), (.int p3), (.int p4), (.int p5)] maxLocals)) t := by
    intro t kt
    rw [hsv203] at kt
    refine pre202 _ ?_
    show Steps p.tables e below (T196.setTop (mkF m 500 #[.val (.int p0), .val (.int p1), .val (.int p2), .val (.int p3), .val (.int p4), .val (.int p5), .val (.ref b1), .val (.ref b66), .val (.ref b132), .val (.int lv197), .val (.int sv199), .unset, .unset, .unset, .unset, .unset, .unset, .unset, .unset, .unset] [(.int lv201)])) _
    refine XS.istore X196.here hx rfl (hb hby at_500) rfl (l' := #[.val (.int p0), .val (.int p1), .val (.int p2), .val (.int p3), .val (.int p4), .val (.int p5), .val (.ref b1), .val (.ref b66), .val (.ref b132), .val (.int lv197), .val (.int sv199), .val (.int lv201), .unset, .unset, .unset, .unset, .unset, .unset, .unset, .unset]) rfl ?_
    show Steps p.tables e below (T196.setTop (mkF m 502 #[.val (.int p0), .val (.int p1), .val (.int p2), .val (.int p3), .val (.int p4), .val (.int p5), .val (.ref b1), .val (.ref b66), .val (.ref b132), .val (.int lv197), .val (.int sv199), .val (.int lv201), .unset, .unset, .unset, .unset, .unset, .unset, .unset, .unset] [])) _
    refine XS.iloadN X196.here hx rfl (hb hby at_502) rfl ?_
    show Steps p.tables e below (T196.setTop (mkF m 503 #[.val (.int p0), .val (.int p1), .val (.int p2), .val (.int p3), .val (.int p4), .val (.int p5), .val (.ref b1), .val (.ref b66), .val (.ref b132), .val (.int lv197), .val (.int sv199), .val (.int lv201), .unset, .unset, .unset, .unset, .unset, .unset, .unset, .unset] [(.int p1)])) _
    refine XS.iconst X196.here hx rfl (hb hby at_503) ?_
    show Steps p.tables e below (T196.setTop (mkF m 504 #[.val (.int p0), .val (.int p1), .val (.int p2), .val (.int p3), .val (.int p4), .val (.int p5), .val (.ref b1), .val (.ref b66), .val (.ref b132), .val (.int lv197), .val (.int sv199), .val (.int lv201), .unset, .unset, .unset, .unset, .unset, .unset, .unset, .unset] [(.int (4 : Int32)), (.int p1)])) _
    refine XS.iushr X196.here hx rfl (hb hby at_504) rfl ?_
    show Steps p.tables e below (T196.setTop (mkF m 505 #[.val (.int p0), .val (.int p1), .val (.int p2), .val (.int p3), .val (.int p4), .val (.int p5), .val (.ref b1), .val (.ref b66), .val (.ref b132), .val (.int lv197), .val (.int sv199), .val (.int lv201), .unset, .unset, .unset, .unset, .unset, .unset, .unset, .unset] [(.int ((p1.toUInt32 >>> ((4 : Int32) &&& 31).toUInt32).toInt32))])) _
    refine XS.bipush X196.here hx rfl (hb hby at_505) ?_
    show Steps p.tables e below (T196.setTop (mkF m 507 #[.val (.int p0), .val (.int p1), .val (.int p2), .val (.int p3), .val (.int p4), .val (.int p5), .val (.ref b1), .val (.ref b66), .val (.ref b132), .val (.int lv197), .val (.int sv199), .val (.int lv201), .unset, .unset, .unset, .unset, .unset, .unset, .unset, .unset] [(.int (15 : Int32)), (.int ((p1.toUInt32 >>> ((4 : Int32) &&& 31).toUInt32).toInt32))])) _
    refine XS.iand X196.here hx rfl (hb hby at_507) rfl ?_
    show Steps p.tables e below (T196.setTop (mkF m 508 #[.val (.int p0), .val (.int p1), .val (.int p2), .val (.int p3), .val (.int p4), .val (.int p5), .val (.ref b1), .val (.ref b66), .val (.ref b132), .val (.int lv197), .val (.int sv199), .val (.int lv201), .unset, .unset, .unset, .unset, .unset, .unset, .unset, .unset] [(.int (((p1.toUInt32 >>> ((4 : Int32) &&& 31).toUInt32).toInt32) &&& (15 : Int32)))])) _
    exact kt
  obtain ⟨lv205, hlv205⟩ : ∃ z, z = ((1 : Int32) + (p2 &&& (15 : Int32))) := ⟨_, rfl⟩
  have pre206 : ∀ t, Steps p.tables e below (T196.setTop (mkF m 516 #[.val (.int p0), .val (.int p1), .val (.int p2), .val (.int p3), .val (.int p4), .val (.int p5), .val (.ref b1), .val (.ref b66), .val (.ref b132), .val (.int lv197), .val (.int sv199), .val (.int lv201), .val (.int sv203), .unset, .unset, .unset, .unset, .unset, .unset, .unset] [(.int lv205)])) t → Steps p.tables e below (s₁.setTop (entryFrame m #[(.int p0), (.int p1), (.int p2), (.int p3), (.int p4), (.int p5)] maxLocals)) t := by
    intro t kt
    rw [hlv205] at kt
    refine pre204 _ ?_
    show Steps p.tables e below (T196.setTop (mkF m 508 #[.val (.int p0), .val (.int p1), .val (.int p2), .val (.int p3), .val (.int p4), .val (.int p5), .val (.ref b1), .val (.ref b66), .val (.ref b132), .val (.int lv197), .val (.int sv199), .val (.int lv201), .unset, .unset, .unset, .unset, .unset, .unset, .unset, .unset] [(.int sv203)])) _
    refine XS.istore X196.here hx rfl (hb hby at_508) rfl (l' := #[.val (.int p0), .val (.int p1), .val (.int p2), .val (.int p3), .val (.int p4), .val (.int p5), .val (.ref b1), .val (.ref b66), .val (.ref b132), .val (.int lv197), .val (.int sv199), .val (.int lv201), .val (.int sv203), .unset, .unset, .unset, .unset, .unset, .unset, .unset]) rfl ?_
    show Steps p.tables e below (T196.setTop (mkF m 510 #[.val (.int p0), .val (.int p1), .val (.int p2), .val (.int p3), .val (.int p4), .val (.int p5), .val (.ref b1), .val (.ref b66), .val (.ref b132), .val (.int lv197), .val (.int sv199), .val (.int lv201), .val (.int sv203), .unset, .unset, .unset, .unset, .unset, .unset, .unset] [])) _
    refine XS.iconst X196.here hx rfl (hb hby at_510) ?_
    show Steps p.tables e below (T196.setTop (mkF m 511 #[.val (.int p0), .val (.int p1), .val (.int p2), .val (.int p3), .val (.int p4), .val (.int p5), .val (.ref b1), .val (.ref b66), .val (.ref b132), .val (.int lv197), .val (.int sv199), .val (.int lv201), .val (.int sv203), .unset, .unset, .unset, .unset, .unset, .unset, .unset] [(.int (1 : Int32))])) _
    refine XS.iloadN X196.here hx rfl (hb hby at_511) rfl ?_
    show Steps p.tables e below (T196.setTop (mkF m 512 #[.val (.int p0), .val (.int p1), .val (.int p2), .val (.int p3), .val (.int p4), .val (.int p5), .val (.ref b1), .val (.ref b66), .val (.ref b132), .val (.int lv197), .val (.int sv199), .val (.int lv201), .val (.int sv203), .unset, .unset, .unset, .unset, .unset, .unset, .unset] [(.int p2), (.int (1 : Int32))])) _
    refine XS.bipush X196.here hx rfl (hb hby at_512) ?_
    show Steps p.tables e below (T196.setTop (mkF m 514 #[.val (.int p0), .val (.int p1), .val (.int p2), .val (.int p3), .val (.int p4), .val (.int p5), .val (.ref b1), .val (.ref b66), .val (.ref b132), .val (.int lv197), .val (.int sv199), .val (.int lv201), .val (.int sv203), .unset, .unset, .unset, .unset, .unset, .unset, .unset] [(.int (15 : Int32)), (.int p2), (.int (1 : Int32))])) _
    refine XS.iand X196.here hx rfl (hb hby at_514) rfl ?_
    show Steps p.tables e below (T196.setTop (mkF m 515 #[.val (.int p0), .val (.int p1), .val (.int p2), .val (.int p3), .val (.int p4), .val (.int p5), .val (.ref b1), .val (.ref b66), .val (.ref b132), .val (.int lv197), .val (.int sv199), .val (.int lv201), .val (.int sv203), .unset, .unset, .unset, .unset, .unset, .unset, .unset] [(.int (p2 &&& (15 : Int32))), (.int (1 : Int32))])) _
    refine XS.iadd X196.here hx rfl (hb hby at_515) rfl ?_
    show Steps p.tables e below (T196.setTop (mkF m 516 #[.val (.int p0), .val (.int p1), .val (.int p2), .val (.int p3), .val (.int p4), .val (.int p5), .val (.ref b1), .val (.ref b66), .val (.ref b132), .val (.int lv197), .val (.int sv199), .val (.int lv201), .val (.int sv203), .unset, .unset, .unset, .unset, .unset, .unset, .unset] [(.int ((1 : Int32) + (p2 &&& (15 : Int32))))])) _
    exact kt
  obtain ⟨sv207, hsv207⟩ : ∃ z, z = (((p2.toUInt32 >>> ((4 : Int32) &&& 31).toUInt32).toInt32) &&& (15 : Int32)) := ⟨_, rfl⟩
  have pre208 : ∀ t, Steps p.tables e below (T196.setTop (mkF m 524 #[.val (.int p0), .val (.int p1), .val (.int p2), .val (.int p3), .val (.int p4), .val (.int p5), .val (.ref b1), .val (.ref b66), .val (.ref b132), .val (.int lv197), .val (.int sv199), .val (.int lv201), .val (.int sv203), .val (.int lv205), .unset, .unset, .unset, .unset, .unset, .unset] [(.int sv207)])) t → Steps p.tables e below (s₁.setTop (entryFrame m #[(.int p0), (.int p1), (.int p2), (.int p3), (.int p4), (.int p5)] maxLocals)) t := by
    intro t kt
    rw [hsv207] at kt
    refine pre206 _ ?_
    show Steps p.tables e below (T196.setTop (mkF m 516 #[.val (.int p0), .val (.int p1), .val (.int p2), .val (.int p3), .val (.int p4), .val (.int p5), .val (.ref b1), .val (.ref b66), .val (.ref b132), .val (.int lv197), .val (.int sv199), .val (.int lv201), .val (.int sv203), .unset, .unset, .unset, .unset, .unset, .unset, .unset] [(.int lv205)])) _
    refine XS.istore X196.here hx rfl (hb hby at_516) rfl (l' := #[.val (.int p0), .val (.int p1), .val (.int p2), .val (.int p3), .val (.int p4), .val (.int p5), .val (.ref b1), .val (.ref b66), .val (.ref b132), .val (.int lv197), .val (.int sv199), .val (.int lv201), .val (.int sv203), .val (.int lv205), .unset, .unset, .unset, .unset, .unset, .unset]) rfl ?_
    show Steps p.tables e below (T196.setTop (mkF m 518 #[.val (.int p0), .val (.int p1), .val (.int p2), .val (.int p3), .val (.int p4), .val (.int p5), .val (.ref b1), .val (.ref b66), .val (.ref b132), .val (.int lv197), .val (.int sv199), .val (.int lv201), .val (.int sv203), .val (.int lv205), .unset, .unset, .unset, .unset, .unset, .unset] [])) _
    refine XS.iloadN X196.here hx rfl (hb hby at_518) rfl ?_
    show Steps p.tables e below (T196.setTop (mkF m 519 #[.val (.int p0), .val (.int p1), .val (.int p2), .val (.int p3), .val (.int p4), .val (.int p5), .val (.ref b1), .val (.ref b66), .val (.ref b132), .val (.int lv197), .val (.int sv199), .val (.int lv201), .val (.int sv203), .val (.int lv205), .unset, .unset, .unset, .unset, .unset, .unset] [(.int p2)])) _
    refine XS.iconst X196.here hx rfl (hb hby at_519) ?_
    show Steps p.tables e below (T196.setTop (mkF m 520 #[.val (.int p0), .val (.int p1), .val (.int p2), .val (.int p3), .val (.int p4), .val (.int p5), .val (.ref b1), .val (.ref b66), .val (.ref b132), .val (.int lv197), .val (.int sv199), .val (.int lv201), .val (.int sv203), .val (.int lv205), .unset, .unset, .unset, .unset, .unset, .unset] [(.int (4 : Int32)), (.int p2)])) _
    refine XS.iushr X196.here hx rfl (hb hby at_520) rfl ?_
    show Steps p.tables e below (T196.setTop (mkF m 521 #[.val (.int p0), .val (.int p1), .val (.int p2), .val (.int p3), .val (.int p4), .val (.int p5), .val (.ref b1), .val (.ref b66), .val (.ref b132), .val (.int lv197), .val (.int sv199), .val (.int lv201), .val (.int sv203), .val (.int lv205), .unset, .unset, .unset, .unset, .unset, .unset] [(.int ((p2.toUInt32 >>> ((4 : Int32) &&& 31).toUInt32).toInt32))])) _
    refine XS.bipush X196.here hx rfl (hb hby at_521) ?_
    show Steps p.tables e below (T196.setTop (mkF m 523 #[.val (.int p0), .val (.int p1), .val (.int p2), .val (.int p3), .val (.int p4), .val (.int p5), .val (.ref b1), .val (.ref b66), .val (.ref b132), .val (.int lv197), .val (.int sv199), .val (.int lv201), .val (.int sv203), .val (.int lv205), .unset, .unset, .unset, .unset, .unset, .unset] [(.int (15 : Int32)), (.int ((p2.toUInt32 >>> ((4 : Int32) &&& 31).toUInt32).toInt32))])) _
    refine XS.iand X196.here hx rfl (hb hby at_523) rfl ?_
    show Steps p.tables e below (T196.setTop (mkF m 524 #[.val (.int p0), .val (.int p1), .val (.int p2), .val (.int p3), .val (.int p4), .val (.int p5), .val (.ref b1), .val (.ref b66), .val (.ref b132), .val (.int lv197), .val (.int sv199), .val (.int lv201), .val (.int sv203), .val (.int lv205), .unset, .unset, .unset, .unset, .unset, .unset] [(.int (((p2.toUInt32 >>> ((4 : Int32) &&& 31).toUInt32).toInt32) &&& (15 : Int32)))])) _
    exact kt
  have c209 := (((((((((((((((((((((((((((((((((c131.ext E132).other W134 ne_b1_b132).other W136 ne_b1_b132).other W138 ne_b1_b132).other W140 ne_b1_b132).other W142 ne_b1_b132).other W144 ne_b1_b132).other W146 ne_b1_b132).other W148 ne_b1_b132).other W150 ne_b1_b132).other W152 ne_b1_b132).other W154 ne_b1_b132).other W156 ne_b1_b132).other W158 ne_b1_b132).other W160 ne_b1_b132).other W162 ne_b1_b132).other W164 ne_b1_b132).other W166 ne_b1_b132).other W168 ne_b1_b132).other W170 ne_b1_b132).other W172 ne_b1_b132).other W174 ne_b1_b132).other W176 ne_b1_b132).other W178 ne_b1_b132).other W180 ne_b1_b132).other W182 ne_b1_b132).other W184 ne_b1_b132).other W186 ne_b1_b132).other W188 ne_b1_b132).other W190 ne_b1_b132).other W192 ne_b1_b132).other W194 ne_b1_b132).other W196 ne_b1_b132)
  have c210 := (((((((((((((((((((((((((((((((((V130.ext E132).other W134 ne_b66_b132).other W136 ne_b66_b132).other W138 ne_b66_b132).other W140 ne_b66_b132).other W142 ne_b66_b132).other W144 ne_b66_b132).other W146 ne_b66_b132).other W148 ne_b66_b132).other W150 ne_b66_b132).other W152 ne_b66_b132).other W154 ne_b66_b132).other W156 ne_b66_b132).other W158 ne_b66_b132).other W160 ne_b66_b132).other W162 ne_b66_b132).other W164 ne_b66_b132).other W166 ne_b66_b132).other W168 ne_b66_b132).other W170 ne_b66_b132).other W172 ne_b66_b132).other W174 ne_b66_b132).other W176 ne_b66_b132).other W178 ne_b66_b132).other W180 ne_b66_b132).other W182 ne_b66_b132).other W184 ne_b66_b132).other W186 ne_b66_b132).other W188 ne_b66_b132).other W190 ne_b66_b132).other W192 ne_b66_b132).other W194 ne_b66_b132).other W196 ne_b66_b132)
  have pre211 : ∀ t, Steps p.tables e below (T196.setTop (mkF m 526 #[.val (.int p0), .val (.int p1), .val (.int p2), .val (.int p3), .val (.int p4), .val (.int p5), .val (.ref b1), .val (.ref b66), .val (.ref b132), .val (.int lv197), .val (.int sv199), .val (.int lv201), .val (.int sv203), .val (.int lv205), .val (.int sv207), .unset, .unset, .unset, .unset, .unset] [])) t → Steps p.tables e below (s₁.setTop (entryFrame m #[(.int p0), (.int p1), (.int p2), (.int p3), (.int p4), (.int p5)] maxLocals)) t := by
    intro t kt
    refine pre208 _ ?_
    show Steps p.tables e below (T196.setTop (mkF m 524 #[.val (.int p0), .val (.int p1), .val (.int p2), .val (.int p3), .val (.int p4), .val (.int p5), .val (.ref b1), .val (.ref b66), .val (.ref b132), .val (.int lv197), .val (.int sv199), .val (.int lv201), .val (.int sv203), .val (.int lv205), .unset, .unset, .unset, .unset, .unset, .unset] [(.int sv207)])) _
    refine XS.istore X196.here hx rfl (hb hby at_524) rfl (l' := #[.val (.int p0), .val (.int p1), .val (.int p2), .val (.int p3), .val (.int p4), .val (.int p5), .val (.ref b1), .val (.ref b66), .val (.ref b132), .val (.int lv197), .val (.int sv199), .val (.int lv201), .val (.int sv203), .val (.int lv205), .val (.int sv207), .unset, .unset, .unset, .unset, .unset]) rfl ?_
    show Steps p.tables e below (T196.setTop (mkF m 526 #[.val (.int p0), .val (.int p1), .val (.int p2), .val (.int p3), .val (.int p4), .val (.int p5), .val (.ref b1), .val (.ref b66), .val (.ref b132), .val (.int lv197), .val (.int sv199), .val (.int lv201), .val (.int sv203), .val (.int lv205), .val (.int sv207), .unset, .unset, .unset, .unset, .unset] [])) _
    exact kt
  obtain ⟨Lh212, Xh212, Nh212⟩ := own_hide X196 N196 (C := 3) (S := 96) (Nat.le_of_ble_eq_true rfl) (Nat.le_of_ble_eq_true rfl)
  clear X1 e1 E1 A1 st1 K1 V_b1 Aro2 qo2 So2 No2 Ho2 Go2 hino2 X3 e3 W3 st3 V3 K3 N3 Aro4 qo4 So4 No4 Ho4 Go4 hino4 X5 e5 W5 st5 V5 K5 N5 Aro6 qo6 So6 No6 Ho6 Go6 hino6 X7 e7 W7 st7 V7 K7 N7 Aro8 qo8 So8 No8 Ho8 Go8 hino8 X9 e9 W9 st9 V9 K9 N9 Aro10 qo10 So10 No10 Ho10 Go10 hino10 X11 e11 W11 st11 V11 K11 N11 Aro12 qo12 So12 No12 Ho12 Go12 hino12 X13 e13 W13 st13 V13 K13 N13 Aro14 qo14 So14 No14 Ho14 Go14 hino14 X15 e15 W15 st15 V15 K15 N15 Aro16 qo16 So16 No16 Ho16 Go16 hino16 X17 e17 W17 st17 V17 K17 N17 Aro18 qo18 So18 No18 Ho18 Go18 hino18 X19 e19 W19 st19 V19 K19 N19 Aro20 qo20 So20 No20 Ho20 Go20 hino20 X21 e21 W21 st21 V21 K21 N21 Aro22 qo22 So22 No22 Ho22 Go22 hino22 X23 e23 W23 st23 V23 K23 N23 Aro24 qo24 So24 No24 Ho24 Go24 hino24 X25 e25 W25 st25 V25 K25 N25 Aro26 qo26 So26 No26 Ho26 Go26 hino26 X27 e27 W27 st27 V27 K27 N27 Aro28 qo28 So28 No28 Ho28 Go28 hino28 X29 e29 W29 st29 V29 K29 N29 Aro30 qo30 So30 No30 Ho30 Go30 hino30 X31 e31 W31 st31 V31 K31 N31 Aro32 qo32 So32 No32 Ho32 Go32 hino32 X33 e33 W33 st33 V33 K33 N33 Aro34 qo34 So34 No34 Ho34 Go34 hino34 X35 e35 W35 st35 V35 K35 N35 Aro36 qo36 So36 No36 Ho36 Go36 hino36 X37 e37 W37 st37 V37 K37 N37 Aro38 qo38 So38 No38 Ho38 Go38 hino38 X39 e39 W39 st39 V39 K39 N39 Aro40 qo40 So40 No40 Ho40 Go40 hino40 X41 e41 W41 st41 V41 K41 N41 Aro42 qo42 So42 No42 Ho42 Go42 hino42 X43 e43 W43 st43 V43 K43 N43 Aro44 qo44 So44 No44 Ho44 Go44 hino44 X45 e45 W45 st45 V45 K45 N45 Aro46 qo46 So46 No46 Ho46 Go46 hino46 X47 e47 W47 st47 V47 K47 N47 Aro48 qo48 So48 No48 Ho48 Go48 hino48 X49 e49 W49 st49 V49 K49 N49 Aro50 qo50 So50 No50 Ho50 Go50 hino50 X51 e51 W51 st51 V51 K51 N51 Aro52 qo52 So52 No52 Ho52 Go52 hino52 X53 e53 W53 st53 V53 K53 N53 Aro54 qo54 So54 No54 Ho54 Go54 hino54 X55 e55 W55 st55 V55 K55 N55 Aro56 qo56 So56 No56 Ho56 Go56 hino56 X57 e57 W57 st57 V57 K57 N57 Aro58 qo58 So58 No58 Ho58 Go58 hino58 X59 e59 W59 st59 V59 K59 N59 Aro60 qo60 So60 No60 Ho60 Go60 hino60 X61 e61 W61 st61 V61 K61 N61 Aro62 qo62 So62 No62 Ho62 Go62 hino62 X63 e63 W63 st63 V63 K63 N63 Aro64 qo64 So64 No64 Ho64 Go64 hino64 X65 e65 W65 st65 V65 K65 N65 X66 e66 E66 A66 st66 K66 V_b66 Aro67 qo67 So67 No67 Ho67 Go67 hino67 X68 e68 W68 st68 V68 K68 N68 Aro69 qo69 So69 No69 Ho69 Go69 hino69 X70 e70 W70 st70 V70 K70 N70 Aro71 qo71 So71 No71 Ho71 Go71 hino71 X72 e72 W72 st72 V72 K72 N72 Aro73 qo73 So73 No73 Ho73 Go73 hino73 X74 e74 W74 st74 V74 K74 N74 Aro75 qo75 So75 No75 Ho75 Go75 hino75 X76 e76 W76 st76 V76 K76 N76 Aro77 qo77 So77 No77 Ho77 Go77 hino77 X78 e78 W78 st78 V78 K78 N78 Aro79 qo79 So79 No79 Ho79 Go79 hino79 X80 e80 W80 st80 V80 K80 N80 Aro81 qo81 So81 No81 Ho81 Go81 hino81 X82 e82 W82 st82 V82 K82 N82 Aro83 qo83 So83 No83 Ho83 Go83 hino83 X84 e84 W84 st84 V84 K84 N84 Aro85 qo85 So85 No85 Ho85 Go85 hino85 X86 e86 W86 st86 V86 K86 N86 Aro87 qo87 So87 No87 Ho87 Go87 hino87 X88 e88 W88 st88 V88 K88 N88 Aro89 qo89 So89 No89 Ho89 Go89 hino89 X90 e90 W90 st90 V90 K90 N90 Aro91 qo91 So91 No91 Ho91 Go91 hino91 X92 e92 W92 st92 V92 K92 N92 Aro93 qo93 So93 No93 Ho93 Go93 hino93 X94 e94 W94 st94 V94 K94 N94 Aro95 qo95 So95 No95 Ho95 Go95 hino95 X96 e96 W96 st96 V96 K96 N96 Aro97 qo97 So97 No97 Ho97 Go97 hino97 X98 e98 W98 st98 V98 K98 N98 Aro99 qo99 So99 No99 Ho99 Go99 hino99 X100 e100 W100 st100 V100 K100 N100 Aro101 qo101 So101 No101 Ho101 Go101 hino101 X102 e102 W102 st102 V102 K102 N102 Aro103 qo103 So103 No103 Ho103 Go103 hino103 X104 e104 W104 st104 V104 K104 N104 Aro105 qo105 So105 No105 Ho105 Go105 hino105 X106 e106 W106 st106 V106 K106 N106 Aro107 qo107 So107 No107 Ho107 Go107 hino107 X108 e108 W108 st108 V108 K108 N108 Aro109 qo109 So109 No109 Ho109 Go109 hino109 X110 e110 W110 st110 V110 K110 N110 Aro111 qo111 So111 No111 Ho111 Go111 hino111 X112 e112 W112 st112 V112 K112 N112 Aro113 qo113 So113 No113 Ho113 Go113 hino113 X114 e114 W114 st114 V114 K114 N114 Aro115 qo115 So115 No115 Ho115 Go115 hino115 X116 e116 W116 st116 V116 K116 N116 Aro117 qo117 So117 No117 Ho117 Go117 hino117 X118 e118 W118 st118 V118 K118 N118 Aro119 qo119 So119 No119 Ho119 Go119 hino119 X120 e120 W120 st120 V120 K120 N120 Aro121 qo121 So121 No121 Ho121 Go121 hino121 X122 e122 W122 st122 V122 K122 N122 Aro123 qo123 So123 No123 Ho123 Go123 hino123 X124 e124 W124 st124 V124 K124 N124 Aro125 qo125 So125 No125 Ho125 Go125 hino125 X126 e126 W126 st126 V126 K126 N126 Aro127 qo127 So127 No127 Ho127 Go127 hino127 X128 e128 W128 st128 V128 K128 N128 Aro129 qo129 So129 No129 Ho129 Go129 hino129 X130 e130 W130 st130 V130 K130 N130 c131 X132 e132 E132 A132 st132 K132 V_b132 Aro133 qo133 So133 No133 Ho133 Go133 hino133 X134 e134 W134 st134 V134 K134 N134 Aro135 qo135 So135 No135 Ho135 Go135 hino135 X136 e136 W136 st136 V136 K136 N136 Aro137 qo137 So137 No137 Ho137 Go137 hino137 X138 e138 W138 st138 V138 K138 N138 Aro139 qo139 So139 No139 Ho139 Go139 hino139 X140 e140 W140 st140 V140 K140 N140 Aro141 qo141 So141 No141 Ho141 Go141 hino141 X142 e142 W142 st142 V142 K142 N142 Aro143 qo143 So143 No143 Ho143 Go143 hino143 X144 e144 W144 st144 V144 K144 N144 Aro145 qo145 So145 No145 Ho145 Go145 hino145 X146 e146 W146 st146 V146 K146 N146 Aro147 qo147 So147 No147 Ho147 Go147 hino147 X148 e148 W148 st148 V148 K148 N148 Aro149 qo149 So149 No149 Ho149 Go149 hino149 X150 e150 W150 st150 V150 K150 N150 Aro151 qo151 So151 No151 Ho151 Go151 hino151 X152 e152 W152 st152 V152 K152 N152 Aro153 qo153 So153 No153 Ho153 Go153 hino153 X154 e154 W154 st154 V154 K154 N154 Aro155 qo155 So155 No155 Ho155 Go155 hino155 X156 e156 W156 st156 V156 K156 N156 Aro157 qo157 So157 No157 Ho157 Go157 hino157 X158 e158 W158 st158 V158 K158 N158 Aro159 qo159 So159 No159 Ho159 Go159 hino159 X160 e160 W160 st160 V160 K160 N160 Aro161 qo161 So161 No161 Ho161 Go161 hino161 X162 e162 W162 st162 V162 K162 N162 Aro163 qo163 So163 No163 Ho163 Go163 hino163 X164 e164 W164 st164 V164 K164 N164 Aro165 qo165 So165 No165 Ho165 Go165 hino165 X166 e166 W166 st166 V166 K166 N166 Aro167 qo167 So167 No167 Ho167 Go167 hino167 X168 e168 W168 st168 V168 K168 N168 Aro169 qo169 So169 No169 Ho169 Go169 hino169 X170 e170 W170 st170 V170 K170 N170 Aro171 qo171 So171 No171 Ho171 Go171 hino171 X172 e172 W172 st172 V172 K172 N172 Aro173 qo173 So173 No173 Ho173 Go173 hino173 X174 e174 W174 st174 V174 K174 N174 Aro175 qo175 So175 No175 Ho175 Go175 hino175 X176 e176 W176 st176 V176 K176 N176 Aro177 qo177 So177 No177 Ho177 Go177 hino177 X178 e178 W178 st178 V178 K178 N178 Aro179 qo179 So179 No179 Ho179 Go179 hino179 X180 e180 W180 st180 V180 K180 N180 Aro181 qo181 So181 No181 Ho181 Go181 hino181 X182 e182 W182 st182 V182 K182 N182 Aro183 qo183 So183 No183 Ho183 Go183 hino183 X184 e184 W184 st184 V184 K184 N184 Aro185 qo185 So185 No185 Ho185 Go185 hino185 X186 e186 W186 st186 V186 K186 N186 Aro187 qo187 So187 No187 Ho187 Go187 hino187 X188 e188 W188 st188 V188 K188 N188 Aro189 qo189 So189 No189 Ho189 Go189 hino189 X190 e190 W190 st190 V190 K190 N190 Aro191 qo191 So191 No191 Ho191 Go191 hino191 X192 e192 W192 st192 V192 K192 N192 Aro193 qo193 So193 No193 Ho193 Go193 hino193 X194 e194 W194 st194 V194 K194 N194 Aro195 qo195 So195 No195 Ho195 Go195 hino195 X196 W196 st196 N196 pre198 pre200 pre202 pre204 pre206 pre208
  have hs0 : own_in sv199 15 := by rw [hsv199]; exact own_and15 _
  have hl0 : own_in lv197 16 := by rw [hlv197]; exact own_le (own_and15 _) (by decide)
  have hs1 : own_in sv203 15 := by rw [hsv203]; exact own_and15 _
  have hl1 : own_in lv201 16 := by rw [hlv201]; exact own_and15' _
  have hs2 : own_in sv207 15 := by rw [hsv207]; exact own_and15 _
  have hl2 : own_in lv205 16 := by rw [hlv205]; exact own_and15' _
  obtain ⟨T213, h213, X213, e213, E213, A213, D213, -, st213⟩ := newO Xh212 hx hZ hown (hw _ (List.mem_of_getElem? (i := 1) rfl)) (hw _ (List.mem_of_getElem? (i := 2) rfl)) (hw _ (List.mem_of_getElem? (i := 3) rfl)) e196 (g := (mkF m 526 #[.val (.int p0), .val (.int p1), .val (.int p2), .val (.int p3), .val (.int p4), .val (.int p5), .val (.ref b1), .val (.ref b66), .val (.ref b132), .val (.int lv197), .val (.int sv199), .val (.int lv201), .val (.int sv203), .val (.int lv205), .val (.int sv207), .unset, .unset, .unset, .unset, .unset] [])) rfl (hb hby at_526) (by decide) (by decide)
  obtain ⟨b213, g213⟩ : ∃ z, z = h196.size := ⟨_, rfl⟩
  rw [← g213] at A213 D213 st213
  have g_b213 : n0 ≤ b213 := Nat.le_trans (Nat.le_trans Z0 K196.1) (Nat.le_of_eq g213.symm)
  have sz_b213 : h0.size ≤ b213 := Nat.le_trans K196.1 (Nat.le_of_eq g213.symm)
  have ne_b1_b213 : b1 ≠ b213 := Nat.ne_of_lt (Nat.lt_of_lt_of_le c209.lt (Nat.le_of_eq g213.symm))
  have ne_b66_b213 : b66 ≠ b213 := Nat.ne_of_lt (Nat.lt_of_lt_of_le c210.lt (Nat.le_of_eq g213.symm))
  have ne_b132_b213 : b132 ≠ b213 := Nat.ne_of_lt (Nat.lt_of_lt_of_le V196.lt (Nat.le_of_eq g213.symm))
  have K213 := K196.ext E213
  have F_bytes_b213 : Fld Z h213 b213 "com/example/amherst/amherst/ByteStringTable" "bytes" "[B" .null := D213 (Or.inl (hw _ (List.mem_of_getElem? (i := 11) rfl))) (ty := (.array .byte)) (by decide)
  have F_starts_b213 : Fld Z h213 b213 "com/example/amherst/amherst/ByteStringTable" "starts" "[I" .null := D213 (Or.inl (hw _ (List.mem_of_getElem? (i := 14) rfl))) (ty := (.array .int)) (by decide)
  have F_slots_b213 : Fld Z h213 b213 "com/example/amherst/amherst/ByteStringTable" "slots" "[J" .null := D213 (Or.inl (hw _ (List.mem_of_getElem? (i := 17) rfl))) (ty := (.array .long)) (by decide)
  have F_size_b213 : Fld Z h213 b213 "com/example/amherst/amherst/ByteStringTable" "size" "I" (.int (0 : Int32)) := D213 (Or.inl (hw _ (List.mem_of_getElem? (i := 24) rfl))) (ty := .int) (by decide)
  have c215 := (c209.ext E213)
  have c216 := (c210.ext E213)
  have c217 := (V196.ext E213)
  obtain ⟨_, _, ⟨T214, L214, k214, n214⟩, -, X214, ⟨Lc214, hQ214, l214, y214, z214⟩, st214⟩ := X213.specialBack hx (y := (⟨"com/example/amherst/amherst/ByteStringTable", "<init>", "()V"⟩ : MethodName)) rfl hown (mvT hZ (hw _ (List.mem_of_getElem? (i := 4) rfl))) (mvT hZ (hw _ (List.mem_of_getElem? (i := 5) rfl))) (mvT hZ (hw _ (List.mem_of_getElem? (i := 6) rfl))) (by decide) (backOf (W := 1) (rm1 l Z a0 hw [] b213 h213 n0 (Nat.le_trans Z0 K213.1) A213 F_bytes_b213 F_starts_b213 F_slots_b213 F_size_b213 g_b213) hZ (hw _ (List.mem_of_getElem? (i := 6) rfl)) (hw _ (List.mem_of_getElem? (i := 3) rfl)) (by decide) (by decide)) (g := (mkF m 530 #[.val (.int p0), .val (.int p1), .val (.int p2), .val (.int p3), .val (.int p4), .val (.int p5), .val (.ref b1), .val (.ref b66), .val (.ref b132), .val (.int lv197), .val (.int sv199), .val (.int lv201), .val (.int sv203), .val (.int lv205), .val (.int sv207), .unset, .unset, .unset, .unset, .unset] [(.ref b213), (.ref b213)])) rfl (by rw [hml]; rfl) (Steps.refl _) (a := b213) (argsL := []) (rest := [(.ref b213)]) (lenOf pd___V rfl) rfl (by show 2 * 0 + _ ≤ _; exact Nat.le_of_eq rfl) (hb hby at_530) (fun _ _ => ⟨rfl, e213, (by decide : 4 + 3 ≤ _), (by decide : 100 + 5376 ≤ _)⟩)
  dsimp only [Pt.U, Pt.locs, Pt.cells, Pt.slots] at X214 l214 y214 z214 st214 hQ214
  subst l214 y214 z214
  obtain ⟨rfl, N214q, kq214, bA, sA, lA, kb, ks, kl, gg_bA, gg_sA, gg_lA, u_bA, u_sA, u_lA, n_x_bA, n_x_sA, n_x_lA, n_bs, n_bl, n_sl, f_bytes, f_starts, f_slots, f_size, v_bA, v_sA, v_lA⟩ := hQ214
  have N214 := Fr.app Nh212 N214q
  have K214 := K213.trans kq214 (allS (Or.inr sz_b213) all0)
  have hvb0 : (List.replicate 4096 ((.int (0 : Int32)) : Value)).length = 4096 := List.length_replicate
  have hlen0 : (List.replicate 1024 ((.long (0 : Int64)) : Value)).length = 1024 := List.length_replicate
  have hlong0 := own_longs_rep 1024
  have hocc0 := own_occ_rep 1024
  have sz_bA : h0.size ≤ bA := Nat.le_trans (Nat.le_trans K213.1 u_bA) (Nat.le_refl _)
  have g_bA := gg_bA
  have ne_b1_bA : b1 ≠ bA := Nat.ne_of_lt (Nat.lt_of_lt_of_le c215.lt u_bA)
  have ne_b66_bA : b66 ≠ bA := Nat.ne_of_lt (Nat.lt_of_lt_of_le c216.lt u_bA)
  have ne_b132_bA : b132 ≠ bA := Nat.ne_of_lt (Nat.lt_of_lt_of_le c217.lt u_bA)
  have sz_sA : h0.size ≤ sA := Nat.le_trans (Nat.le_trans K213.1 u_sA) (Nat.le_refl _)
  have g_sA := gg_sA
  have ne_b1_sA : b1 ≠ sA := Nat.ne_of_lt (Nat.lt_of_lt_of_le c215.lt u_sA)
  have ne_b66_sA : b66 ≠ sA := Nat.ne_of_lt (Nat.lt_of_lt_of_le c216.lt u_sA)
  have ne_b132_sA : b132 ≠ sA := Nat.ne_of_lt (Nat.lt_of_lt_of_le c217.lt u_sA)
  have sz_lA : h0.size ≤ lA := Nat.le_trans (Nat.le_trans K213.1 u_lA) (Nat.le_refl _)
  have g_lA := gg_lA
  have ne_b1_lA : b1 ≠ lA := Nat.ne_of_lt (Nat.lt_of_lt_of_le c215.lt u_lA)
  have ne_b66_lA : b66 ≠ lA := Nat.ne_of_lt (Nat.lt_of_lt_of_le c216.lt u_lA)
  have ne_b132_lA : b132 ≠ lA := Nat.ne_of_lt (Nat.lt_of_lt_of_le c217.lt u_lA)
  have c219 := (c215.keep kq214 (ninS ne_b1_b213 nin0))
  have vr218 : Arv Z T214.heap b1 k1 .byte 32 (List.replicate 32 (.int (nar .byte (1 : Int32)))) (.int (0 : Int32)) := c219
  have c220 := (A213.keep kq214)
  obtain ⟨cq218, kq218, q218a, q218b, q218c⟩ := isOf hZ rfl c220
  obtain ⟨_, _, ⟨T218, L218, k218, n218⟩, -, X218, ⟨Lc218, hQ218, l218, y218, z218⟩, st218⟩ := X214.virtualBack hx (y := (⟨"com/example/amherst/amherst/ByteStringTable", "add", "([BIII)I"⟩ : MethodName)) (z := (⟨"com/example/amherst/amherst/ByteStringTable", "add", "([BIII)I"⟩ : MethodName)) hown (mvT hZ (hw _ (List.mem_of_getElem? (i := 18) rfl))) (mvT hZ (hw _ (List.mem_of_getElem? (i := 19) rfl))) (notFace_of_selects (args := #[]) (mvT hZ (hw _ (List.mem_of_getElem? (i := 21) rfl)))) (mvT hZ (hw _ (List.mem_of_getElem? (i := 21) rfl))) (mvT hZ (hw _ (List.mem_of_getElem? (i := 20) rfl))) (by decide) (backOf (W := 0) (ad0 l Z a0 hw [] b213 b1 sv199 lv197 p3 bA sA lA kb ks kl k1 (List.replicate 4096 (.int (0 : Int32))) (List.replicate 1024 (.long (0 : Int64))) (List.replicate 32 (.int (nar .byte (1 : Int32))))  T214.heap n0 (Nat.le_trans Z0 K214.1) c220 f_bytes f_starts f_slots f_size v_bA v_sA v_lA vr218 hvb0 hlen0 hlong0 hocc0 (own_ints_rep 32 _) hs0 hl0 own_in0 (Ne.symm ne_b1_b213) n_x_bA n_x_sA n_x_lA ne_b1_bA ne_b1_sA ne_b1_lA n_bs n_bl n_sl g_b213 g_bA g_sA g_lA) hZ (hw _ (List.mem_of_getElem? (i := 22) rfl)) (hw _ (List.mem_of_getElem? (i := 3) rfl)) (by decide) (by decide)) q218a q218c (g := (mkF m 544 #[.val (.int p0), .val (.int p1), .val (.int p2), .val (.int p3), .val (.int p4), .val (.int p5), .val (.ref b1), .val (.ref b66), .val (.ref b132), .val (.int lv197), .val (.int sv199), .val (.int lv201), .val (.int sv203), .val (.int lv205), .val (.int sv207), .val (.ref b213), .unset, .unset, .unset, .unset] [(.int p3), (.int lv197), (.int sv199), (.ref b1), (.ref b213)])) rfl (by rw [hml]; rfl) (Steps.refl _) (argsL := [(.ref b1), (.int sv199), (.int lv197), (.int p3)]) (rest := []) (lenOf pd___BIII_I rfl) rfl (by show 2 * 0 + _ ≤ _; exact Nat.le_of_eq rfl) (hb hby at_544) (fun _ _ => ⟨rfl, rfl, (by decide : 7 + 0 ≤ _), (by decide : 5476 + 0 ≤ _)⟩)
  dsimp only [Pt.U, Pt.locs, Pt.cells, Pt.slots] at X218 l218 y218 z218 st218 hQ218
  subst l218 y218 z218
  obtain ⟨rfl, N218q, kq218, fz218, fb218, fs218, fl218, ⟨vb218, hvb218, vB218⟩, vs218, ⟨vl218, hlen218, hlong218, hocc218, vL218⟩⟩ := hQ218
  have N218 := Fr.app N214 N218q
  have K218 := K214.trans kq218 (allS (Or.inr sz_b213) (allS (Or.inr sz_bA) (allS (Or.inr sz_sA) (allS (Or.inr sz_lA) all0))))
  obtain ⟨xv1, hxv1⟩ : ∃ z, z = (0 : Int32) + lv197 := ⟨_, rfl⟩
  rw [← hxv1] at vs218
  have hx1 : own_in xv1 16 := by rw [hxv1]; exact own_le (own_add own_in0 hl0 (by decide)).1 (by decide)
  have c222 := (c220.keep kq218)
  obtain ⟨cq221, kq221, q221a, q221b, q221c⟩ := isOf hZ rfl c222
  obtain ⟨_, _, ⟨T221, L221, k221, n221⟩, -, X221, ⟨Lc221, hQ221, l221, y221, z221⟩, st221⟩ := X218.virtualBack hx (y := (⟨"com/example/amherst/amherst/ByteStringTable", "length", "(I)I"⟩ : MethodName)) (z := (⟨"com/example/amherst/amherst/ByteStringTable", "length", "(I)I"⟩ : MethodName)) hown (mvT hZ (hw _ (List.mem_of_getElem? (i := 46) rfl))) (mvT hZ (hw _ (List.mem_of_getElem? (i := 47) rfl))) (notFace_of_selects (args := #[]) (mvT hZ (hw _ (List.mem_of_getElem? (i := 49) rfl)))) (mvT hZ (hw _ (List.mem_of_getElem? (i := 49) rfl))) (mvT hZ (hw _ (List.mem_of_getElem? (i := 48) rfl))) (by decide) (backOf (W := 0) (le0 l Z a0 hw [] b213 (0 : Int32) sA ks (0 : Int32) xv1 (0 : Int32) (0 : Int32) T218.heap n0 (Nat.le_trans Z0 K218.1) rfl fs218 vs218) hZ (hw _ (List.mem_of_getElem? (i := 50) rfl)) (hw _ (List.mem_of_getElem? (i := 3) rfl)) (by decide) (by decide)) q221a q221c (g := (mkF m 557 #[.val (.int p0), .val (.int p1), .val (.int p2), .val (.int p3), .val (.int p4), .val (.int p5), .val (.ref b1), .val (.ref b66), .val (.ref b132), .val (.int lv197), .val (.int sv199), .val (.int lv201), .val (.int sv203), .val (.int lv205), .val (.int sv207), .val (.ref b213), .val (.int (0 : Int32)), .unset, .unset, .unset] [(.int (0 : Int32)), (.ref b213)])) rfl (by rw [hml]; rfl) (Steps.refl _) (argsL := [(.int (0 : Int32))]) (rest := []) (lenOf pd__I_I rfl) rfl (by show 2 * 0 + _ ≤ _; exact Nat.le_of_eq rfl) (hb hby at_557) (fun _ _ => ⟨rfl, rfl, (by decide : 7 + 0 ≤ _), (by decide : 5476 + 0 ≤ _)⟩)
  dsimp only [Pt.U, Pt.locs, Pt.cells, Pt.slots] at X221 l221 y221 z221 st221 hQ221
  subst l221 y221 z221
  obtain ⟨rfl, N221q, hq221⟩ := hQ221
  have N221 := Fr.app N218 N221q
  have E221 : Ext T218.heap T221.heap := by rw [hq221]; exact ⟨Nat.le_refl _, fun _ _ q => q⟩
  have K221 := K218.ext E221
  have hk223 : (xv1 - (0 : Int32)) = lv197 := by rw [hxv1]; simp
  have c225 := (((c216.keep kq214 (ninS ne_b66_b213 nin0)).keep kq218 (ninS ne_b66_b213 (ninS ne_b66_bA (ninS ne_b66_sA (ninS ne_b66_lA nin0))))).ext E221)
  have vr224 : Arv Z T221.heap b66 k66 .byte 32 (List.replicate 32 (.int (nar .byte (2 : Int32)))) (.int (0 : Int32)) := c225
  have c226 := (c222.ext E221)
  have c227 := (fb218.ext E221)
  have c228 := (fs218.ext E221)
  have c229 := (fl218.ext E221)
  have c230 := (fz218.ext E221)
  have c231 := (vB218.ext E221)
  have c232 := (vs218.ext E221)
  have c233 := (vL218.ext E221)
  obtain ⟨cq224, kq224, q224a, q224b, q224c⟩ := isOf hZ rfl c226
  obtain ⟨_, _, ⟨T224, L224, k224, n224⟩, -, X224, ⟨Lc224, hQ224, l224, y224, z224⟩, st224⟩ := X221.virtualBack hx (y := (⟨"com/example/amherst/amherst/ByteStringTable", "add", "([BIII)I"⟩ : MethodName)) (z := (⟨"com/example/amherst/amherst/ByteStringTable", "add", "([BIII)I"⟩ : MethodName)) hown (mvT hZ (hw _ (List.mem_of_getElem? (i := 18) rfl))) (mvT hZ (hw _ (List.mem_of_getElem? (i := 19) rfl))) (notFace_of_selects (args := #[]) (mvT hZ (hw _ (List.mem_of_getElem? (i := 21) rfl)))) (mvT hZ (hw _ (List.mem_of_getElem? (i := 21) rfl))) (mvT hZ (hw _ (List.mem_of_getElem? (i := 20) rfl))) (by decide) (backOf (W := 0) (ad1 l Z a0 hw [] b213 b66 sv203 lv201 p4 bA sA lA kb ks kl k66 vb218 vl218 (List.replicate 32 (.int (nar .byte (2 : Int32)))) xv1 T221.heap n0 (Nat.le_trans Z0 K221.1) c226 c227 c228 c229 c230 c231 c232 c233 vr224 hvb218 hlen218 hlong218 hocc218 (own_ints_rep 32 _) hs1 hl1 hx1 (Ne.symm ne_b66_b213) n_x_bA n_x_sA n_x_lA ne_b66_bA ne_b66_sA ne_b66_lA n_bs n_bl n_sl g_b213 g_bA g_sA g_lA) hZ (hw _ (List.mem_of_getElem? (i := 22) rfl)) (hw _ (List.mem_of_getElem? (i := 3) rfl)) (by decide) (by decide)) q224a q224c (g := (mkF m 582 #[.val (.int p0), .val (.int p1), .val (.int p2), .val (.int p3), .val (.int p4), .val (.int p5), .val (.ref b1), .val (.ref b66), .val (.ref b132), .val (.int lv197), .val (.int sv199), .val (.int lv201), .val (.int sv203), .val (.int lv205), .val (.int sv207), .val (.ref b213), .val (.int (0 : Int32)), .val (.int (1 : Int32)), .unset, .unset] [(.int p4), (.int lv201), (.int sv203), (.ref b66), (.ref b213)])) rfl (by rw [hml]; rfl) (Steps.refl _) (argsL := [(.ref b66), (.int sv203), (.int lv201), (.int p4)]) (rest := []) (lenOf pd___BIII_I rfl) rfl (by show 2 * 0 + _ ≤ _; exact Nat.le_of_eq rfl) (hb hby at_582) (fun _ _ => ⟨rfl, rfl, (by decide : 7 + 0 ≤ _), (by decide : 5476 + 0 ≤ _)⟩)
  dsimp only [Pt.U, Pt.locs, Pt.cells, Pt.slots] at X224 l224 y224 z224 st224 hQ224
  subst l224 y224 z224
  obtain ⟨rfl, N224q, kq224, fz224, fb224, fs224, fl224, ⟨vb224, hvb224, vB224⟩, vs224, ⟨vl224, hlen224, hlong224, hocc224, vL224⟩⟩ := hQ224
  have N224 := Fr.app N221 N224q
  have K224 := K221.trans kq224 (allS (Or.inr sz_b213) (allS (Or.inr sz_bA) (allS (Or.inr sz_sA) (allS (Or.inr sz_lA) all0))))
  obtain ⟨xv2, hxv2⟩ : ∃ z, z = xv1 + lv201 := ⟨_, rfl⟩
  rw [← hxv2] at vs224
  have hx2 : own_in xv2 32 := by rw [hxv2]; exact own_le (own_add hx1 hl1 (by decide)).1 (by decide)
  have c235 := ((((c217.keep kq214 (ninS ne_b132_b213 nin0)).keep kq218 (ninS ne_b132_b213 (ninS ne_b132_bA (ninS ne_b132_sA (ninS ne_b132_lA nin0))))).ext E221).keep kq224 (ninS ne_b132_b213 (ninS ne_b132_bA (ninS ne_b132_sA (ninS ne_b132_lA nin0)))))
  have vr234 : Arv Z T224.heap b132 k132 .byte 32 (List.replicate 32 (.int (nar .byte (3 : Int32)))) (.int (0 : Int32)) := c235
  have c236 := (c226.keep kq224)
  obtain ⟨cq234, kq234, q234a, q234b, q234c⟩ := isOf hZ rfl c236
  obtain ⟨_, _, ⟨T234, L234, k234, n234⟩, -, X234, ⟨Lc234, hQ234, l234, y234, z234⟩, st234⟩ := X224.virtualBack hx (y := (⟨"com/example/amherst/amherst/ByteStringTable", "add", "([BIII)I"⟩ : MethodName)) (z := (⟨"com/example/amherst/amherst/ByteStringTable", "add", "([BIII)I"⟩ : MethodName)) hown (mvT hZ (hw _ (List.mem_of_getElem? (i := 18) rfl))) (mvT hZ (hw _ (List.mem_of_getElem? (i := 19) rfl))) (notFace_of_selects (args := #[]) (mvT hZ (hw _ (List.mem_of_getElem? (i := 21) rfl)))) (mvT hZ (hw _ (List.mem_of_getElem? (i := 21) rfl))) (mvT hZ (hw _ (List.mem_of_getElem? (i := 20) rfl))) (by decide) (backOf (W := 0) (ad2 l Z a0 hw [] b213 b132 sv207 lv205 p5 bA sA lA kb ks kl k132 vb224 vl224 (List.replicate 32 (.int (nar .byte (3 : Int32)))) xv1 xv2 T224.heap n0 (Nat.le_trans Z0 K224.1) c236 fb224 fs224 fl224 fz224 vB224 vs224 vL224 vr234 hvb224 hlen224 hlong224 hocc224 (own_ints_rep 32 _) hs2 hl2 hx2 (Ne.symm ne_b132_b213) n_x_bA n_x_sA n_x_lA ne_b132_bA ne_b132_sA ne_b132_lA n_bs n_bl n_sl g_b213 g_bA g_sA g_lA) hZ (hw _ (List.mem_of_getElem? (i := 22) rfl)) (hw _ (List.mem_of_getElem? (i := 3) rfl)) (by decide) (by decide)) q234a q234c (g := (mkF m 597 #[.val (.int p0), .val (.int p1), .val (.int p2), .val (.int p3), .val (.int p4), .val (.int p5), .val (.ref b1), .val (.ref b66), .val (.ref b132), .val (.int lv197), .val (.int sv199), .val (.int lv201), .val (.int sv203), .val (.int lv205), .val (.int sv207), .val (.ref b213), .val (.int (0 : Int32)), .val (.int (1 : Int32)), .val (.int (1 : Int32)), .unset] [(.int p5), (.int lv205), (.int sv207), (.ref b132), (.ref b213)])) rfl (by rw [hml]; rfl) (Steps.refl _) (argsL := [(.ref b132), (.int sv207), (.int lv205), (.int p5)]) (rest := []) (lenOf pd___BIII_I rfl) rfl (by show 2 * 0 + _ ≤ _; exact Nat.le_of_eq rfl) (hb hby at_597) (fun _ _ => ⟨rfl, rfl, (by decide : 7 + 0 ≤ _), (by decide : 5476 + 0 ≤ _)⟩)
  dsimp only [Pt.U, Pt.locs, Pt.cells, Pt.slots] at X234 l234 y234 z234 st234 hQ234
  subst l234 y234 z234
  obtain ⟨rfl, N234q, kq234, fz234, fb234, fs234, fl234, ⟨vb234, hvb234, vB234⟩, vs234, ⟨vl234, hlen234, hlong234, hocc234, vL234⟩⟩ := hQ234
  have N234 := Fr.app N224 N234q
  have K234 := K224.trans kq234 (allS (Or.inr sz_b213) (allS (Or.inr sz_bA) (allS (Or.inr sz_sA) (allS (Or.inr sz_lA) all0))))
  obtain ⟨xv3, hxv3⟩ : ∃ z, z = xv2 + lv205 := ⟨_, rfl⟩
  rw [← hxv3] at vs234
  have hx3 : own_in xv3 48 := by rw [hxv3]; exact own_le (own_add hx2 hl2 (by decide)).1 (by decide)
  have c238 := (c236.keep kq234)
  obtain ⟨cq237, kq237, q237a, q237b, q237c⟩ := isOf hZ rfl c238
  obtain ⟨_, _, ⟨T237, L237, k237, n237⟩, -, X237, ⟨Lc237, hQ237, l237, y237, z237⟩, st237⟩ := X234.virtualBack hx (y := (⟨"com/example/amherst/amherst/ByteStringTable", "size", "()I"⟩ : MethodName)) (z := (⟨"com/example/amherst/amherst/ByteStringTable", "size", "()I"⟩ : MethodName)) hown (mvT hZ (hw _ (List.mem_of_getElem? (i := 52) rfl))) (mvT hZ (hw _ (List.mem_of_getElem? (i := 53) rfl))) (notFace_of_selects (args := #[]) (mvT hZ (hw _ (List.mem_of_getElem? (i := 55) rfl)))) (mvT hZ (hw _ (List.mem_of_getElem? (i := 55) rfl))) (mvT hZ (hw _ (List.mem_of_getElem? (i := 54) rfl))) (by decide) (backOf (W := 0) (rm9 l Z a0 hw [] b213 (3 : Int32) T234.heap n0 (Nat.le_trans Z0 K234.1) fz234) hZ (hw _ (List.mem_of_getElem? (i := 56) rfl)) (hw _ (List.mem_of_getElem? (i := 3) rfl)) (by decide) (by decide)) q237a q237c (g := (mkF m 633 #[.val (.int p0), .val (.int p1), .val (.int p2), .val (.int p3), .val (.int p4), .val (.int p5), .val (.ref b1), .val (.ref b66), .val (.ref b132), .val (.int lv197), .val (.int sv199), .val (.int lv201), .val (.int sv203), .val (.int lv205), .val (.int sv207), .val (.ref b213), .val (.int (0 : Int32)), .val (.int (1 : Int32)), .val (.int (1 : Int32)), .val (.int (2 : Int32))] [(.ref b213)])) rfl (by rw [hml]; rfl) (Steps.refl _) (argsL := []) (rest := []) (lenOf pd___I rfl) rfl (by show 2 * 0 + _ ≤ _; exact Nat.le_of_eq rfl) (hb hby at_633) (fun _ _ => ⟨rfl, rfl, (by decide : 7 + 0 ≤ _), (by decide : 5476 + 0 ≤ _)⟩)
  dsimp only [Pt.U, Pt.locs, Pt.cells, Pt.slots] at X237 l237 y237 z237 st237 hQ237
  subst l237 y237 z237
  obtain ⟨rfl, N237q, hq237⟩ := hQ237
  have N237 := Fr.app N234 N237q
  have E237 : Ext T234.heap T237.heap := by rw [hq237]; exact ⟨Nat.le_refl _, fun _ _ q => q⟩
  have K237 := K234.ext E237
  have c240 := (fs234.ext E237)
  have c241 := (vs234.ext E237)
  have c242 := (c238.ext E237)
  obtain ⟨cq239, kq239, q239a, q239b, q239c⟩ := isOf hZ rfl c242
  obtain ⟨_, _, ⟨T239, L239, k239, n239⟩, -, X239, ⟨Lc239, hQ239, l239, y239, z239⟩, st239⟩ := X237.virtualBack hx (y := (⟨"com/example/amherst/amherst/ByteStringTable", "length", "(I)I"⟩ : MethodName)) (z := (⟨"com/example/amherst/amherst/ByteStringTable", "length", "(I)I"⟩ : MethodName)) hown (mvT hZ (hw _ (List.mem_of_getElem? (i := 46) rfl))) (mvT hZ (hw _ (List.mem_of_getElem? (i := 47) rfl))) (notFace_of_selects (args := #[]) (mvT hZ (hw _ (List.mem_of_getElem? (i := 49) rfl)))) (mvT hZ (hw _ (List.mem_of_getElem? (i := 49) rfl))) (mvT hZ (hw _ (List.mem_of_getElem? (i := 48) rfl))) (by decide) (backOf (W := 0) (le0 l Z a0 hw [] b213 (0 : Int32) sA ks (0 : Int32) xv1 xv2 xv3 T237.heap n0 (Nat.le_trans Z0 K237.1) rfl c240 c241) hZ (hw _ (List.mem_of_getElem? (i := 50) rfl)) (hw _ (List.mem_of_getElem? (i := 3) rfl)) (by decide) (by decide)) q239a q239c (g := (mkF m 655 #[.val (.int p0), .val (.int p1), .val (.int p2), .val (.int p3), .val (.int p4), .val (.int p5), .val (.ref b1), .val (.ref b66), .val (.ref b132), .val (.int lv197), .val (.int sv199), .val (.int lv201), .val (.int sv203), .val (.int lv205), .val (.int sv207), .val (.ref b213), .val (.int (0 : Int32)), .val (.int (1 : Int32)), .val (.int (1 : Int32)), .val (.int (2 : Int32))] [(.int (0 : Int32)), (.ref b213)])) rfl (by rw [hml]; rfl) (Steps.refl _) (argsL := [(.int (0 : Int32))]) (rest := []) (lenOf pd__I_I rfl) rfl (by show 2 * 0 + _ ≤ _; exact Nat.le_of_eq rfl) (hb hby at_655) (fun _ _ => ⟨rfl, rfl, (by decide : 7 + 0 ≤ _), (by decide : 5476 + 0 ≤ _)⟩)
  dsimp only [Pt.U, Pt.locs, Pt.cells, Pt.slots] at X239 l239 y239 z239 st239 hQ239
  subst l239 y239 z239
  obtain ⟨rfl, N239q, hq239⟩ := hQ239
  have N239 := Fr.app N237 N239q
  have E239 : Ext T237.heap T239.heap := by rw [hq239]; exact ⟨Nat.le_refl _, fun _ _ q => q⟩
  have K239 := K237.ext E239
  have hk243 : (xv1 - (0 : Int32)) = lv197 := by rw [hxv1]; simp
  have c245 := (c240.ext E239)
  have c246 := (c241.ext E239)
  have c247 := (c242.ext E239)
  obtain ⟨cq244, kq244, q244a, q244b, q244c⟩ := isOf hZ rfl c247
  obtain ⟨_, _, ⟨T244, L244, k244, n244⟩, -, X244, ⟨Lc244, hQ244, l244, y244, z244⟩, st244⟩ := X239.virtualBack hx (y := (⟨"com/example/amherst/amherst/ByteStringTable", "length", "(I)I"⟩ : MethodName)) (z := (⟨"com/example/amherst/amherst/ByteStringTable", "length", "(I)I"⟩ : MethodName)) hown (mvT hZ (hw _ (List.mem_of_getElem? (i := 46) rfl))) (mvT hZ (hw _ (List.mem_of_getElem? (i := 47) rfl))) (notFace_of_selects (args := #[]) (mvT hZ (hw _ (List.mem_of_getElem? (i := 49) rfl)))) (mvT hZ (hw _ (List.mem_of_getElem? (i := 49) rfl))) (mvT hZ (hw _ (List.mem_of_getElem? (i := 48) rfl))) (by decide) (backOf (W := 0) (le1 l Z a0 hw [] b213 (1 : Int32) sA ks (0 : Int32) xv1 xv2 xv3 T239.heap n0 (Nat.le_trans Z0 K239.1) rfl c245 c246) hZ (hw _ (List.mem_of_getElem? (i := 50) rfl)) (hw _ (List.mem_of_getElem? (i := 3) rfl)) (by decide) (by decide)) q244a q244c (g := (mkF m 678 #[.val (.int p0), .val (.int p1), .val (.int p2), .val (.int p3), .val (.int p4), .val (.int p5), .val (.ref b1), .val (.ref b66), .val (.ref b132), .val (.int lv197), .val (.int sv199), .val (.int lv201), .val (.int sv203), .val (.int lv205), .val (.int sv207), .val (.ref b213), .val (.int (0 : Int32)), .val (.int (1 : Int32)), .val (.int (1 : Int32)), .val (.int (2 : Int32))] [(.int (1 : Int32)), (.ref b213)])) rfl (by rw [hml]; rfl) (Steps.refl _) (argsL := [(.int (1 : Int32))]) (rest := []) (lenOf pd__I_I rfl) rfl (by show 2 * 0 + _ ≤ _; exact Nat.le_of_eq rfl) (hb hby at_678) (fun _ _ => ⟨rfl, rfl, (by decide : 7 + 0 ≤ _), (by decide : 5476 + 0 ≤ _)⟩)
  dsimp only [Pt.U, Pt.locs, Pt.cells, Pt.slots] at X244 l244 y244 z244 st244 hQ244
  subst l244 y244 z244
  obtain ⟨rfl, N244q, hq244⟩ := hQ244
  have N244 := Fr.app N239 N244q
  have E244 : Ext T239.heap T244.heap := by rw [hq244]; exact ⟨Nat.le_refl _, fun _ _ q => q⟩
  have K244 := K239.ext E244
  have hk248 : (xv2 - xv1) = lv201 := by rw [hxv2, Int32.add_comm]; simp
  have c250 := (c245.ext E244)
  have c251 := (c246.ext E244)
  have c252 := (c247.ext E244)
  obtain ⟨cq249, kq249, q249a, q249b, q249c⟩ := isOf hZ rfl c252
  obtain ⟨_, _, ⟨T249, L249, k249, n249⟩, -, X249, ⟨Lc249, hQ249, l249, y249, z249⟩, st249⟩ := X244.virtualBack hx (y := (⟨"com/example/amherst/amherst/ByteStringTable", "length", "(I)I"⟩ : MethodName)) (z := (⟨"com/example/amherst/amherst/ByteStringTable", "length", "(I)I"⟩ : MethodName)) hown (mvT hZ (hw _ (List.mem_of_getElem? (i := 46) rfl))) (mvT hZ (hw _ (List.mem_of_getElem? (i := 47) rfl))) (notFace_of_selects (args := #[]) (mvT hZ (hw _ (List.mem_of_getElem? (i := 49) rfl)))) (mvT hZ (hw _ (List.mem_of_getElem? (i := 49) rfl))) (mvT hZ (hw _ (List.mem_of_getElem? (i := 48) rfl))) (by decide) (backOf (W := 0) (le2 l Z a0 hw [] b213 (2 : Int32) sA ks (0 : Int32) xv1 xv2 xv3 T244.heap n0 (Nat.le_trans Z0 K244.1) rfl c250 c251) hZ (hw _ (List.mem_of_getElem? (i := 50) rfl)) (hw _ (List.mem_of_getElem? (i := 3) rfl)) (by decide) (by decide)) q249a q249c (g := (mkF m 701 #[.val (.int p0), .val (.int p1), .val (.int p2), .val (.int p3), .val (.int p4), .val (.int p5), .val (.ref b1), .val (.ref b66), .val (.ref b132), .val (.int lv197), .val (.int sv199), .val (.int lv201), .val (.int sv203), .val (.int lv205), .val (.int sv207), .val (.ref b213), .val (.int (0 : Int32)), .val (.int (1 : Int32)), .val (.int (1 : Int32)), .val (.int (2 : Int32))] [(.int (2 : Int32)), (.ref b213)])) rfl (by rw [hml]; rfl) (Steps.refl _) (argsL := [(.int (2 : Int32))]) (rest := []) (lenOf pd__I_I rfl) rfl (by show 2 * 0 + _ ≤ _; exact Nat.le_of_eq rfl) (hb hby at_701) (fun _ _ => ⟨rfl, rfl, (by decide : 7 + 0 ≤ _), (by decide : 5476 + 0 ≤ _)⟩)
  dsimp only [Pt.U, Pt.locs, Pt.cells, Pt.slots] at X249 l249 y249 z249 st249 hQ249
  subst l249 y249 z249
  obtain ⟨rfl, N249q, hq249⟩ := hQ249
  have N249 := Fr.app N244 N249q
  have E249 : Ext T244.heap T249.heap := by rw [hq249]; exact ⟨Nat.le_refl _, fun _ _ q => q⟩
  have K249 := K244.ext E249
  have hk253 : (xv3 - xv2) = lv205 := by rw [hxv3, Int32.add_comm]; simp
  obtain ⟨fs, hr, hrun, hended, hW, hsame⟩ := X249.leave (v := some (.int (1 : Int32))) (fun h => by rw [Bd.returns] at h; cases h)
  refine ⟨_, _, pre211 _ ?_, hrun, hended, _, _, rfl, ?_, ⟨_, rfl⟩, hW, hsame.mono (by decide) (by decide)⟩
  ·
    show Steps p.tables e below (T196.setTop (mkF m 526 #[.val (.int p0), .val (.int p1), .val (.int p2), .val (.int p3), .val (.int p4), .val (.int p5), .val (.ref b1), .val (.ref b66), .val (.ref b132), .val (.int lv197), .val (.int sv199), .val (.int lv201), .val (.int sv203), .val (.int lv205), .val (.int sv207), .unset, .unset, .unset, .unset, .unset] [])) _
    refine st213 _ ?_
    show Steps p.tables e below (T213.setTop (mkF m 529 #[.val (.int p0), .val (.int p1), .val (.int p2), .val (.int p3), .val (.int p4), .val (.int p5), .val (.ref b1), .val (.ref b66), .val (.ref b132), .val (.int lv197), .val (.int sv199), .val (.int lv201), .val (.int sv203), .val (.int lv205), .val (.int sv207), .unset, .unset, .unset, .unset, .unset] [(.ref b213)])) _
    refine XS.dup X213.here hx rfl (hb hby at_529) rfl rfl ?_
    show Steps p.tables e below (T213.setTop (mkF m 530 #[.val (.int p0), .val (.int p1), .val (.int p2), .val (.int p3), .val (.int p4), .val (.int p5), .val (.ref b1), .val (.ref b66), .val (.ref b132), .val (.int lv197), .val (.int sv199), .val (.int lv201), .val (.int sv203), .val (.int lv205), .val (.int sv207), .unset, .unset, .unset, .unset, .unset] [(.ref b213), (.ref b213)])) _
    refine st214.trans ?_
    show Steps p.tables e below (T214.setTop (mkF m 533 #[.val (.int p0), .val (.int p1), .val (.int p2), .val (.int p3), .val (.int p4), .val (.int p5), .val (.ref b1), .val (.ref b66), .val (.ref b132), .val (.int lv197), .val (.int sv199), .val (.int lv201), .val (.int sv203), .val (.int lv205), .val (.int sv207), .unset, .unset, .unset, .unset, .unset] [(.ref b213)])) _
    refine XS.astore X214.here hx rfl (hb hby at_533) rfl rfl (l' := #[.val (.int p0), .val (.int p1), .val (.int p2), .val (.int p3), .val (.int p4), .val (.int p5), .val (.ref b1), .val (.ref b66), .val (.ref b132), .val (.int lv197), .val (.int sv199), .val (.int lv201), .val (.int sv203), .val (.int lv205), .val (.int sv207), .val (.ref b213), .unset, .unset, .unset, .unset]) rfl ?_
    show Steps p.tables e below (T214.setTop (mkF m 535 #[.val (.int p0), .val (.int p1), .val (.int p2), .val (.int p3), .val (.int p4), .val (.int p5), .val (.ref b1), .val (.ref b66), .val (.ref b132), .val (.int lv197), .val (.int sv199), .val (.int lv201), .val (.int sv203), .val (.int lv205), .val (.int sv207), .val (.ref b213), .unset, .unset, .unset, .unset] [])) _
    refine XS.aload X214.here hx rfl (hb hby at_535) rfl rfl ?_
    show Steps p.tables e below (T214.setTop (mkF m 537 #[.val (.int p0), .val (.int p1), .val (.int p2), .val (.int p3), .val (.int p4), .val (.int p5), .val (.ref b1), .val (.ref b66), .val (.ref b132), .val (.int lv197), .val (.int sv199), .val (.int lv201), .val (.int sv203), .val (.int lv205), .val (.int sv207), .val (.ref b213), .unset, .unset, .unset, .unset] [(.ref b213)])) _
    refine XS.aload X214.here hx rfl (hb hby at_537) rfl rfl ?_
    show Steps p.tables e below (T214.setTop (mkF m 539 #[.val (.int p0), .val (.int p1), .val (.int p2), .val (.int p3), .val (.int p4), .val (.int p5), .val (.ref b1), .val (.ref b66), .val (.ref b132), .val (.int lv197), .val (.int sv199), .val (.int lv201), .val (.int sv203), .val (.int lv205), .val (.int sv207), .val (.ref b213), .unset, .unset, .unset, .unset] [(.ref b1), (.ref b213)])) _
    refine XS.iload X214.here hx rfl (hb hby at_539) rfl ?_
    show Steps p.tables e below (T214.setTop (mkF m 541 #[.val (.int p0), .val (.int p1), .val (.int p2), .val (.int p3), .val (.int p4), .val (.int p5), .val (.ref b1), .val (.ref b66), .val (.ref b132), .val (.int lv197), .val (.int sv199), .val (.int lv201), .val (.int sv203), .val (.int lv205), .val (.int sv207), .val (.ref b213), .unset, .unset, .unset, .unset] [(.int sv199), (.ref b1), (.ref b213)])) _
    refine XS.iload X214.here hx rfl (hb hby at_541) rfl ?_
    show Steps p.tables e below (T214.setTop (mkF m 543 #[.val (.int p0), .val (.int p1), .val (.int p2), .val (.int p3), .val (.int p4), .val (.int p5), .val (.ref b1), .val (.ref b66), .val (.ref b132), .val (.int lv197), .val (.int sv199), .val (.int lv201), .val (.int sv203), .val (.int lv205), .val (.int sv207), .val (.ref b213), .unset, .unset, .unset, .unset] [(.int lv197), (.int sv199), (.ref b1), (.ref b213)])) _
    refine XS.iloadN X214.here hx rfl (hb hby at_543) rfl ?_
    show Steps p.tables e below (T214.setTop (mkF m 544 #[.val (.int p0), .val (.int p1), .val (.int p2), .val (.int p3), .val (.int p4), .val (.int p5), .val (.ref b1), .val (.ref b66), .val (.ref b132), .val (.int lv197), .val (.int sv199), .val (.int lv201), .val (.int sv203), .val (.int lv205), .val (.int sv207), .val (.ref b213), .unset, .unset, .unset, .unset] [(.int p3), (.int lv197), (.int sv199), (.ref b1), (.ref b213)])) _
    refine st218.trans ?_
    show Steps p.tables e below (T218.setTop (mkF m 547 #[.val (.int p0), .val (.int p1), .val (.int p2), .val (.int p3), .val (.int p4), .val (.int p5), .val (.ref b1), .val (.ref b66), .val (.ref b132), .val (.int lv197), .val (.int sv199), .val (.int lv201), .val (.int sv203), .val (.int lv205), .val (.int sv207), .val (.ref b213), .unset, .unset, .unset, .unset] [(.int (0 : Int32))])) _
    refine XS.istore X218.here hx rfl (hb hby at_547) rfl (l' := #[.val (.int p0), .val (.int p1), .val (.int p2), .val (.int p3), .val (.int p4), .val (.int p5), .val (.ref b1), .val (.ref b66), .val (.ref b132), .val (.int lv197), .val (.int sv199), .val (.int lv201), .val (.int sv203), .val (.int lv205), .val (.int sv207), .val (.ref b213), .val (.int (0 : Int32)), .unset, .unset, .unset]) rfl ?_
    show Steps p.tables e below (T218.setTop (mkF m 549 #[.val (.int p0), .val (.int p1), .val (.int p2), .val (.int p3), .val (.int p4), .val (.int p5), .val (.ref b1), .val (.ref b66), .val (.ref b132), .val (.int lv197), .val (.int sv199), .val (.int lv201), .val (.int sv203), .val (.int lv205), .val (.int sv207), .val (.ref b213), .val (.int (0 : Int32)), .unset, .unset, .unset] [])) _
    refine XS.iload X218.here hx rfl (hb hby at_549) rfl ?_
    show Steps p.tables e below (T218.setTop (mkF m 551 #[.val (.int p0), .val (.int p1), .val (.int p2), .val (.int p3), .val (.int p4), .val (.int p5), .val (.ref b1), .val (.ref b66), .val (.ref b132), .val (.int lv197), .val (.int sv199), .val (.int lv201), .val (.int sv203), .val (.int lv205), .val (.int sv207), .val (.ref b213), .val (.int (0 : Int32)), .unset, .unset, .unset] [(.int (0 : Int32))])) _
    refine XS.ifNo X218.here hx rfl (hb hby at_551) rfl ((if0 _ _).trans (teq (by decide : (0 : Int32) = (0 : Int32))).2) ?_
    show Steps p.tables e below (T218.setTop (mkF m 554 #[.val (.int p0), .val (.int p1), .val (.int p2), .val (.int p3), .val (.int p4), .val (.int p5), .val (.ref b1), .val (.ref b66), .val (.ref b132), .val (.int lv197), .val (.int sv199), .val (.int lv201), .val (.int sv203), .val (.int lv205), .val (.int sv207), .val (.ref b213), .val (.int (0 : Int32)), .unset, .unset, .unset] [])) _
    refine XS.aload X218.here hx rfl (hb hby at_554) rfl rfl ?_
    show Steps p.tables e below (T218.setTop (mkF m 556 #[.val (.int p0), .val (.int p1), .val (.int p2), .val (.int p3), .val (.int p4), .val (.int p5), .val (.ref b1), .val (.ref b66), .val (.ref b132), .val (.int lv197), .val (.int sv199), .val (.int lv201), .val (.int sv203), .val (.int lv205), .val (.int sv207), .val (.ref b213), .val (.int (0 : Int32)), .unset, .unset, .unset] [(.ref b213)])) _
    refine XS.iconst X218.here hx rfl (hb hby at_556) ?_
    show Steps p.tables e below (T218.setTop (mkF m 557 #[.val (.int p0), .val (.int p1), .val (.int p2), .val (.int p3), .val (.int p4), .val (.int p5), .val (.ref b1), .val (.ref b66), .val (.ref b132), .val (.int lv197), .val (.int sv199), .val (.int lv201), .val (.int sv203), .val (.int lv205), .val (.int sv207), .val (.ref b213), .val (.int (0 : Int32)), .unset, .unset, .unset] [(.int (0 : Int32)), (.ref b213)])) _
    refine st221.trans ?_
    show Steps p.tables e below (T221.setTop (mkF m 560 #[.val (.int p0), .val (.int p1), .val (.int p2), .val (.int p3), .val (.int p4), .val (.int p5), .val (.ref b1), .val (.ref b66), .val (.ref b132), .val (.int lv197), .val (.int sv199), .val (.int lv201), .val (.int sv203), .val (.int lv205), .val (.int sv207), .val (.ref b213), .val (.int (0 : Int32)), .unset, .unset, .unset] [(.int (xv1 - (0 : Int32)))])) _
    refine XS.iload X221.here hx rfl (hb hby at_560) rfl ?_
    show Steps p.tables e below (T221.setTop (mkF m 562 #[.val (.int p0), .val (.int p1), .val (.int p2), .val (.int p3), .val (.int p4), .val (.int p5), .val (.ref b1), .val (.ref b66), .val (.ref b132), .val (.int lv197), .val (.int sv199), .val (.int lv201), .val (.int sv203), .val (.int lv205), .val (.int sv207), .val (.ref b213), .val (.int (0 : Int32)), .unset, .unset, .unset] [(.int lv197), (.int (xv1 - (0 : Int32)))])) _
    refine XS.icmpNo X221.here hx rfl (hb hby at_562) rfl (teq hk223).2 ?_
    show Steps p.tables e below (T221.setTop (mkF m 565 #[.val (.int p0), .val (.int p1), .val (.int p2), .val (.int p3), .val (.int p4), .val (.int p5), .val (.ref b1), .val (.ref b66), .val (.ref b132), .val (.int lv197), .val (.int sv199), .val (.int lv201), .val (.int sv203), .val (.int lv205), .val (.int sv207), .val (.ref b213), .val (.int (0 : Int32)), .unset, .unset, .unset] [])) _
    refine XS.iconst X221.here hx rfl (hb hby at_565) ?_
    show Steps p.tables e below (T221.setTop (mkF m 566 #[.val (.int p0), .val (.int p1), .val (.int p2), .val (.int p3), .val (.int p4), .val (.int p5), .val (.ref b1), .val (.ref b66), .val (.ref b132), .val (.int lv197), .val (.int sv199), .val (.int lv201), .val (.int sv203), .val (.int lv205), .val (.int sv207), .val (.ref b213), .val (.int (0 : Int32)), .unset, .unset, .unset] [(.int (1 : Int32))])) _
    refine XS.goto X221.here hx rfl (pc0 := 566) (pc' := 570) rfl (hb hby at_566) (by decide) (by decide) ?_
    show Steps p.tables e below (T221.setTop (mkF m 570 #[.val (.int p0), .val (.int p1), .val (.int p2), .val (.int p3), .val (.int p4), .val (.int p5), .val (.ref b1), .val (.ref b66), .val (.ref b132), .val (.int lv197), .val (.int sv199), .val (.int lv201), .val (.int sv203), .val (.int lv205), .val (.int sv207), .val (.ref b213), .val (.int (0 : Int32)), .unset, .unset, .unset] [(.int (1 : Int32))])) _
    refine XS.istore X221.here hx rfl (hb hby at_570) rfl (l' := #[.val (.int p0), .val (.int p1), .val (.int p2), .val (.int p3), .val (.int p4), .val (.int p5), .val (.ref b1), .val (.ref b66), .val (.ref b132), .val (.int lv197), .val (.int sv199), .val (.int lv201), .val (.int sv203), .val (.int lv205), .val (.int sv207), .val (.ref b213), .val (.int (0 : Int32)), .val (.int (1 : Int32)), .unset, .unset]) rfl ?_
    show Steps p.tables e below (T221.setTop (mkF m 572 #[.val (.int p0), .val (.int p1), .val (.int p2), .val (.int p3), .val (.int p4), .val (.int p5), .val (.ref b1), .val (.ref b66), .val (.ref b132), .val (.int lv197), .val (.int sv199), .val (.int lv201), .val (.int sv203), .val (.int lv205), .val (.int sv207), .val (.ref b213), .val (.int (0 : Int32)), .val (.int (1 : Int32)), .unset, .unset] [])) _
    refine XS.aload X221.here hx rfl (hb hby at_572) rfl rfl ?_
    show Steps p.tables e below (T221.setTop (mkF m 574 #[.val (.int p0), .val (.int p1), .val (.int p2), .val (.int p3), .val (.int p4), .val (.int p5), .val (.ref b1), .val (.ref b66), .val (.ref b132), .val (.int lv197), .val (.int sv199), .val (.int lv201), .val (.int sv203), .val (.int lv205), .val (.int sv207), .val (.ref b213), .val (.int (0 : Int32)), .val (.int (1 : Int32)), .unset, .unset] [(.ref b213)])) _
    refine XS.aload X221.here hx rfl (hb hby at_574) rfl rfl ?_
    show Steps p.tables e below (T221.setTop (mkF m 576 #[.val (.int p0), .val (.int p1), .val (.int p2), .val (.int p3), .val (.int p4), .val (.int p5), .val (.ref b1), .val (.ref b66), .val (.ref b132), .val (.int lv197), .val (.int sv199), .val (.int lv201), .val (.int sv203), .val (.int lv205), .val (.int sv207), .val (.ref b213), .val (.int (0 : Int32)), .val (.int (1 : Int32)), .unset, .unset] [(.ref b66), (.ref b213)])) _
    refine XS.iload X221.here hx rfl (hb hby at_576) rfl ?_
    show Steps p.tables e below (T221.setTop (mkF m 578 #[.val (.int p0), .val (.int p1), .val (.int p2), .val (.int p3), .val (.int p4), .val (.int p5), .val (.ref b1), .val (.ref b66), .val (.ref b132), .val (.int lv197), .val (.int sv199), .val (.int lv201), .val (.int sv203), .val (.int lv205), .val (.int sv207), .val (.ref b213), .val (.int (0 : Int32)), .val (.int (1 : Int32)), .unset, .unset] [(.int sv203), (.ref b66), (.ref b213)])) _
    refine XS.iload X221.here hx rfl (hb hby at_578) rfl ?_
    show Steps p.tables e below (T221.setTop (mkF m 580 #[.val (.int p0), .val (.int p1), .val (.int p2), .val (.int p3), .val (.int p4), .val (.int p5), .val (.ref b1), .val (.ref b66), .val (.ref b132), .val (.int lv197), .val (.int sv199), .val (.int lv201), .val (.int sv203), .val (.int lv205), .val (.int sv207), .val (.ref b213), .val (.int (0 : Int32)), .val (.int (1 : Int32)), .unset, .unset] [(.int lv201), (.int sv203), (.ref b66), (.ref b213)])) _
    refine XS.iload X221.here hx rfl (hb hby at_580) rfl ?_
    show Steps p.tables e below (T221.setTop (mkF m 582 #[.val (.int p0), .val (.int p1), .val (.int p2), .val (.int p3), .val (.int p4), .val (.int p5), .val (.ref b1), .val (.ref b66), .val (.ref b132), .val (.int lv197), .val (.int sv199), .val (.int lv201), .val (.int sv203), .val (.int lv205), .val (.int sv207), .val (.ref b213), .val (.int (0 : Int32)), .val (.int (1 : Int32)), .unset, .unset] [(.int p4), (.int lv201), (.int sv203), (.ref b66), (.ref b213)])) _
    refine st224.trans ?_
    show Steps p.tables e below (T224.setTop (mkF m 585 #[.val (.int p0), .val (.int p1), .val (.int p2), .val (.int p3), .val (.int p4), .val (.int p5), .val (.ref b1), .val (.ref b66), .val (.ref b132), .val (.int lv197), .val (.int sv199), .val (.int lv201), .val (.int sv203), .val (.int lv205), .val (.int sv207), .val (.ref b213), .val (.int (0 : Int32)), .val (.int (1 : Int32)), .unset, .unset] [(.int (1 : Int32))])) _
    refine XS.istore X224.here hx rfl (hb hby at_585) rfl (l' := #[.val (.int p0), .val (.int p1), .val (.int p2), .val (.int p3), .val (.int p4), .val (.int p5), .val (.ref b1), .val (.ref b66), .val (.ref b132), .val (.int lv197), .val (.int sv199), .val (.int lv201), .val (.int sv203), .val (.int lv205), .val (.int sv207), .val (.ref b213), .val (.int (0 : Int32)), .val (.int (1 : Int32)), .val (.int (1 : Int32)), .unset]) rfl ?_
    show Steps p.tables e below (T224.setTop (mkF m 587 #[.val (.int p0), .val (.int p1), .val (.int p2), .val (.int p3), .val (.int p4), .val (.int p5), .val (.ref b1), .val (.ref b66), .val (.ref b132), .val (.int lv197), .val (.int sv199), .val (.int lv201), .val (.int sv203), .val (.int lv205), .val (.int sv207), .val (.ref b213), .val (.int (0 : Int32)), .val (.int (1 : Int32)), .val (.int (1 : Int32)), .unset] [])) _
    refine XS.aload X224.here hx rfl (hb hby at_587) rfl rfl ?_
    show Steps p.tables e below (T224.setTop (mkF m 589 #[.val (.int p0), .val (.int p1), .val (.int p2), .val (.int p3), .val (.int p4), .val (.int p5), .val (.ref b1), .val (.ref b66), .val (.ref b132), .val (.int lv197), .val (.int sv199), .val (.int lv201), .val (.int sv203), .val (.int lv205), .val (.int sv207), .val (.ref b213), .val (.int (0 : Int32)), .val (.int (1 : Int32)), .val (.int (1 : Int32)), .unset] [(.ref b213)])) _
    refine XS.aload X224.here hx rfl (hb hby at_589) rfl rfl ?_
    show Steps p.tables e below (T224.setTop (mkF m 591 #[.val (.int p0), .val (.int p1), .val (.int p2), .val (.int p3), .val (.int p4), .val (.int p5), .val (.ref b1), .val (.ref b66), .val (.ref b132), .val (.int lv197), .val (.int sv199), .val (.int lv201), .val (.int sv203), .val (.int lv205), .val (.int sv207), .val (.ref b213), .val (.int (0 : Int32)), .val (.int (1 : Int32)), .val (.int (1 : Int32)), .unset] [(.ref b132), (.ref b213)])) _
    refine XS.iload X224.here hx rfl (hb hby at_591) rfl ?_
    show Steps p.tables e below (T224.setTop (mkF m 593 #[.val (.int p0), .val (.int p1), .val (.int p2), .val (.int p3), .val (.int p4), .val (.int p5), .val (.ref b1), .val (.ref b66), .val (.ref b132), .val (.int lv197), .val (.int sv199), .val (.int lv201), .val (.int sv203), .val (.int lv205), .val (.int sv207), .val (.ref b213), .val (.int (0 : Int32)), .val (.int (1 : Int32)), .val (.int (1 : Int32)), .unset] [(.int sv207), (.ref b132), (.ref b213)])) _
    refine XS.iload X224.here hx rfl (hb hby at_593) rfl ?_
    show Steps p.tables e below (T224.setTop (mkF m 595 #[.val (.int p0), .val (.int p1), .val (.int p2), .val (.int p3), .val (.int p4), .val (.int p5), .val (.ref b1), .val (.ref b66), .val (.ref b132), .val (.int lv197), .val (.int sv199), .val (.int lv201), .val (.int sv203), .val (.int lv205), .val (.int sv207), .val (.ref b213), .val (.int (0 : Int32)), .val (.int (1 : Int32)), .val (.int (1 : Int32)), .unset] [(.int lv205), (.int sv207), (.ref b132), (.ref b213)])) _
    refine XS.iload X224.here hx rfl (hb hby at_595) rfl ?_
    show Steps p.tables e below (T224.setTop (mkF m 597 #[.val (.int p0), .val (.int p1), .val (.int p2), .val (.int p3), .val (.int p4), .val (.int p5), .val (.ref b1), .val (.ref b66), .val (.ref b132), .val (.int lv197), .val (.int sv199), .val (.int lv201), .val (.int sv203), .val (.int lv205), .val (.int sv207), .val (.ref b213), .val (.int (0 : Int32)), .val (.int (1 : Int32)), .val (.int (1 : Int32)), .unset] [(.int p5), (.int lv205), (.int sv207), (.ref b132), (.ref b213)])) _
    refine st234.trans ?_
    show Steps p.tables e below (T234.setTop (mkF m 600 #[.val (.int p0), .val (.int p1), .val (.int p2), .val (.int p3), .val (.int p4), .val (.int p5), .val (.ref b1), .val (.ref b66), .val (.ref b132), .val (.int lv197), .val (.int sv199), .val (.int lv201), .val (.int sv203), .val (.int lv205), .val (.int sv207), .val (.ref b213), .val (.int (0 : Int32)), .val (.int (1 : Int32)), .val (.int (1 : Int32)), .unset] [(.int (2 : Int32))])) _
    refine XS.istore X234.here hx rfl (hb hby at_600) rfl (l' := #[.val (.int p0), .val (.int p1), .val (.int p2), .val (.int p3), .val (.int p4), .val (.int p5), .val (.ref b1), .val (.ref b66), .val (.ref b132), .val (.int lv197), .val (.int sv199), .val (.int lv201), .val (.int sv203), .val (.int lv205), .val (.int sv207), .val (.ref b213), .val (.int (0 : Int32)), .val (.int (1 : Int32)), .val (.int (1 : Int32)), .val (.int (2 : Int32))]) rfl ?_
    show Steps p.tables e below (T234.setTop (mkF m 602 #[.val (.int p0), .val (.int p1), .val (.int p2), .val (.int p3), .val (.int p4), .val (.int p5), .val (.ref b1), .val (.ref b66), .val (.ref b132), .val (.int lv197), .val (.int sv199), .val (.int lv201), .val (.int sv203), .val (.int lv205), .val (.int sv207), .val (.ref b213), .val (.int (0 : Int32)), .val (.int (1 : Int32)), .val (.int (1 : Int32)), .val (.int (2 : Int32))] [])) _
    refine XS.iload X234.here hx rfl (hb hby at_602) rfl ?_
    show Steps p.tables e below (T234.setTop (mkF m 604 #[.val (.int p0), .val (.int p1), .val (.int p2), .val (.int p3), .val (.int p4), .val (.int p5), .val (.ref b1), .val (.ref b66), .val (.ref b132), .val (.int lv197), .val (.int sv199), .val (.int lv201), .val (.int sv203), .val (.int lv205), .val (.int sv207), .val (.ref b213), .val (.int (0 : Int32)), .val (.int (1 : Int32)), .val (.int (1 : Int32)), .val (.int (2 : Int32))] [(.int (1 : Int32))])) _
    refine XS.ifNo X234.here hx rfl (hb hby at_604) rfl ((if0 _ _).trans (feq (by decide : ¬ ((1 : Int32) = (0 : Int32)))).1) ?_
    show Steps p.tables e below (T234.setTop (mkF m 607 #[.val (.int p0), .val (.int p1), .val (.int p2), .val (.int p3), .val (.int p4), .val (.int p5), .val (.ref b1), .val (.ref b66), .val (.ref b132), .val (.int lv197), .val (.int sv199), .val (.int lv201), .val (.int sv203), .val (.int lv205), .val (.int sv207), .val (.ref b213), .val (.int (0 : Int32)), .val (.int (1 : Int32)), .val (.int (1 : Int32)), .val (.int (2 : Int32))] [])) _
    refine XS.iload X234.here hx rfl (hb hby at_607) rfl ?_
    show Steps p.tables e below (T234.setTop (mkF m 609 #[.val (.int p0), .val (.int p1), .val (.int p2), .val (.int p3), .val (.int p4), .val (.int p5), .val (.ref b1), .val (.ref b66), .val (.ref b132), .val (.int lv197), .val (.int sv199), .val (.int lv201), .val (.int sv203), .val (.int lv205), .val (.int sv207), .val (.ref b213), .val (.int (0 : Int32)), .val (.int (1 : Int32)), .val (.int (1 : Int32)), .val (.int (2 : Int32))] [(.int (1 : Int32))])) _
    refine XS.iconst X234.here hx rfl (hb hby at_609) ?_
    show Steps p.tables e below (T234.setTop (mkF m 610 #[.val (.int p0), .val (.int p1), .val (.int p2), .val (.int p3), .val (.int p4), .val (.int p5), .val (.ref b1), .val (.ref b66), .val (.ref b132), .val (.int lv197), .val (.int sv199), .val (.int lv201), .val (.int sv203), .val (.int lv205), .val (.int sv207), .val (.ref b213), .val (.int (0 : Int32)), .val (.int (1 : Int32)), .val (.int (1 : Int32)), .val (.int (2 : Int32))] [(.int (1 : Int32)), (.int (1 : Int32))])) _
    refine XS.icmpNo X234.here hx rfl (hb hby at_610) rfl (teq (by decide : (1 : Int32) = (1 : Int32))).2 ?_
    show Steps p.tables e below (T234.setTop (mkF m 613 #[.val (.int p0), .val (.int p1), .val (.int p2), .val (.int p3), .val (.int p4), .val (.int p5), .val (.ref b1), .val (.ref b66), .val (.ref b132), .val (.int lv197), .val (.int sv199), .val (.int lv201), .val (.int sv203), .val (.int lv205), .val (.int sv207), .val (.ref b213), .val (.int (0 : Int32)), .val (.int (1 : Int32)), .val (.int (1 : Int32)), .val (.int (2 : Int32))] [])) _
    refine XS.iload X234.here hx rfl (hb hby at_613) rfl ?_
    show Steps p.tables e below (T234.setTop (mkF m 615 #[.val (.int p0), .val (.int p1), .val (.int p2), .val (.int p3), .val (.int p4), .val (.int p5), .val (.ref b1), .val (.ref b66), .val (.ref b132), .val (.int lv197), .val (.int sv199), .val (.int lv201), .val (.int sv203), .val (.int lv205), .val (.int sv207), .val (.ref b213), .val (.int (0 : Int32)), .val (.int (1 : Int32)), .val (.int (1 : Int32)), .val (.int (2 : Int32))] [(.int (2 : Int32))])) _
    refine XS.iconst X234.here hx rfl (hb hby at_615) ?_
    show Steps p.tables e below (T234.setTop (mkF m 616 #[.val (.int p0), .val (.int p1), .val (.int p2), .val (.int p3), .val (.int p4), .val (.int p5), .val (.ref b1), .val (.ref b66), .val (.ref b132), .val (.int lv197), .val (.int sv199), .val (.int lv201), .val (.int sv203), .val (.int lv205), .val (.int sv207), .val (.ref b213), .val (.int (0 : Int32)), .val (.int (1 : Int32)), .val (.int (1 : Int32)), .val (.int (2 : Int32))] [(.int (2 : Int32)), (.int (2 : Int32))])) _
    refine XS.icmpNo X234.here hx rfl (hb hby at_616) rfl (teq (by decide : (2 : Int32) = (2 : Int32))).2 ?_
    show Steps p.tables e below (T234.setTop (mkF m 619 #[.val (.int p0), .val (.int p1), .val (.int p2), .val (.int p3), .val (.int p4), .val (.int p5), .val (.ref b1), .val (.ref b66), .val (.ref b132), .val (.int lv197), .val (.int sv199), .val (.int lv201), .val (.int sv203), .val (.int lv205), .val (.int sv207), .val (.ref b213), .val (.int (0 : Int32)), .val (.int (1 : Int32)), .val (.int (1 : Int32)), .val (.int (2 : Int32))] [])) _
    refine XS.iconst X234.here hx rfl (hb hby at_619) ?_
    show Steps p.tables e below (T234.setTop (mkF m 620 #[.val (.int p0), .val (.int p1), .val (.int p2), .val (.int p3), .val (.int p4), .val (.int p5), .val (.ref b1), .val (.ref b66), .val (.ref b132), .val (.int lv197), .val (.int sv199), .val (.int lv201), .val (.int sv203), .val (.int lv205), .val (.int sv207), .val (.ref b213), .val (.int (0 : Int32)), .val (.int (1 : Int32)), .val (.int (1 : Int32)), .val (.int (2 : Int32))] [(.int (1 : Int32))])) _
    refine XS.goto X234.here hx rfl (pc0 := 620) (pc' := 624) rfl (hb hby at_620) (by decide) (by decide) ?_
    show Steps p.tables e below (T234.setTop (mkF m 624 #[.val (.int p0), .val (.int p1), .val (.int p2), .val (.int p3), .val (.int p4), .val (.int p5), .val (.ref b1), .val (.ref b66), .val (.ref b132), .val (.int lv197), .val (.int sv199), .val (.int lv201), .val (.int sv203), .val (.int lv205), .val (.int sv207), .val (.ref b213), .val (.int (0 : Int32)), .val (.int (1 : Int32)), .val (.int (1 : Int32)), .val (.int (2 : Int32))] [(.int (1 : Int32))])) _
    refine XS.istore X234.here hx rfl (hb hby at_624) rfl (l' := #[.val (.int p0), .val (.int p1), .val (.int p2), .val (.int p3), .val (.int p4), .val (.int p5), .val (.ref b1), .val (.ref b66), .val (.ref b132), .val (.int lv197), .val (.int sv199), .val (.int lv201), .val (.int sv203), .val (.int lv205), .val (.int sv207), .val (.ref b213), .val (.int (0 : Int32)), .val (.int (1 : Int32)), .val (.int (1 : Int32)), .val (.int (2 : Int32))]) rfl ?_
    show Steps p.tables e below (T234.setTop (mkF m 626 #[.val (.int p0), .val (.int p1), .val (.int p2), .val (.int p3), .val (.int p4), .val (.int p5), .val (.ref b1), .val (.ref b66), .val (.ref b132), .val (.int lv197), .val (.int sv199), .val (.int lv201), .val (.int sv203), .val (.int lv205), .val (.int sv207), .val (.ref b213), .val (.int (0 : Int32)), .val (.int (1 : Int32)), .val (.int (1 : Int32)), .val (.int (2 : Int32))] [])) _
    refine XS.iload X234.here hx rfl (hb hby at_626) rfl ?_
    show Steps p.tables e below (T234.setTop (mkF m 628 #[.val (.int p0), .val (.int p1), .val (.int p2), .val (.int p3), .val (.int p4), .val (.int p5), .val (.ref b1), .val (.ref b66), .val (.ref b132), .val (.int lv197), .val (.int sv199), .val (.int lv201), .val (.int sv203), .val (.int lv205), .val (.int sv207), .val (.ref b213), .val (.int (0 : Int32)), .val (.int (1 : Int32)), .val (.int (1 : Int32)), .val (.int (2 : Int32))] [(.int (1 : Int32))])) _
    refine XS.ifNo X234.here hx rfl (hb hby at_628) rfl ((if0 _ _).trans (feq (by decide : ¬ ((1 : Int32) = (0 : Int32)))).1) ?_
    show Steps p.tables e below (T234.setTop (mkF m 631 #[.val (.int p0), .val (.int p1), .val (.int p2), .val (.int p3), .val (.int p4), .val (.int p5), .val (.ref b1), .val (.ref b66), .val (.ref b132), .val (.int lv197), .val (.int sv199), .val (.int lv201), .val (.int sv203), .val (.int lv205), .val (.int sv207), .val (.ref b213), .val (.int (0 : Int32)), .val (.int (1 : Int32)), .val (.int (1 : Int32)), .val (.int (2 : Int32))] [])) _
    refine XS.aload X234.here hx rfl (hb hby at_631) rfl rfl ?_
    show Steps p.tables e below (T234.setTop (mkF m 633 #[.val (.int p0), .val (.int p1), .val (.int p2), .val (.int p3), .val (.int p4), .val (.int p5), .val (.ref b1), .val (.ref b66), .val (.ref b132), .val (.int lv197), .val (.int sv199), .val (.int lv201), .val (.int sv203), .val (.int lv205), .val (.int sv207), .val (.ref b213), .val (.int (0 : Int32)), .val (.int (1 : Int32)), .val (.int (1 : Int32)), .val (.int (2 : Int32))] [(.ref b213)])) _
    refine st237.trans ?_
    show Steps p.tables e below (T237.setTop (mkF m 636 #[.val (.int p0), .val (.int p1), .val (.int p2), .val (.int p3), .val (.int p4), .val (.int p5), .val (.ref b1), .val (.ref b66), .val (.ref b132), .val (.int lv197), .val (.int sv199), .val (.int lv201), .val (.int sv203), .val (.int lv205), .val (.int sv207), .val (.ref b213), .val (.int (0 : Int32)), .val (.int (1 : Int32)), .val (.int (1 : Int32)), .val (.int (2 : Int32))] [(.int (3 : Int32))])) _
    refine XS.iconst X237.here hx rfl (hb hby at_636) ?_
    show Steps p.tables e below (T237.setTop (mkF m 637 #[.val (.int p0), .val (.int p1), .val (.int p2), .val (.int p3), .val (.int p4), .val (.int p5), .val (.ref b1), .val (.ref b66), .val (.ref b132), .val (.int lv197), .val (.int sv199), .val (.int lv201), .val (.int sv203), .val (.int lv205), .val (.int sv207), .val (.ref b213), .val (.int (0 : Int32)), .val (.int (1 : Int32)), .val (.int (1 : Int32)), .val (.int (2 : Int32))] [(.int (3 : Int32)), (.int (3 : Int32))])) _
    refine XS.icmpNo X237.here hx rfl (hb hby at_637) rfl (teq (by decide : (3 : Int32) = (3 : Int32))).2 ?_
    show Steps p.tables e below (T237.setTop (mkF m 640 #[.val (.int p0), .val (.int p1), .val (.int p2), .val (.int p3), .val (.int p4), .val (.int p5), .val (.ref b1), .val (.ref b66), .val (.ref b132), .val (.int lv197), .val (.int sv199), .val (.int lv201), .val (.int sv203), .val (.int lv205), .val (.int sv207), .val (.ref b213), .val (.int (0 : Int32)), .val (.int (1 : Int32)), .val (.int (1 : Int32)), .val (.int (2 : Int32))] [])) _
    refine XS.iconst X237.here hx rfl (hb hby at_640) ?_
    show Steps p.tables e below (T237.setTop (mkF m 641 #[.val (.int p0), .val (.int p1), .val (.int p2), .val (.int p3), .val (.int p4), .val (.int p5), .val (.ref b1), .val (.ref b66), .val (.ref b132), .val (.int lv197), .val (.int sv199), .val (.int lv201), .val (.int sv203), .val (.int lv205), .val (.int sv207), .val (.ref b213), .val (.int (0 : Int32)), .val (.int (1 : Int32)), .val (.int (1 : Int32)), .val (.int (2 : Int32))] [(.int (1 : Int32))])) _
    refine XS.goto X237.here hx rfl (pc0 := 641) (pc' := 645) rfl (hb hby at_641) (by decide) (by decide) ?_
    show Steps p.tables e below (T237.setTop (mkF m 645 #[.val (.int p0), .val (.int p1), .val (.int p2), .val (.int p3), .val (.int p4), .val (.int p5), .val (.ref b1), .val (.ref b66), .val (.ref b132), .val (.int lv197), .val (.int sv199), .val (.int lv201), .val (.int sv203), .val (.int lv205), .val (.int sv207), .val (.ref b213), .val (.int (0 : Int32)), .val (.int (1 : Int32)), .val (.int (1 : Int32)), .val (.int (2 : Int32))] [(.int (1 : Int32))])) _
    refine XS.istore X237.here hx rfl (hb hby at_645) rfl (l' := #[.val (.int p0), .val (.int p1), .val (.int p2), .val (.int p3), .val (.int p4), .val (.int p5), .val (.ref b1), .val (.ref b66), .val (.ref b132), .val (.int lv197), .val (.int sv199), .val (.int lv201), .val (.int sv203), .val (.int lv205), .val (.int sv207), .val (.ref b213), .val (.int (0 : Int32)), .val (.int (1 : Int32)), .val (.int (1 : Int32)), .val (.int (2 : Int32))]) rfl ?_
    show Steps p.tables e below (T237.setTop (mkF m 647 #[.val (.int p0), .val (.int p1), .val (.int p2), .val (.int p3), .val (.int p4), .val (.int p5), .val (.ref b1), .val (.ref b66), .val (.ref b132), .val (.int lv197), .val (.int sv199), .val (.int lv201), .val (.int sv203), .val (.int lv205), .val (.int sv207), .val (.ref b213), .val (.int (0 : Int32)), .val (.int (1 : Int32)), .val (.int (1 : Int32)), .val (.int (2 : Int32))] [])) _
    refine XS.iload X237.here hx rfl (hb hby at_647) rfl ?_
    show Steps p.tables e below (T237.setTop (mkF m 649 #[.val (.int p0), .val (.int p1), .val (.int p2), .val (.int p3), .val (.int p4), .val (.int p5), .val (.ref b1), .val (.ref b66), .val (.ref b132), .val (.int lv197), .val (.int sv199), .val (.int lv201), .val (.int sv203), .val (.int lv205), .val (.int sv207), .val (.ref b213), .val (.int (0 : Int32)), .val (.int (1 : Int32)), .val (.int (1 : Int32)), .val (.int (2 : Int32))] [(.int (1 : Int32))])) _
    refine XS.ifNo X237.here hx rfl (hb hby at_649) rfl ((if0 _ _).trans (feq (by decide : ¬ ((1 : Int32) = (0 : Int32)))).1) ?_
    show Steps p.tables e below (T237.setTop (mkF m 652 #[.val (.int p0), .val (.int p1), .val (.int p2), .val (.int p3), .val (.int p4), .val (.int p5), .val (.ref b1), .val (.ref b66), .val (.ref b132), .val (.int lv197), .val (.int sv199), .val (.int lv201), .val (.int sv203), .val (.int lv205), .val (.int sv207), .val (.ref b213), .val (.int (0 : Int32)), .val (.int (1 : Int32)), .val (.int (1 : Int32)), .val (.int (2 : Int32))] [])) _
    refine XS.aload X237.here hx rfl (hb hby at_652) rfl rfl ?_
    show Steps p.tables e below (T237.setTop (mkF m 654 #[.val (.int p0), .val (.int p1), .val (.int p2), .val (.int p3), .val (.int p4), .val (.int p5), .val (.ref b1), .val (.ref b66), .val (.ref b132), .val (.int lv197), .val (.int sv199), .val (.int lv201), .val (.int sv203), .val (.int lv205), .val (.int sv207), .val (.ref b213), .val (.int (0 : Int32)), .val (.int (1 : Int32)), .val (.int (1 : Int32)), .val (.int (2 : Int32))] [(.ref b213)])) _
    refine XS.iconst X237.here hx rfl (hb hby at_654) ?_
    show Steps p.tables e below (T237.setTop (mkF m 655 #[.val (.int p0), .val (.int p1), .val (.int p2), .val (.int p3), .val (.int p4), .val (.int p5), .val (.ref b1), .val (.ref b66), .val (.ref b132), .val (.int lv197), .val (.int sv199), .val (.int lv201), .val (.int sv203), .val (.int lv205), .val (.int sv207), .val (.ref b213), .val (.int (0 : Int32)), .val (.int (1 : Int32)), .val (.int (1 : Int32)), .val (.int (2 : Int32))] [(.int (0 : Int32)), (.ref b213)])) _
    refine st239.trans ?_
    show Steps p.tables e below (T239.setTop (mkF m 658 #[.val (.int p0), .val (.int p1), .val (.int p2), .val (.int p3), .val (.int p4), .val (.int p5), .val (.ref b1), .val (.ref b66), .val (.ref b132), .val (.int lv197), .val (.int sv199), .val (.int lv201), .val (.int sv203), .val (.int lv205), .val (.int sv207), .val (.ref b213), .val (.int (0 : Int32)), .val (.int (1 : Int32)), .val (.int (1 : Int32)), .val (.int (2 : Int32))] [(.int (xv1 - (0 : Int32)))])) _
    refine XS.iload X239.here hx rfl (hb hby at_658) rfl ?_
    show Steps p.tables e below (T239.setTop (mkF m 660 #[.val (.int p0), .val (.int p1), .val (.int p2), .val (.int p3), .val (.int p4), .val (.int p5), .val (.ref b1), .val (.ref b66), .val (.ref b132), .val (.int lv197), .val (.int sv199), .val (.int lv201), .val (.int sv203), .val (.int lv205), .val (.int sv207), .val (.ref b213), .val (.int (0 : Int32)), .val (.int (1 : Int32)), .val (.int (1 : Int32)), .val (.int (2 : Int32))] [(.int lv197), (.int (xv1 - (0 : Int32)))])) _
    refine XS.icmpNo X239.here hx rfl (hb hby at_660) rfl (teq hk243).2 ?_
    show Steps p.tables e below (T239.setTop (mkF m 663 #[.val (.int p0), .val (.int p1), .val (.int p2), .val (.int p3), .val (.int p4), .val (.int p5), .val (.ref b1), .val (.ref b66), .val (.ref b132), .val (.int lv197), .val (.int sv199), .val (.int lv201), .val (.int sv203), .val (.int lv205), .val (.int sv207), .val (.ref b213), .val (.int (0 : Int32)), .val (.int (1 : Int32)), .val (.int (1 : Int32)), .val (.int (2 : Int32))] [])) _
    refine XS.iconst X239.here hx rfl (hb hby at_663) ?_
    show Steps p.tables e below (T239.setTop (mkF m 664 #[.val (.int p0), .val (.int p1), .val (.int p2), .val (.int p3), .val (.int p4), .val (.int p5), .val (.ref b1), .val (.ref b66), .val (.ref b132), .val (.int lv197), .val (.int sv199), .val (.int lv201), .val (.int sv203), .val (.int lv205), .val (.int sv207), .val (.ref b213), .val (.int (0 : Int32)), .val (.int (1 : Int32)), .val (.int (1 : Int32)), .val (.int (2 : Int32))] [(.int (1 : Int32))])) _
    refine XS.goto X239.here hx rfl (pc0 := 664) (pc' := 668) rfl (hb hby at_664) (by decide) (by decide) ?_
    show Steps p.tables e below (T239.setTop (mkF m 668 #[.val (.int p0), .val (.int p1), .val (.int p2), .val (.int p3), .val (.int p4), .val (.int p5), .val (.ref b1), .val (.ref b66), .val (.ref b132), .val (.int lv197), .val (.int sv199), .val (.int lv201), .val (.int sv203), .val (.int lv205), .val (.int sv207), .val (.ref b213), .val (.int (0 : Int32)), .val (.int (1 : Int32)), .val (.int (1 : Int32)), .val (.int (2 : Int32))] [(.int (1 : Int32))])) _
    refine XS.istore X239.here hx rfl (hb hby at_668) rfl (l' := #[.val (.int p0), .val (.int p1), .val (.int p2), .val (.int p3), .val (.int p4), .val (.int p5), .val (.ref b1), .val (.ref b66), .val (.ref b132), .val (.int lv197), .val (.int sv199), .val (.int lv201), .val (.int sv203), .val (.int lv205), .val (.int sv207), .val (.ref b213), .val (.int (0 : Int32)), .val (.int (1 : Int32)), .val (.int (1 : Int32)), .val (.int (2 : Int32))]) rfl ?_
    show Steps p.tables e below (T239.setTop (mkF m 670 #[.val (.int p0), .val (.int p1), .val (.int p2), .val (.int p3), .val (.int p4), .val (.int p5), .val (.ref b1), .val (.ref b66), .val (.ref b132), .val (.int lv197), .val (.int sv199), .val (.int lv201), .val (.int sv203), .val (.int lv205), .val (.int sv207), .val (.ref b213), .val (.int (0 : Int32)), .val (.int (1 : Int32)), .val (.int (1 : Int32)), .val (.int (2 : Int32))] [])) _
    refine XS.iload X239.here hx rfl (hb hby at_670) rfl ?_
    show Steps p.tables e below (T239.setTop (mkF m 672 #[.val (.int p0), .val (.int p1), .val (.int p2), .val (.int p3), .val (.int p4), .val (.int p5), .val (.ref b1), .val (.ref b66), .val (.ref b132), .val (.int lv197), .val (.int sv199), .val (.int lv201), .val (.int sv203), .val (.int lv205), .val (.int sv207), .val (.ref b213), .val (.int (0 : Int32)), .val (.int (1 : Int32)), .val (.int (1 : Int32)), .val (.int (2 : Int32))] [(.int (1 : Int32))])) _
    refine XS.ifNo X239.here hx rfl (hb hby at_672) rfl ((if0 _ _).trans (feq (by decide : ¬ ((1 : Int32) = (0 : Int32)))).1) ?_
    show Steps p.tables e below (T239.setTop (mkF m 675 #[.val (.int p0), .val (.int p1), .val (.int p2), .val (.int p3), .val (.int p4), .val (.int p5), .val (.ref b1), .val (.ref b66), .val (.ref b132), .val (.int lv197), .val (.int sv199), .val (.int lv201), .val (.int sv203), .val (.int lv205), .val (.int sv207), .val (.ref b213), .val (.int (0 : Int32)), .val (.int (1 : Int32)), .val (.int (1 : Int32)), .val (.int (2 : Int32))] [])) _
    refine XS.aload X239.here hx rfl (hb hby at_675) rfl rfl ?_
    show Steps p.tables e below (T239.setTop (mkF m 677 #[.val (.int p0), .val (.int p1), .val (.int p2), .val (.int p3), .val (.int p4), .val (.int p5), .val (.ref b1), .val (.ref b66), .val (.ref b132), .val (.int lv197), .val (.int sv199), .val (.int lv201), .val (.int sv203), .val (.int lv205), .val (.int sv207), .val (.ref b213), .val (.int (0 : Int32)), .val (.int (1 : Int32)), .val (.int (1 : Int32)), .val (.int (2 : Int32))] [(.ref b213)])) _
    refine XS.iconst X239.here hx rfl (hb hby at_677) ?_
    show Steps p.tables e below (T239.setTop (mkF m 678 #[.val (.int p0), .val (.int p1), .val (.int p2), .val (.int p3), .val (.int p4), .val (.int p5), .val (.ref b1), .val (.ref b66), .val (.ref b132), .val (.int lv197), .val (.int sv199), .val (.int lv201), .val (.int sv203), .val (.int lv205), .val (.int sv207), .val (.ref b213), .val (.int (0 : Int32)), .val (.int (1 : Int32)), .val (.int (1 : Int32)), .val (.int (2 : Int32))] [(.int (1 : Int32)), (.ref b213)])) _
    refine st244.trans ?_
    show Steps p.tables e below (T244.setTop (mkF m 681 #[.val (.int p0), .val (.int p1), .val (.int p2), .val (.int p3), .val (.int p4), .val (.int p5), .val (.ref b1), .val (.ref b66), .val (.ref b132), .val (.int lv197), .val (.int sv199), .val (.int lv201), .val (.int sv203), .val (.int lv205), .val (.int sv207), .val (.ref b213), .val (.int (0 : Int32)), .val (.int (1 : Int32)), .val (.int (1 : Int32)), .val (.int (2 : Int32))] [(.int (xv2 - xv1))])) _
    refine XS.iload X244.here hx rfl (hb hby at_681) rfl ?_
    show Steps p.tables e below (T244.setTop (mkF m 683 #[.val (.int p0), .val (.int p1), .val (.int p2), .val (.int p3), .val (.int p4), .val (.int p5), .val (.ref b1), .val (.ref b66), .val (.ref b132), .val (.int lv197), .val (.int sv199), .val (.int lv201), .val (.int sv203), .val (.int lv205), .val (.int sv207), .val (.ref b213), .val (.int (0 : Int32)), .val (.int (1 : Int32)), .val (.int (1 : Int32)), .val (.int (2 : Int32))] [(.int lv201), (.int (xv2 - xv1))])) _
    refine XS.icmpNo X244.here hx rfl (hb hby at_683) rfl (teq hk248).2 ?_
    show Steps p.tables e below (T244.setTop (mkF m 686 #[.val (.int p0), .val (.int p1), .val (.int p2), .val (.int p3), .val (.int p4), .val (.int p5), .val (.ref b1), .val (.ref b66), .val (.ref b132), .val (.int lv197), .val (.int sv199), .val (.int lv201), .val (.int sv203), .val (.int lv205), .val (.int sv207), .val (.ref b213), .val (.int (0 : Int32)), .val (.int (1 : Int32)), .val (.int (1 : Int32)), .val (.int (2 : Int32))] [])) _
    refine XS.iconst X244.here hx rfl (hb hby at_686) ?_
    show Steps p.tables e below (T244.setTop (mkF m 687 #[.val (.int p0), .val (.int p1), .val (.int p2), .val (.int p3), .val (.int p4), .val (.int p5), .val (.ref b1), .val (.ref b66), .val (.ref b132), .val (.int lv197), .val (.int sv199), .val (.int lv201), .val (.int sv203), .val (.int lv205), .val (.int sv207), .val (.ref b213), .val (.int (0 : Int32)), .val (.int (1 : Int32)), .val (.int (1 : Int32)), .val (.int (2 : Int32))] [(.int (1 : Int32))])) _
    refine XS.goto X244.here hx rfl (pc0 := 687) (pc' := 691) rfl (hb hby at_687) (by decide) (by decide) ?_
    show Steps p.tables e below (T244.setTop (mkF m 691 #[.val (.int p0), .val (.int p1), .val (.int p2), .val (.int p3), .val (.int p4), .val (.int p5), .val (.ref b1), .val (.ref b66), .val (.ref b132), .val (.int lv197), .val (.int sv199), .val (.int lv201), .val (.int sv203), .val (.int lv205), .val (.int sv207), .val (.ref b213), .val (.int (0 : Int32)), .val (.int (1 : Int32)), .val (.int (1 : Int32)), .val (.int (2 : Int32))] [(.int (1 : Int32))])) _
    refine XS.istore X244.here hx rfl (hb hby at_691) rfl (l' := #[.val (.int p0), .val (.int p1), .val (.int p2), .val (.int p3), .val (.int p4), .val (.int p5), .val (.ref b1), .val (.ref b66), .val (.ref b132), .val (.int lv197), .val (.int sv199), .val (.int lv201), .val (.int sv203), .val (.int lv205), .val (.int sv207), .val (.ref b213), .val (.int (0 : Int32)), .val (.int (1 : Int32)), .val (.int (1 : Int32)), .val (.int (2 : Int32))]) rfl ?_
    show Steps p.tables e below (T244.setTop (mkF m 693 #[.val (.int p0), .val (.int p1), .val (.int p2), .val (.int p3), .val (.int p4), .val (.int p5), .val (.ref b1), .val (.ref b66), .val (.ref b132), .val (.int lv197), .val (.int sv199), .val (.int lv201), .val (.int sv203), .val (.int lv205), .val (.int sv207), .val (.ref b213), .val (.int (0 : Int32)), .val (.int (1 : Int32)), .val (.int (1 : Int32)), .val (.int (2 : Int32))] [])) _
    refine XS.iload X244.here hx rfl (hb hby at_693) rfl ?_
    show Steps p.tables e below (T244.setTop (mkF m 695 #[.val (.int p0), .val (.int p1), .val (.int p2), .val (.int p3), .val (.int p4), .val (.int p5), .val (.ref b1), .val (.ref b66), .val (.ref b132), .val (.int lv197), .val (.int sv199), .val (.int lv201), .val (.int sv203), .val (.int lv205), .val (.int sv207), .val (.ref b213), .val (.int (0 : Int32)), .val (.int (1 : Int32)), .val (.int (1 : Int32)), .val (.int (2 : Int32))] [(.int (1 : Int32))])) _
    refine XS.ifNo X244.here hx rfl (hb hby at_695) rfl ((if0 _ _).trans (feq (by decide : ¬ ((1 : Int32) = (0 : Int32)))).1) ?_
    show Steps p.tables e below (T244.setTop (mkF m 698 #[.val (.int p0), .val (.int p1), .val (.int p2), .val (.int p3), .val (.int p4), .val (.int p5), .val (.ref b1), .val (.ref b66), .val (.ref b132), .val (.int lv197), .val (.int sv199), .val (.int lv201), .val (.int sv203), .val (.int lv205), .val (.int sv207), .val (.ref b213), .val (.int (0 : Int32)), .val (.int (1 : Int32)), .val (.int (1 : Int32)), .val (.int (2 : Int32))] [])) _
    refine XS.aload X244.here hx rfl (hb hby at_698) rfl rfl ?_
    show Steps p.tables e below (T244.setTop (mkF m 700 #[.val (.int p0), .val (.int p1), .val (.int p2), .val (.int p3), .val (.int p4), .val (.int p5), .val (.ref b1), .val (.ref b66), .val (.ref b132), .val (.int lv197), .val (.int sv199), .val (.int lv201), .val (.int sv203), .val (.int lv205), .val (.int sv207), .val (.ref b213), .val (.int (0 : Int32)), .val (.int (1 : Int32)), .val (.int (1 : Int32)), .val (.int (2 : Int32))] [(.ref b213)])) _
    refine XS.iconst X244.here hx rfl (hb hby at_700) ?_
    show Steps p.tables e below (T244.setTop (mkF m 701 #[.val (.int p0), .val (.int p1), .val (.int p2), .val (.int p3), .val (.int p4), .val (.int p5), .val (.ref b1), .val (.ref b66), .val (.ref b132), .val (.int lv197), .val (.int sv199), .val (.int lv201), .val (.int sv203), .val (.int lv205), .val (.int sv207), .val (.ref b213), .val (.int (0 : Int32)), .val (.int (1 : Int32)), .val (.int (1 : Int32)), .val (.int (2 : Int32))] [(.int (2 : Int32)), (.ref b213)])) _
    refine st249.trans ?_
    show Steps p.tables e below (T249.setTop (mkF m 704 #[.val (.int p0), .val (.int p1), .val (.int p2), .val (.int p3), .val (.int p4), .val (.int p5), .val (.ref b1), .val (.ref b66), .val (.ref b132), .val (.int lv197), .val (.int sv199), .val (.int lv201), .val (.int sv203), .val (.int lv205), .val (.int sv207), .val (.ref b213), .val (.int (0 : Int32)), .val (.int (1 : Int32)), .val (.int (1 : Int32)), .val (.int (2 : Int32))] [(.int (xv3 - xv2))])) _
    refine XS.iload X249.here hx rfl (hb hby at_704) rfl ?_
    show Steps p.tables e below (T249.setTop (mkF m 706 #[.val (.int p0), .val (.int p1), .val (.int p2), .val (.int p3), .val (.int p4), .val (.int p5), .val (.ref b1), .val (.ref b66), .val (.ref b132), .val (.int lv197), .val (.int sv199), .val (.int lv201), .val (.int sv203), .val (.int lv205), .val (.int sv207), .val (.ref b213), .val (.int (0 : Int32)), .val (.int (1 : Int32)), .val (.int (1 : Int32)), .val (.int (2 : Int32))] [(.int lv205), (.int (xv3 - xv2))])) _
    refine XS.icmpNo X249.here hx rfl (hb hby at_706) rfl (teq hk253).2 ?_
    show Steps p.tables e below (T249.setTop (mkF m 709 #[.val (.int p0), .val (.int p1), .val (.int p2), .val (.int p3), .val (.int p4), .val (.int p5), .val (.ref b1), .val (.ref b66), .val (.ref b132), .val (.int lv197), .val (.int sv199), .val (.int lv201), .val (.int sv203), .val (.int lv205), .val (.int sv207), .val (.ref b213), .val (.int (0 : Int32)), .val (.int (1 : Int32)), .val (.int (1 : Int32)), .val (.int (2 : Int32))] [])) _
    refine XS.iconst X249.here hx rfl (hb hby at_709) ?_
    show Steps p.tables e below (T249.setTop (mkF m 710 #[.val (.int p0), .val (.int p1), .val (.int p2), .val (.int p3), .val (.int p4), .val (.int p5), .val (.ref b1), .val (.ref b66), .val (.ref b132), .val (.int lv197), .val (.int sv199), .val (.int lv201), .val (.int sv203), .val (.int lv205), .val (.int sv207), .val (.ref b213), .val (.int (0 : Int32)), .val (.int (1 : Int32)), .val (.int (1 : Int32)), .val (.int (2 : Int32))] [(.int (1 : Int32))])) _
    refine XS.goto X249.here hx rfl (pc0 := 710) (pc' := 714) rfl (hb hby at_710) (by decide) (by decide) ?_
    show Steps p.tables e below (T249.setTop (mkF m 714 #[.val (.int p0), .val (.int p1), .val (.int p2), .val (.int p3), .val (.int p4), .val (.int p5), .val (.ref b1), .val (.ref b66), .val (.ref b132), .val (.int lv197), .val (.int sv199), .val (.int lv201), .val (.int sv203), .val (.int lv205), .val (.int sv207), .val (.ref b213), .val (.int (0 : Int32)), .val (.int (1 : Int32)), .val (.int (1 : Int32)), .val (.int (2 : Int32))] [(.int (1 : Int32))])) _
    refine XS.istore X249.here hx rfl (hb hby at_714) rfl (l' := #[.val (.int p0), .val (.int p1), .val (.int p2), .val (.int p3), .val (.int p4), .val (.int p5), .val (.ref b1), .val (.ref b66), .val (.ref b132), .val (.int lv197), .val (.int sv199), .val (.int lv201), .val (.int sv203), .val (.int lv205), .val (.int sv207), .val (.ref b213), .val (.int (0 : Int32)), .val (.int (1 : Int32)), .val (.int (1 : Int32)), .val (.int (2 : Int32))]) rfl ?_
    show Steps p.tables e below (T249.setTop (mkF m 716 #[.val (.int p0), .val (.int p1), .val (.int p2), .val (.int p3), .val (.int p4), .val (.int p5), .val (.ref b1), .val (.ref b66), .val (.ref b132), .val (.int lv197), .val (.int sv199), .val (.int lv201), .val (.int sv203), .val (.int lv205), .val (.int sv207), .val (.ref b213), .val (.int (0 : Int32)), .val (.int (1 : Int32)), .val (.int (1 : Int32)), .val (.int (2 : Int32))] [])) _
    refine XS.iload X249.here hx rfl (hb hby at_716) rfl ?_
    show Steps p.tables e below (T249.setTop (mkF m 718 #[.val (.int p0), .val (.int p1), .val (.int p2), .val (.int p3), .val (.int p4), .val (.int p5), .val (.ref b1), .val (.ref b66), .val (.ref b132), .val (.int lv197), .val (.int sv199), .val (.int lv201), .val (.int sv203), .val (.int lv205), .val (.int sv207), .val (.ref b213), .val (.int (0 : Int32)), .val (.int (1 : Int32)), .val (.int (1 : Int32)), .val (.int (2 : Int32))] [(.int (1 : Int32))])) _
    exact retN X249 hx (t := .boolean) Bd.returns (by simp) (hb hby at_718) hr
  ·
    show Q0 Z p0 p1 p2 p3 p4 p5 h0 n0 _ T249.heap _
    exact ⟨rfl, N249⟩
set_option maxRecDepth 65536 in
set_option maxHeartbeats 40000000 in
theorem comes_1 {Post : Tables → Env → Array Value → State → Outcome → State → Prop} (hpost : ∀ tb e args s v u, (limb_1_1.after args s (.returned v) u = true ∧ limb_1_2.after args s (.returned v) u = true ∧ True) → FrameEnd s (.returned v) u (Jvm.fieldLocs frame_1_writes args s ++ Jvm.arrayLocs frame_1_arrays args s ++ Jvm.staticLocs frame_1_statics s) 24 11072 → Post tb e args s (.returned v) u) :
    ArmFor flags0 classFile x code maxLocals ret World_1 tables_1 room_1 Calls_1 rest_1 Pre_1 Post := by
  intro l hfl _ _ p e ha hc hk s m args below hf hA hF happ hP
  obtain ⟨hcalls, hrest, hpre⟩ := hP
  obtain ⟨-, -, -, hnamed, -, -, -, hat⟩ := (Spec.applies_iff hf).mp happ
  obtain ⟨hg, hn⟩ := and_e (Cond.before_iff.mp (show (Jvm.Cond.and given_1 narrow_1).before args s = true from hpre))
  obtain ⟨g1, g2⟩ := and_e hg
  obtain ⟨g3, g4⟩ := and_e g2
  obtain ⟨g5, g6⟩ := and_e g4
  obtain ⟨g7, g8⟩ := and_e g6
  obtain ⟨g9, g10⟩ := and_e g8
  obtain ⟨g11, g12⟩ := and_e g10
  obtain ⟨w0, w1, w2, w3, w4, w5, rfl⟩ : ∃ w0 w1 w2 w3 w4 w5 : Value, args = #[w0, w1, w2, w3, w4, w5] := by
    have hs : args.size = 6 := by simpa [Cond.value, given_1] using g1
    obtain ⟨L⟩ := args
    match L, hs with
    | [w0, w1, w2, w3, w4, w5], _ => exact ⟨w0, w1, w2, w3, w4, w5, rfl⟩
  have hw := fun d (hd : d ∈ tables_1) => atoms_spec (ws := Jvm.Cond.code x code maxLocals ret :: tables_1) hat d (List.mem_cons_of_mem _ hd)
  have hfit : Fit s := fun {y c} hc i hi => by
    obtain ⟨ha, rfl⟩ := Array.getElem?_eq_some_iff.mp hc
    have q := List.all_eq_true.mp ((Array.all_eq_true_iff_forall_mem.mp hF) _ (Array.getElem_mem ha)) i (List.mem_range.mpr hi)
    simpa [Array.getElem?_eq_getElem hi] using q
  obtain ⟨i0, ei0⟩ := is_v g3
  obtain rfl : w0 = (.int i0) := Option.some.inj ei0
  obtain ⟨i1, ei1⟩ := is_v g5
  obtain rfl : w1 = (.int i1) := Option.some.inj ei1
  obtain ⟨i2, ei2⟩ := is_v g7
  obtain rfl : w2 = (.int i2) := Option.some.inj ei2
  obtain ⟨i3, ei3⟩ := is_v g9
  obtain rfl : w3 = (.int i3) := Option.some.inj ei3
  obtain ⟨i4, ei4⟩ := is_v g11
  obtain rfl : w4 = (.int i4) := Option.some.inj ei4
  obtain ⟨i5, ei5⟩ := is_v g12
  obtain rfl : w5 = (.int i5) := Option.some.inj ei5
  obtain ⟨n, o, h1, h2, h3, _, L, rfl, ⟨rfl, N⟩, hq⟩ := rm0 l s _ hw tables_1 i0 i1 i2 i3 i4 i5 s.heap s.heap.size (Nat.le_refl _) p e ha hc hk s m _ below hf ((Spec.applies_iff_loose hf).mp happ).1 ⟨rfl, State.Warmed39.refl s, rfl⟩ trivial
  refine ⟨n, _, h1, h2, h3, hpost _ _ _ _ _ _ ⟨Cond.after_iff.mpr rfl, Cond.after_iff.mpr (eq_i res_at (Term.int_eval (1)) rfl), trivial⟩ ⟨hq.1, hq.2.1, (hq.2.2.sift fun y hy => Or.inr (N y hy)).mono (by decide) (by decide)⟩⟩
theorem main_1_1 : Claimed_1_1 := comes_1 fun _ _ _ _ _ _ h hF => ⟨h.1, hF⟩
theorem main_1_2 : Claimed_1_2 := comes_1 fun _ _ _ _ _ _ h hF => ⟨h.2.1, hF⟩
end Jvm.Pilot.@@N@@
namespace Jvm.Pilot.@@N@@
open Jvm Jvm.ClassFile Sem Op Lib Jvm.Free Jvm.Stand Jvm.Pilot.@@N@@.Jvm.D
/-! MADE BY PROGRAM (witnessworld.py) out of the Statement's table words and the real class files: 12 classes; the members and pool entries that the words name. The judged class is class 1, her method 1. -/
namespace start1
open Jvm.ClassFile
def u (s : String) : CpInfo := .utf8 (stringToUtf16 s)
/-- a pool by its gaps: so many unusable entries, then the entry; so many at the end -/
def gap : Nat → List CpInfo → List CpInfo
  | 0, r => r
  | n + 1, r => .unusable :: gap n r
def poolList (es : List (Nat × CpInfo)) (last : Nat) : List CpInfo := es.foldr (fun e r => gap e.1 (e.2 :: r)) (gap last [])
def pool (es : List (Nat × CpInfo)) (last : Nat) : Array CpInfo := ⟨poolList es last⟩
def fileOf (pool : Array CpInfo) (this : Nat) (attrs : Array Attribute := #[]) (ms : Array MethodInfo := #[]) (fl : Nat := 33) (sup : Nat := 0) (ifs : Array Nat := #[]) (fds : Array FieldInfo := #[]) : ClassFile where
  minorVersion := 0
  majorVersion := 65
  constantPool := pool
  accessFlags := fl
  thisClass := this
  superClass := sup
  interfaces := ifs
  fields := fds
  methods := ms
  attributes := attrs
def plain (name : String) (sup : Option ClassId) : Class where
  name := name
  kind := .ordinary
  loader := none
  accessFlags := 33
  super := sup
  interfaces := #[]
  cf := none
  fields := #[]
  methods := #[]
  instanceTypes := #[]
  staticTypes := #[]
  resolved := #[]
  callSites := []
  init := .initialized
  statics := none
  mirror := none

def pool0 : Array CpInfo := pool [(5, u "<init>"), (0, u "()V"), (1, .class_ 10), (1, u "java/lang/Object")] 113

def k0c0 : Code := { maxStack := 0, maxLocals := 1, code := object_method_1_code, exceptionTable := #[], attributes := #[] }
def k0m0 : Method := { name := "<init>", desc := "()V", sig := { parameters := [], returnType := none }, accessFlags := 1, code := some k0c0 }
/-- java/lang/Object -/
def k0 : Class := { plain "java/lang/Object" none with
  accessFlags := 33
  interfaces := #[]
  cf := some (fileOf pool0 8 #[] #[{ accessFlags := 1, nameIndex := 5, descriptorIndex := 6, attributes := #[] }] 33 0 #[] #[])
  fields := #[]
  methods := #[k0m0]
  instanceTypes := #[]
  staticTypes := #[]
  resolved := Array.replicate 124 none
  statics := none }

def pool1 : Array CpInfo := pool [(2, .class_ 4), (0, .nameAndType 5 6), (0, u "java/lang/Object"), (0, u "<init>"), (0, u "()V"), (0, .class_ 8), (0, u "com/example/amherst/amherst/ByteStringTable"), (0, .methodref 7 3), (0, .methodref 7 11), (0, .nameAndType 12 13), (0, u "add"), (0, u "([BIII)I"), (0, .methodref 7 15), (0, .nameAndType 16 17), (0, u "length"), (0, u "(I)I"), (0, .methodref 7 19), (0, .nameAndType 20 21), (0, u "size"), (0, u "()I"), (0, .class_ 23), (0, u "com/example/amherst/amherst/ByteStringTableLengthPinLaw"), (2, u "law"), (0, u "(IIIIII)Z")] 5

def k1m0 : Method := { name := "<init>", desc := "()V", sig := { parameters := [], returnType := none }, accessFlags := 1, code := none }
def k1c1 : Code := { maxStack := 5, maxLocals := 20, code := code, exceptionTable := #[], attributes := #[] }
def k1m1 : Method := { name := "law", desc := "(IIIIII)Z", sig := { parameters := [.int, .int, .int, .int, .int, .int], returnType := some .boolean }, accessFlags := 9, code := some k1c1 }
/-- com/example/amherst/amherst/ByteStringTableLengthPinLaw -/
def k1 : Class := { plain "com/example/amherst/amherst/ByteStringTableLengthPinLaw" (some 0) with
  accessFlags := 49
  interfaces := #[]
  cf := some (fileOf pool1 22 #[] #[{ accessFlags := 1, nameIndex := 5, descriptorIndex := 6, attributes := #[] }, { accessFlags := 9, nameIndex := 26, descriptorIndex := 27, attributes := #[] }] 49 2 #[] #[])
  fields := #[]
  methods := #[k1m0, k1m1]
  instanceTypes := #[]
  staticTypes := #[]
  resolved := Array.replicate 33 none
  statics := none }

def pool2 : Array CpInfo := pool [(3, .methodref 4 5), (0, .class_ 6), (0, .nameAndType 7 8), (0, u "java/lang/Object"), (0, u "<init>"), (0, u "()V"), (0, .fieldref 10 11), (0, .class_ 12), (0, .nameAndType 13 14), (0, u "com/example/amherst/amherst/ByteStringTable"), (0, u "bytes"), (0, u "[B"), (0, .fieldref 10 16), (0, .nameAndType 17 18), (0, u "starts"), (0, u "[I"), (0, .fieldref 10 20), (0, .nameAndType 21 22), (0, u "slots"), (0, u "[J"), (0, .fieldref 10 24), (0, .nameAndType 25 26), (0, u "size"), (0, u "I"), (0, .methodref 10 28), (0, .nameAndType 29 30), (0, u "key"), (0, u "([BII)J"), (0, .methodref 10 32), (0, .nameAndType 33 34), (0, u "slot"), (0, u "(JI)I"), (1, .long 255), (4, u "(I)I"), (19, .methodref 62 63), (0, .class_ 64), (0, .nameAndType 65 66), (0, u "java/lang/System"), (0, u "arraycopy"), (0, u "(Ljava/lang/Object;ILjava/lang/Object;II)V"), (0, .methodref 10 68), (0, .nameAndType 69 70), (0, u "place"), (0, u "(JJ)V"), (0, .long 4294967295), (16, u "([BII)I"), (2, u "add"), (0, u "([BIII)I"), (6, u "length"), (11, .methodref 10 112), (0, .nameAndType 113 88), (0, u "hash"), (0, .long 256), (1, .long 18397679294719823053), (1, .long 14181476777654086739), (1, u "NONE"), (1, u "HASHED"), (0, u "J"), (2, u "()I")] 14

def k2c0 : Code := { maxStack := 2, maxLocals := 1, code := prog_4_method_1_code, exceptionTable := #[], attributes := #[] }
def k2m0 : Method := { name := "<init>", desc := "()V", sig := { parameters := [], returnType := none }, accessFlags := 0, code := some k2c0 }
def k2c1 : Code := { maxStack := 1, maxLocals := 1, code := prog_4_method_2_code, exceptionTable := #[], attributes := #[] }
def k2m1 : Method := { name := "size", desc := "()I", sig := { parameters := [], returnType := some .int }, accessFlags := 0, code := some k2c1 }
def k2c2 : Code := { maxStack := 9, maxLocals := 9, code := prog_4_method_4_code, exceptionTable := #[], attributes := #[] }
def k2m2 : Method := { name := "add", desc := "([BIII)I", sig := { parameters := [(.array .byte), .int, .int, .int], returnType := some .int }, accessFlags := 0, code := some k2c2 }
def k2c3 : Code := { maxStack := 3, maxLocals := 2, code := prog_4_method_6_code, exceptionTable := #[], attributes := #[] }
def k2m3 : Method := { name := "length", desc := "(I)I", sig := { parameters := [.int], returnType := some .int }, accessFlags := 0, code := some k2c3 }
def k2c4 : Code := { maxStack := 4, maxLocals := 7, code := prog_4_method_11_code, exceptionTable := #[], attributes := #[] }
def k2m4 : Method := { name := "place", desc := "(JJ)V", sig := { parameters := [.long, .long], returnType := none }, accessFlags := 2, code := some k2c4 }
def k2c5 : Code := { maxStack := 6, maxLocals := 7, code := prog_4_method_13_code, exceptionTable := #[], attributes := #[] }
def k2m5 : Method := { name := "key", desc := "([BII)J", sig := { parameters := [(.array .byte), .int, .int], returnType := some .long }, accessFlags := 10, code := some k2c5 }
def k2c6 : Code := { maxStack := 5, maxLocals := 5, code := prog_4_method_14_code, exceptionTable := #[], attributes := #[] }
def k2m6 : Method := { name := "slot", desc := "(JI)I", sig := { parameters := [.long, .int], returnType := some .int }, accessFlags := 10, code := some k2c6 }
def k2c7 : Code := { maxStack := 3, maxLocals := 5, code := prog_4_method_15_code, exceptionTable := #[], attributes := #[] }
def k2m7 : Method := { name := "hash", desc := "([BII)I", sig := { parameters := [(.array .byte), .int, .int], returnType := some .int }, accessFlags := 10, code := some k2c7 }
/-- com/example/amherst/amherst/ByteStringTable -/
def k2 : Class := { plain "com/example/amherst/amherst/ByteStringTable" (some 0) with
  accessFlags := 48
  interfaces := #[]
  cf := some (fileOf pool2 10 #[] #[{ accessFlags := 0, nameIndex := 7, descriptorIndex := 8, attributes := #[] }, { accessFlags := 0, nameIndex := 25, descriptorIndex := 126, attributes := #[] }, { accessFlags := 0, nameIndex := 91, descriptorIndex := 92, attributes := #[] }, { accessFlags := 0, nameIndex := 99, descriptorIndex := 41, attributes := #[] }, { accessFlags := 2, nameIndex := 69, descriptorIndex := 70, attributes := #[] }, { accessFlags := 10, nameIndex := 29, descriptorIndex := 30, attributes := #[] }, { accessFlags := 10, nameIndex := 33, descriptorIndex := 34, attributes := #[] }, { accessFlags := 10, nameIndex := 113, descriptorIndex := 88, attributes := #[] }] 48 4 #[] #[{ accessFlags := 24, nameIndex := 120, descriptorIndex := 26, attributes := #[] }, { accessFlags := 26, nameIndex := 122, descriptorIndex := 123, attributes := #[] }, { accessFlags := 2, nameIndex := 13, descriptorIndex := 14, attributes := #[] }, { accessFlags := 2, nameIndex := 17, descriptorIndex := 18, attributes := #[] }, { accessFlags := 2, nameIndex := 21, descriptorIndex := 22, attributes := #[] }, { accessFlags := 2, nameIndex := 25, descriptorIndex := 26, attributes := #[] }])
  fields := #[{ name := "NONE", type := .int, accessFlags := 24, slot := 0, constantValue := 0 }, { name := "HASHED", type := .long, accessFlags := 26, slot := 1, constantValue := 0 }, { name := "bytes", type := (.array .byte), accessFlags := 2, slot := 0, constantValue := 0 }, { name := "starts", type := (.array .int), accessFlags := 2, slot := 1, constantValue := 0 }, { name := "slots", type := (.array .long), accessFlags := 2, slot := 2, constantValue := 0 }, { name := "size", type := .int, accessFlags := 2, slot := 3, constantValue := 0 }]
  methods := #[k2m0, k2m1, k2m2, k2m3, k2m4, k2m5, k2m6, k2m7]
  instanceTypes := #[(.array .byte), (.array .int), (.array .long), .int]
  staticTypes := #[.int, .long]
  resolved := Array.replicate 141 none
  statics := none }

def pool3 : Array CpInfo := pool [(2, .class_ 4), (1, u "java/lang/Object"), (0, u "<init>"), (0, u "()V"), (1, .class_ 10), (1, u "java/lang/System"), (0, u "allowSecurityManager"), (0, u "I"), (16, u "cons"), (0, u "Ljava/io/Console;"), (77, .class_ 110), (1, u "java/lang/System$CallersHolder"), (43, u "initialErrStream"), (0, u "Ljava/io/PrintStream;"), (19, u "security"), (0, u "Ljava/lang/SecurityManager;"), (31, .class_ 209), (0, u "java/lang/System$1"), (7, u "props"), (0, u "Ljava/util/Properties;"), (2, u "lineSeparator"), (0, u "Ljava/lang/String;"), (96, .class_ 321), (1, u "java/lang/System$LoggerFinder"), (5, .class_ 328), (0, u "java/lang/System$Logger"), (67, u "err"), (2, u "out"), (91, u "notSupportedJnuEncoding"), (15, u "in"), (17, u "initialIn"), (0, u "Ljava/io/InputStream;"), (35, u "bootLayer"), (0, u "Ljava/lang/ModuleLayer;"), (99, .class_ 664), (0, u "java/lang/System$2"), (9, u "NEVER"), (2, u "MAYBE"), (49, u "arraycopy"), (0, u "(Ljava/lang/Object;ILjava/lang/Object;II)V"), (72, .class_ 802), (0, u "java/lang/System$Logger$Level")] 31

def k3m0 : Method := { name := "<init>", desc := "()V", sig := { parameters := [], returnType := none }, accessFlags := 2, code := none }
def k3m1 : Method := { name := "arraycopy", desc := "(Ljava/lang/Object;ILjava/lang/Object;II)V", sig := { parameters := [(.object "java/lang/Object"), .int, (.object "java/lang/Object"), .int, .int], returnType := none }, accessFlags := 265, code := none }
/-- java/lang/System -/
def k3 : Class := { plain "java/lang/System" (some 0) with
  accessFlags := 49
  interfaces := #[]
  cf := some (fileOf pool3 8 #[.nestMembers #[319, 327, 801, 108, 663, 208]] #[{ accessFlags := 2, nameIndex := 5, descriptorIndex := 6, attributes := #[] }, { accessFlags := 265, nameIndex := 727, descriptorIndex := 728, attributes := #[] }] 49 2 #[] #[{ accessFlags := 25, nameIndex := 507, descriptorIndex := 526, attributes := #[] }, { accessFlags := 25, nameIndex := 399, descriptorIndex := 155, attributes := #[] }, { accessFlags := 25, nameIndex := 396, descriptorIndex := 155, attributes := #[] }, { accessFlags := 10, nameIndex := 525, descriptorIndex := 526, attributes := #[] }, { accessFlags := 26, nameIndex := 674, descriptorIndex := 12, attributes := #[] }, { accessFlags := 26, nameIndex := 677, descriptorIndex := 12, attributes := #[] }, { accessFlags := 10, nameIndex := 11, descriptorIndex := 12, attributes := #[] }, { accessFlags := 74, nameIndex := 175, descriptorIndex := 176, attributes := #[] }, { accessFlags := 10, nameIndex := 491, descriptorIndex := 222, attributes := #[] }, { accessFlags := 74, nameIndex := 29, descriptorIndex := 30, attributes := #[] }, { accessFlags := 74, nameIndex := 154, descriptorIndex := 155, attributes := #[] }, { accessFlags := 10, nameIndex := 217, descriptorIndex := 218, attributes := #[] }, { accessFlags := 10, nameIndex := 221, descriptorIndex := 222, attributes := #[] }, { accessFlags := 8, nameIndex := 562, descriptorIndex := 563, attributes := #[] }])
  fields := #[{ name := "in", type := (.object "java/io/InputStream"), accessFlags := 25, slot := 0, constantValue := 0 }, { name := "out", type := (.object "java/io/PrintStream"), accessFlags := 25, slot := 1, constantValue := 0 }, { name := "err", type := (.object "java/io/PrintStream"), accessFlags := 25, slot := 2, constantValue := 0 }, { name := "initialIn", type := (.object "java/io/InputStream"), accessFlags := 10, slot := 3, constantValue := 0 }, { name := "NEVER", type := .int, accessFlags := 26, slot := 4, constantValue := 0 }, { name := "MAYBE", type := .int, accessFlags := 26, slot := 5, constantValue := 0 }, { name := "allowSecurityManager", type := .int, accessFlags := 10, slot := 6, constantValue := 0 }, { name := "security", type := (.object "java/lang/SecurityManager"), accessFlags := 74, slot := 7, constantValue := 0 }, { name := "notSupportedJnuEncoding", type := (.object "java/lang/String"), accessFlags := 10, slot := 8, constantValue := 0 }, { name := "cons", type := (.object "java/io/Console"), accessFlags := 74, slot := 9, constantValue := 0 }, { name := "initialErrStream", type := (.object "java/io/PrintStream"), accessFlags := 74, slot := 10, constantValue := 0 }, { name := "props", type := (.object "java/util/Properties"), accessFlags := 10, slot := 11, constantValue := 0 }, { name := "lineSeparator", type := (.object "java/lang/String"), accessFlags := 10, slot := 12, constantValue := 0 }, { name := "bootLayer", type := (.object "java/lang/ModuleLayer"), accessFlags := 8, slot := 13, constantValue := 0 }]
  methods := #[k3m0, k3m1]
  instanceTypes := #[]
  staticTypes := #[(.object "java/io/InputStream"), (.object "java/io/PrintStream"), (.object "java/io/PrintStream"), (.object "java/io/InputStream"), .int, .int, .int, (.object "java/lang/SecurityManager"), (.object "java/lang/String"), (.object "java/io/Console"), (.object "java/io/PrintStream"), (.object "java/util/Properties"), (.object "java/lang/String"), (.object "java/lang/ModuleLayer")]
  resolved := Array.replicate 834 none
  statics := none }

def pool4 : Array CpInfo := pool [(1, u "java/lang/Cloneable"), (0, .class_ 1), (0, u "java/lang/Object"), (0, .class_ 3)] 3

/-- java/lang/Cloneable -/
def k4 : Class := { plain "java/lang/Cloneable" (some 0) with
  accessFlags := 1537
  interfaces := #[]
  cf := some (fileOf pool4 2 #[] #[] 1537 4 #[] #[])
  fields := #[]
  methods := #[]
  instanceTypes := #[]
  staticTypes := #[]
  resolved := Array.replicate 8 none
  statics := none }

def pool5 : Array CpInfo := pool [(1, u "java/io/Serializable"), (0, .class_ 1), (0, u "java/lang/Object"), (0, .class_ 3)] 3

/-- java/io/Serializable -/
def k5 : Class := { plain "java/io/Serializable" (some 0) with
  accessFlags := 1537
  interfaces := #[]
  cf := some (fileOf pool5 2 #[] #[] 1537 4 #[] #[])
  fields := #[]
  methods := #[]
  instanceTypes := #[]
  staticTypes := #[]
  resolved := Array.replicate 8 none
  statics := none }

/-- the primitive byte -/
def k6 : Class := { plain "byte" none with kind := .primitive 'B', accessFlags := 0x411 }
/-- [B -/
def k7 : Class := { plain "[B" (some 0) with kind := .array 6 .byte, interfaces := #[4, 5], accessFlags := 1041 }

/-- the primitive int -/
def k8 : Class := { plain "int" none with kind := .primitive 'I', accessFlags := 0x411 }
/-- [I -/
def k9 : Class := { plain "[I" (some 0) with kind := .array 8 .int, interfaces := #[4, 5], accessFlags := 1041 }

/-- the primitive long -/
def k10 : Class := { plain "long" none with kind := .primitive 'J', accessFlags := 0x411 }
/-- [J -/
def k11 : Class := { plain "[J" (some 0) with kind := .array 10 .long, interfaces := #[4, 5], accessFlags := 1041 }

def heap : Heap := #[]
def classes : Array Class := #[k0, k1, k2, k3, k4, k5, k6, k7, k8, k9, k10, k11]
def interned : List (Array UInt16 × Addr) := []
def slotsUsed : Nat := 0
def theMethod : MethodId := ⟨1, 1⟩
def args0 : Array Value := #[.int 1, .int 2, .int 3, .int 4, .int 5, .int 6]
def aboutOver (below : List Frame) : State where
  vm := { classes := classes, interned := interned.toArray }
  heap := heap
  slotsUsed := slotsUsed
  threads := #[{ frames := .invoking theMethod args0 :: below }]
def below0 : List Frame := [.native { method := ⟨0, 0⟩, args := #[] }]
def about1 : State := aboutOver below0
def p0 : Program := .bare "" "" ""
def e0 : Env := launch0.env 0 0 0
theorem w_frames : about1.frames = Frame.invoking theMethod args0 :: below0 := rfl
set_option maxRecDepth 65536 in
theorem w_args : argsFit about1.vm theMethod args0 = true := by decide +kernel
set_option maxRecDepth 65536 in
theorem w_heap : heapFits about1 = true := by decide +kernel
set_option maxRecDepth 65536 in
theorem w_runnable : about1.curStatus? = some .runnable := by decide +kernel
set_option maxRecDepth 65536 in
theorem w_alone : about1.alone = true := by decide +kernel
set_option maxRecDepth 65536 in
theorem w_named : about1.methodNamed? x = some theMethod := by decide +kernel
set_option maxRecDepth 65536 in
theorem w_hears : about1.hears theMethod below0 = true := by decide +kernel
set_option maxRecDepth 65536 in
theorem w_ripe : about1.ripe theMethod args0 below0 = true := by decide +kernel
theorem w_running : about1.status = .running := rfl
set_option maxRecDepth 65536 in
theorem w_room : about1.hasRoom e0.platform room_1 = true :=
  launch0.hasRoom_least _ room_1 (by decide +kernel) (by decide +kernel) (by decide +kernel) (by decide +kernel) (by decide +kernel) (by decide +kernel)
theorem allAtoms_all (ts : List Jvm.Cond) (a : Array Jvm.Value) (st : Jvm.State) : (allAtoms ts).before a st = ts.all (fun c => c.before a st) := by
  induction ts with
  | nil => rfl
  | cons c t ih =>
    show (Jvm.Cond.and c (allAtoms t)).before a st = _
    rw [Jvm.Cond.before_and, ih, List.all_cons]
def words1 : List Jvm.Cond := Jvm.Cond.code x code maxLocals ret :: tables_1
/-- a 'code' word, met by the world's own term for the bytes: nothing is compared byte by byte -/
theorem code_word {y : MethodName} {bytes : ByteArray} {mx : Nat} {rt : Option FieldType} {a : Array Value} {s : State} {m : MethodId} {meth : Method} {c : Code} (h1 : s.methodNamed? y = some m) (h2 : s.vm.method? m = some meth) (h3 : meth.code = some c) (h4 : c.code = bytes)
    (h5 : (c.maxLocals == mx && c.exceptionTable.isEmpty && decide (c.maxStack ≤ mostOperands) && decide (meth.sig.returnType = rt) && !meth.locks && decide (parseMethodDescriptor y.desc = some meth.sig)) = true) : (Jvm.Cond.code y bytes mx rt).before a s = true := by
  simp only [Bool.and_eq_true, beq_iff_eq, Bool.not_eq_true', decide_eq_true_eq] at h5
  obtain ⟨⟨⟨⟨⟨g1, g2⟩, g3⟩, g4⟩, g5⟩, g6⟩ := h5
  simp [Cond.before, Cond.holds, Cond.value, h1, h2, h3, h4, g1, g2, g3, g4, g5, g6]
def isCode : Jvm.Cond → Bool
  | .code _ _ _ _ => true
  | _ => false
theorem all_split {L : List Jvm.Cond} {P : Jvm.Cond → Bool} (h1 : L.all (fun c => isCode c || P c) = true) (h2 : ∀ c ∈ L.filter isCode, P c = true) : L.all P = true := by
  refine List.all_eq_true.mpr fun c hc => ?_
  have h := List.all_eq_true.mp h1 c hc
  rcases Bool.eq_false_or_eq_true (isCode c) with hi | hi
  · exact h2 c (List.mem_filter.mpr ⟨hc, hi⟩)
  · simpa [hi] using h
set_option maxRecDepth 65536 in
theorem w_c0 : (Jvm.Cond.code x code maxLocals ret).before args0 about1 = true := code_word (m := ⟨1, 1⟩) (meth := k1m1) (c := k1c1) (by decide +kernel) rfl rfl rfl (by decide +kernel)
set_option maxRecDepth 65536 in
theorem w_c1 : (Jvm.Cond.code ({ cls := "com/example/amherst/amherst/ByteStringTable", name := "<init>", desc := "()V" } : Jvm.MethodName) prog_4_method_1_code (1 : Nat) (Option.none : Option Jvm.ClassFile.FieldType)).before args0 about1 = true := code_word (m := ⟨2, 0⟩) (meth := k2m0) (c := k2c0) (by decide +kernel) rfl rfl rfl (by decide +kernel)
set_option maxRecDepth 65536 in
theorem w_c2 : (Jvm.Cond.code ({ cls := "java/lang/Object", name := "<init>", desc := "()V" } : Jvm.MethodName) object_method_1_code (1 : Nat) (Option.none : Option Jvm.ClassFile.FieldType)).before args0 about1 = true := code_word (m := ⟨0, 0⟩) (meth := k0m0) (c := k0c0) (by decide +kernel) rfl rfl rfl (by decide +kernel)
set_option maxRecDepth 65536 in
theorem w_c3 : (Jvm.Cond.code ({ cls := "com/example/amherst/amherst/ByteStringTable", name := "add", desc := "([BIII)I" } : Jvm.MethodName) prog_4_method_4_code (9 : Nat) (Option.some Jvm.ClassFile.FieldType.int)).before args0 about1 = true := code_word (m := ⟨2, 2⟩) (meth := k2m2) (c := k2c2) (by decide +kernel) rfl rfl rfl (by decide +kernel)
set_option maxRecDepth 65536 in
theorem w_c4 : (Jvm.Cond.code ({ cls := "com/example/amherst/amherst/ByteStringTable", name := "key", desc := "([BII)J" } : Jvm.MethodName) prog_4_method_13_code (7 : Nat) (Option.some Jvm.ClassFile.FieldType.long)).before args0 about1 = true := code_word (m := ⟨2, 5⟩) (meth := k2m5) (c := k2c5) (by decide +kernel) rfl rfl rfl (by decide +kernel)
set_option maxRecDepth 65536 in
theorem w_c5 : (Jvm.Cond.code ({ cls := "com/example/amherst/amherst/ByteStringTable", name := "hash", desc := "([BII)I" } : Jvm.MethodName) prog_4_method_15_code (5 : Nat) (Option.some Jvm.ClassFile.FieldType.int)).before args0 about1 = true := code_word (m := ⟨2, 7⟩) (meth := k2m7) (c := k2c7) (by decide +kernel) rfl rfl rfl (by decide +kernel)
set_option maxRecDepth 65536 in
theorem w_c6 : (Jvm.Cond.code ({ cls := "com/example/amherst/amherst/ByteStringTable", name := "place", desc := "(JJ)V" } : Jvm.MethodName) prog_4_method_11_code (7 : Nat) (Option.none : Option Jvm.ClassFile.FieldType)).before args0 about1 = true := code_word (m := ⟨2, 4⟩) (meth := k2m4) (c := k2c4) (by decide +kernel) rfl rfl rfl (by decide +kernel)
set_option maxRecDepth 65536 in
theorem w_c7 : (Jvm.Cond.code ({ cls := "com/example/amherst/amherst/ByteStringTable", name := "slot", desc := "(JI)I" } : Jvm.MethodName) prog_4_method_14_code (5 : Nat) (Option.some Jvm.ClassFile.FieldType.int)).before args0 about1 = true := code_word (m := ⟨2, 6⟩) (meth := k2m6) (c := k2c6) (by decide +kernel) rfl rfl rfl (by decide +kernel)
set_option maxRecDepth 65536 in
theorem w_c8 : (Jvm.Cond.code ({ cls := "com/example/amherst/amherst/ByteStringTable", name := "length", desc := "(I)I" } : Jvm.MethodName) prog_4_method_6_code (2 : Nat) (Option.some Jvm.ClassFile.FieldType.int)).before args0 about1 = true := code_word (m := ⟨2, 3⟩) (meth := k2m3) (c := k2c3) (by decide +kernel) rfl rfl rfl (by decide +kernel)
set_option maxRecDepth 65536 in
theorem w_c9 : (Jvm.Cond.code ({ cls := "com/example/amherst/amherst/ByteStringTable", name := "size", desc := "()I" } : Jvm.MethodName) prog_4_method_2_code (1 : Nat) (Option.some Jvm.ClassFile.FieldType.int)).before args0 about1 = true := code_word (m := ⟨2, 1⟩) (meth := k2m1) (c := k2c1) (by decide +kernel) rfl rfl rfl (by decide +kernel)
def codes1 : List Jvm.Cond := [Jvm.Cond.code x code maxLocals ret, Jvm.Cond.code ({ cls := "com/example/amherst/amherst/ByteStringTable", name := "<init>", desc := "()V" } : Jvm.MethodName) prog_4_method_1_code (1 : Nat) (Option.none : Option Jvm.ClassFile.FieldType), Jvm.Cond.code ({ cls := "java/lang/Object", name := "<init>", desc := "()V" } : Jvm.MethodName) object_method_1_code (1 : Nat) (Option.none : Option Jvm.ClassFile.FieldType), Jvm.Cond.code ({ cls := "com/example/amherst/amherst/ByteStringTable", name := "add", desc := "([BIII)I" } : Jvm.MethodName) prog_4_method_4_code (9 : Nat) (Option.some Jvm.ClassFile.FieldType.int), Jvm.Cond.code ({ cls := "com/example/amherst/amherst/ByteStringTable", name := "key", desc := "([BII)J" } : Jvm.MethodName) prog_4_method_13_code (7 : Nat) (Option.some Jvm.ClassFile.FieldType.long), Jvm.Cond.code ({ cls := "com/example/amherst/amherst/ByteStringTable", name := "hash", desc := "([BII)I" } : Jvm.MethodName) prog_4_method_15_code (5 : Nat) (Option.some Jvm.ClassFile.FieldType.int), Jvm.Cond.code ({ cls := "com/example/amherst/amherst/ByteStringTable", name := "place", desc := "(JJ)V" } : Jvm.MethodName) prog_4_method_11_code (7 : Nat) (Option.none : Option Jvm.ClassFile.FieldType), Jvm.Cond.code ({ cls := "com/example/amherst/amherst/ByteStringTable", name := "slot", desc := "(JI)I" } : Jvm.MethodName) prog_4_method_14_code (5 : Nat) (Option.some Jvm.ClassFile.FieldType.int), Jvm.Cond.code ({ cls := "com/example/amherst/amherst/ByteStringTable", name := "length", desc := "(I)I" } : Jvm.MethodName) prog_4_method_6_code (2 : Nat) (Option.some Jvm.ClassFile.FieldType.int), Jvm.Cond.code ({ cls := "com/example/amherst/amherst/ByteStringTable", name := "size", desc := "()I" } : Jvm.MethodName) prog_4_method_2_code (1 : Nat) (Option.some Jvm.ClassFile.FieldType.int)]
set_option maxRecDepth 65536 in
theorem codes_eq : words1.filter isCode = codes1 := rfl
theorem w_codes : ∀ c ∈ words1.filter isCode, c.before args0 about1 = true := by
  rw [codes_eq]
  intro c hc
  simp only [codes1, List.mem_cons, List.not_mem_nil, or_false] at hc
  rcases hc with rfl | rfl | rfl | rfl | rfl | rfl | rfl | rfl | rfl | rfl
  · exact w_c0
  · exact w_c1
  · exact w_c2
  · exact w_c3
  · exact w_c4
  · exact w_c5
  · exact w_c6
  · exact w_c7
  · exact w_c8
  · exact w_c9
set_option maxRecDepth 65536 in
theorem w_t1 : (words1.take 24).all (fun c => isCode c || c.before args0 about1) = true := by decide +kernel
set_option maxRecDepth 65536 in
theorem w_t2 : ((words1.drop 24).take 24).all (fun c => isCode c || c.before args0 about1) = true := by decide +kernel
set_option maxRecDepth 65536 in
theorem w_t3 : ((words1.drop 24).drop 24).all (fun c => isCode c || c.before args0 about1) = true := by decide +kernel
theorem w_tables : (allAtoms (Jvm.Cond.code x code maxLocals ret :: tables_1)).before args0 about1 = true := by
  rw [allAtoms_all]
  show words1.all (fun c => c.before args0 about1) = true
  refine all_split ?_ w_codes
  rw [← List.take_append_drop 24 words1, List.all_append, w_t1, ← List.take_append_drop 24 (words1.drop 24), List.all_append, w_t2, w_t3]
  rfl
set_option maxRecDepth 65536 in
theorem w_case : (Jvm.Cond.and given_1 narrow_1).before args0 about1 = true := by decide +kernel
theorem w_applies : (headSpec (Jvm.Cond.code x code maxLocals ret :: tables_1) room_1).applies x e0.platform about1 = true :=
  (Spec.applies_iff w_frames).mpr ⟨w_running, w_runnable, w_alone, w_named, w_hears, w_ripe, w_room, w_tables⟩
theorem atStart : AtStart classFile x code maxLocals ret World_1 tables_1 room_1 Calls_1 rest_1 Pre_1 launch0 p0 e0 about1 theMethod args0 below0 :=
  ⟨lists_1, trivial, launch0.admits_env _ _ _, launch0.least_env, fairChoices_fair.cas, fairChoices_fair.clock, w_frames, w_args, w_heap, w_applies, trivial, trivial, w_case⟩
end start1
theorem witness_1 : WitnessClaimed_1 := ⟨start1.p0, start1.e0, start1.about1, start1.theMethod, start1.args0, start1.below0, start1.atStart⟩
end Jvm.Pilot.@@N@@
