import JvmDerived
import JvmDerived.Pilot.@@N@@Statement
import JvmDerived.Pilot.@@N@@Code
set_option linter.unusedVariables false
set_option linter.unusedSimpArgs false
namespace Jvm.RoadKit
open Sem ClassFile Op Lib Jvm.Stand Jvm.Free Jvm.LawKit
section New
variable {p : Program} {l : Launch} {e : Env} {R : Room} {s : State} {m : MethodId} {args : Array Value} {below : List Frame} {meth : Method} {c : Code} {T : State} {locs : List Loc} {cells slots : Nat}
theorem retI (X : Stand p l e R s m args below meth c T locs cells slots) (hx : p.tables.exec = Jvm.exec) {pc : Nat} {Ls : Array Slot} {z : Int32} {rest : List Value} (hret : meth.sig.returnType = some .int) (hd : decode c.code pc = .ok (.ireturn, 1)) {fs : List Frame}
    (hl : ∀ (f : JFrame) (acts : List Action), f.method = m → f.locked = none → f.entered = [] → (doReturn e (T.setTop f) acts (some (.int z))).1 = T.setFrames fs) : Steps p.tables e below (T.setTop (mkF m pc Ls (.int z :: rest))) (T.setFrames fs) := by
  have hm' : T.vm.method? m = some meth := X.method'
  have hn : narrow .int (.int z) = .int z := rfl
  show Steps p.tables e below (T.setTop { method := m, pc := pc, locals := Ls, stack := _ :: rest, locked := none }) _
  jvm_step X.here [X.here.top, hx, hd, hm', hret, hn]
  first | (intro acts; rw [hl _ acts rfl rfl rfl]) | rw [hl _ _ rfl rfl rfl]
  exact Steps.refl _
end New
end Jvm.RoadKit
namespace Jvm.Pilot.@@N@@
open Jvm Jvm.ClassFile Sem Op Lib Jvm.Free Jvm.Stand Jvm.LawKit Jvm.RoadKit Bundle Jvm.Pilot.@@N@@.Jvm.D
def own_at (a b c : Int64) (j : Int32) : Int64 := if j = 0 then a else if j = 1 then b else c
theorem own_012 {j : Int32} (h : ¬ j < 0 ∧ j < 3) : j = 0 ∨ j = 1 ∨ j = 2 := by
  rw [Int32.lt_iff_toInt_lt, Int32.lt_iff_toInt_lt] at h
  have z0 : (0 : Int32).toInt = 0 := rfl
  have z3 : (3 : Int32).toInt = 3 := rfl
  have : j.toInt = 0 ∨ j.toInt = 1 ∨ j.toInt = 2 := by omega
  rcases this with q | q | q
  · exact Or.inl (Int32.toInt_inj.mp (q.trans rfl))
  · exact Or.inr (Or.inl (Int32.toInt_inj.mp (q.trans rfl)))
  · exact Or.inr (Or.inr (Int32.toInt_inj.mp (q.trans rfl)))
theorem own_get {a b c : Int64} {j : Int32} {d : Value} (h : ¬ j < 0 ∧ j < 3) : ([(.long a), (.long b), (.long c)] : List Value).getD j.toNatClampNeg d = .long (own_at a b c j) := by
  rcases own_012 h with rfl | rfl | rfl <;> rfl
def own_rdw (f : Int32 → Int64) (i o n : Int32) (w : Int64) : Int64 :=
  if n = (64 : Int32) then (if (64 : Int32) < (o + n) then (w ||| ((f (i + (1 : Int32))) <<< (((64 : Int32) - o) &&& 0x3f).toInt64)) else w)
  else ((if (64 : Int32) < (o + n) then (w ||| ((f (i + (1 : Int32))) <<< (((64 : Int32) - o) &&& 0x3f).toInt64)) else w) &&& (((1 : Int64) <<< (n &&& 0x3f).toInt64) - (1 : Int64)))
def own_read (f : Int32 → Int64) (q : Int64) (n : Int32) : Int64 :=
  own_rdw f (((q.toUInt64 >>> ((6 : Int32) &&& 0x3f).toInt64.toUInt64).toInt64).toInt32) ((q &&& (63 : Int64)).toInt32) n (((f (((q.toUInt64 >>> ((6 : Int32) &&& 0x3f).toInt64.toUInt64).toInt64).toInt32)).toUInt64 >>> (((q &&& (63 : Int64)).toInt32) &&& 0x3f).toInt64.toUInt64).toInt64)
def own_bitAt (f : Int32 → Int64) (q : Int64) : Int64 :=
  (((f (((q.toUInt64 >>> ((6 : Int32) &&& 0x3f).toInt64.toUInt64).toInt64).toInt32)).toUInt64 >>> (((q &&& (63 : Int64)).toInt32) &&& 0x3f).toInt64.toUInt64).toInt64) &&& (1 : Int64)
set_option maxRecDepth 65536 in
theorem own_ix : ∀ e : Fin 256, (((Int64.ofNat e.val).toUInt64 >>> ((6 : Int32) &&& 0x3f).toInt64.toUInt64).toInt64).toInt32 = Int32.ofNat (e.val / 64) := by decide +kernel
set_option maxRecDepth 65536 in
theorem own_ox : ∀ e : Fin 256, ((Int64.ofNat e.val) &&& (63 : Int64)).toInt32 = Int32.ofNat (e.val % 64) := by decide +kernel
theorem own_sh6 : ∀ s : Fin 64, ((Int32.ofNat s.val) &&& 0x3f).toInt64.toUInt64 = UInt64.ofNat s.val := by decide +kernel
theorem own_shl6 : ∀ s : Fin 64, ((Int32.ofNat s.val) &&& 0x3f).toInt64 = Int64.ofNat s.val := by decide +kernel
theorem own_smod : ∀ s : Fin 64, ((Int64.ofNat s.val).toBitVec.smod 64) = BitVec.ofNat 64 s.val := by decide +kernel
theorem own_umod : ∀ s : Fin 64, ((UInt64.ofNat s.val).toBitVec % 64) = BitVec.ofNat 64 s.val := by decide +kernel
theorem own_k64 : ∀ s : Fin 64, (Int32.ofNat s.val).toInt64 = Int64.ofNat s.val := by decide +kernel
set_option maxRecDepth 65536 in
theorem own_gt64 : ∀ o : Fin 64, ∀ n : Fin 65, ((64 : Int32) < Int32.ofNat o.val + Int32.ofNat n.val) = (64 < o.val + n.val) := by decide +kernel
theorem own_eq64 : ∀ n : Fin 65, (Int32.ofNat n.val = (64 : Int32)) = (n.val = 64) := by decide +kernel
theorem own_sub64 : ∀ o : Fin 64, (64 : Int32) - Int32.ofNat o.val = Int32.ofNat (64 - o.val) := by decide +kernel
set_option maxRecDepth 65536 in
theorem own_lt64 : ∀ k : Fin 64, ∀ n : Fin 65, (Int32.ofNat k.val < Int32.ofNat n.val) = (k.val < n.val) := by decide +kernel
set_option maxRecDepth 65536 in
theorem own_msk : ∀ n : Fin 64, ∀ k : Fin 64, ((1#64 <<< n.val) - 1#64).getLsbD k.val = decide (k.val < n.val) := by decide +kernel
/-- a logical shift to the right, bit by bit -/
theorem own_ushr (x : Int64) {s k : Nat} (hs : s < 64) : ((x.toUInt64 >>> ((Int32.ofNat s) &&& 0x3f).toInt64.toUInt64).toInt64).toBitVec.getLsbD k = x.toBitVec.getLsbD (s + k) := by
  rw [own_sh6 ⟨s, hs⟩]
  show (x.toUInt64 >>> UInt64.ofNat s).toBitVec.getLsbD k = _
  rw [UInt64.toBitVec_shiftRight, own_umod ⟨s, hs⟩]
  show (x.toBitVec >>> BitVec.ofNat 64 s).getLsbD k = _
  rw [BitVec.ushiftRight_eq', BitVec.getLsbD_ushiftRight, BitVec.toNat_ofNat, Nat.mod_eq_of_lt (by omega)]
theorem own_shl (x : Int64) {s : Nat} (hs : s < 64) : (x <<< ((Int32.ofNat s) &&& 0x3f).toInt64).toBitVec = x.toBitVec <<< s := by
  rw [own_shl6 ⟨s, hs⟩, Int64.toBitVec_shiftLeft, own_smod ⟨s, hs⟩]
  rw [BitVec.shiftLeft_eq', BitVec.toNat_ofNat, Nat.mod_eq_of_lt (by omega)]
theorem own_and1 (x : Int64) : x &&& 1 = if x.toBitVec.getLsbD 0 then 1 else 0 := by
  apply Int64.toBitVec_inj.mp
  rw [Int64.toBitVec_and]
  apply BitVec.eq_of_getLsbD_eq; intro i hi
  rw [BitVec.getLsbD_and]
  have e : (1 : Int64).toBitVec.getLsbD i = decide (i = 0) := by
    show (1#64).getLsbD i = _
    rw [BitVec.getLsbD_one]; simp [hi]
  rw [e]
  by_cases q : i = 0
  · subst q
    cases x.toBitVec.getLsbD 0 <;> rfl
  · have z : (if x.toBitVec.getLsbD 0 = true then (1 : Int64) else 0).toBitVec.getLsbD i = false := by
      cases x.toBitVec.getLsbD 0
      · show (0#64).getLsbD i = false
        simp
      · show (1#64).getLsbD i = false
        rw [BitVec.getLsbD_one]; simp [q]
    rw [z]; simp [q]
theorem own_bit1 (x : Int64) {k : Nat} (hk : k < 64) : (((x.toUInt64 >>> ((Int32.ofNat k) &&& 0x3f).toInt64.toUInt64).toInt64) &&& (1 : Int64)) = if x.toBitVec.getLsbD k then 1 else 0 := by
  rw [own_and1, own_ushr _ hk]; rfl
theorem own_rdbit (f : Int32 → Int64) {i o n k : Nat} (ho : o < 64) (hn : n ≤ 64) (hk : k < 64) :
    (own_rdw f (Int32.ofNat i) (Int32.ofNat o) (Int32.ofNat n) (((f (Int32.ofNat i)).toUInt64 >>> ((Int32.ofNat o) &&& 0x3f).toInt64.toUInt64).toInt64)).toBitVec.getLsbD k =
      (decide (k < n) && if o + k < 64 then (f (Int32.ofNat i)).toBitVec.getLsbD (o + k) else (f (Int32.ofNat i + 1)).toBitVec.getLsbD (o + k - 64)) := by
  have c1 : ((64 : Int32) < Int32.ofNat o + Int32.ofNat n) = (64 < o + n) := own_gt64 ⟨o, ho⟩ ⟨n, by omega⟩
  have c2 : (Int32.ofNat n = (64 : Int32)) = (n = 64) := own_eq64 ⟨n, by omega⟩
  have c3 : (64 : Int32) - Int32.ofNat o = Int32.ofNat (64 - o) := own_sub64 ⟨o, ho⟩
  have w0 := own_ushr (f (Int32.ofNat i)) (k := k) ho
  -- the joined word's bit
  have wj : k < n → (if (64 : Int32) < (Int32.ofNat o + Int32.ofNat n) then ((((f (Int32.ofNat i)).toUInt64 >>> ((Int32.ofNat o) &&& 0x3f).toInt64.toUInt64).toInt64) ||| ((f (Int32.ofNat i + (1 : Int32))) <<< (((64 : Int32) - Int32.ofNat o) &&& 0x3f).toInt64)) else (((f (Int32.ofNat i)).toUInt64 >>> ((Int32.ofNat o) &&& 0x3f).toInt64.toUInt64).toInt64)).toBitVec.getLsbD k
      = if o + k < 64 then (f (Int32.ofNat i)).toBitVec.getLsbD (o + k) else (f (Int32.ofNat i + 1)).toBitVec.getLsbD (o + k - 64) := by
    intro hkn
    by_cases q : 64 < o + n
    · rw [if_pos (c1 ▸ q), Int64.toBitVec_or, BitVec.getLsbD_or, w0, c3, own_shl _ (by omega), BitVec.getLsbD_shiftLeft]
      by_cases r : o + k < 64
      · rw [if_pos r]
        have : decide (k < 64 - o) = true := decide_eq_true (by omega)
        rw [this]; simp
      · rw [if_neg r]
        have z : (f (Int32.ofNat i)).toBitVec.getLsbD (o + k) = false := BitVec.getLsbD_of_ge _ _ (by omega)
        have y : decide (k < 64 - o) = false := decide_eq_false (by omega)
        have e : k - (64 - o) = o + k - 64 := by omega
        rw [z, y, e]; simp [hk]
    · rw [if_neg (c1 ▸ q), w0, if_pos (by omega)]
  unfold own_rdw
  by_cases q : n = 64
  · rw [if_pos (c2 ▸ q), wj (by omega)]
    have : decide (k < n) = true := decide_eq_true (by omega)
    rw [this]; rfl
  · rw [if_neg (c2 ▸ q), Int64.toBitVec_and, BitVec.getLsbD_and]
    have m : (((1 : Int64) <<< ((Int32.ofNat n) &&& 0x3f).toInt64) - (1 : Int64)).toBitVec.getLsbD k = decide (k < n) := by
      rw [Int64.toBitVec_sub, own_shl _ (by omega)]
      exact own_msk ⟨n, by omega⟩ ⟨k, hk⟩
    rw [m]
    by_cases r : k < n
    · rw [wj r]; simp [r]
    · simp [r]
theorem own_and (x : Int32) (k : Nat) (hk : k < 2 ^ 31) (m : Int32) (hm : m = Int32.ofNat k) : ∃ n : Nat, n ≤ k ∧ x &&& m = Int32.ofNat n := by
  refine ⟨(x &&& m).toBitVec.toNat, ?_, ?_⟩
  · rw [Int32.toBitVec_and, BitVec.toNat_and]
    refine Nat.le_trans Nat.and_le_right ?_
    rw [hm]; show (BitVec.ofNat 32 k).toNat ≤ k
    rw [BitVec.toNat_ofNat]; exact Nat.mod_le _ _
  · apply Int32.toBitVec_inj.mp
    show _ = BitVec.ofNat 32 _
    rw [BitVec.ofNat_toNat]; simp
theorem own_e {e : Int64} {p : Int32} (h : e = ((p &&& (2147483647 : Int32)) - (p &&& (2147483647 : Int32)) / (129 : Int32) * (129 : Int32)).toInt64) : ∃ E : Nat, E ≤ 128 ∧ e = Int64.ofNat E := by
  obtain ⟨k, hk, ek⟩ := own_and p 2147483647 (by decide) 2147483647 rfl
  refine ⟨k % 129, Nat.le_of_lt_succ (Nat.mod_lt _ (by decide)), ?_⟩
  have q : ∀ x y : Int32, x - x / y * y = x % y := irem_eq_mod
  rw [h, ek, q]
  apply Int64.toInt_inj.mp
  have z : (129 : Int32).toInt = 129 := rfl
  have m := Nat.mod_lt k (by decide : 129 > 0)
  rw [Int32.toInt_toInt64, Int32.toInt_mod, Int32.toInt_ofNat_of_lt (by omega), z, Int64.toInt_ofNat_of_lt (by omega)]
  rw [Int.tmod_eq_emod_of_nonneg (by omega)]; rfl
theorem own_c {c p : Int32} (h : c = (1 : Int32) + (p &&& (63 : Int32))) : ∃ N : Nat, 1 ≤ N ∧ N ≤ 64 ∧ c = Int32.ofNat N := by
  obtain ⟨k, hk, ek⟩ := own_and p 63 (by decide) 63 rfl
  refine ⟨1 + k, by omega, by omega, ?_⟩
  rw [h, ek, Int32.ofNat_add]; rfl
theorem own_k {c p : Int32} (h : c = (p &&& (63 : Int32))) : ∃ K : Nat, K < 64 ∧ c = Int32.ofNat K := by
  obtain ⟨k, hk, ek⟩ := own_and p 63 (by decide) 63 rfl
  exact ⟨k, by omega, by rw [h, ek]⟩
theorem own_small : ∀ w : Fin 3, ¬ Int32.ofNat w.val < 0 ∧ Int32.ofNat w.val < 3 := by decide
theorem own_i1 {e : Int64} (p : Int32) (h : e = ((p &&& (2147483647 : Int32)) - (p &&& (2147483647 : Int32)) / (129 : Int32) * (129 : Int32)).toInt64) :
    ¬ (((e.toUInt64 >>> ((6 : Int32) &&& 0x3f).toInt64.toUInt64).toInt64).toInt32) < 0 ∧ (((e.toUInt64 >>> ((6 : Int32) &&& 0x3f).toInt64.toUInt64).toInt64).toInt32) < 3 := by
  obtain ⟨E, hE, rfl⟩ := own_e h
  rw [own_ix ⟨E, by omega⟩]
  exact own_small ⟨E / 64, by omega⟩
theorem own_i2 {e : Int64} (p : Int32) (h : e = ((p &&& (2147483647 : Int32)) - (p &&& (2147483647 : Int32)) / (129 : Int32) * (129 : Int32)).toInt64) {c : Int32} (p' : Int32) (hc : c = (1 : Int32) + (p' &&& (63 : Int32))) :
    64 < ((e &&& (63 : Int64)).toInt32) + c → ¬ ((((e.toUInt64 >>> ((6 : Int32) &&& 0x3f).toInt64.toUInt64).toInt64).toInt32) + 1) < 0 ∧ ((((e.toUInt64 >>> ((6 : Int32) &&& 0x3f).toInt64.toUInt64).toInt64).toInt32) + 1) < 3 := by
  obtain ⟨E, hE, rfl⟩ := own_e h
  obtain ⟨N, n1, n2, rfl⟩ := own_c hc
  rw [own_ix ⟨E, by omega⟩, own_ox ⟨E, by omega⟩]
  intro q
  have q' : 64 < E % 64 + N := (own_gt64 ⟨E % 64, Nat.mod_lt _ (by decide)⟩ ⟨N, by omega⟩) ▸ q
  have : E / 64 < 2 := by omega
  have e1 : Int32.ofNat (E / 64) + 1 = Int32.ofNat (E / 64 + 1) := by rw [Int32.ofNat_add]; rfl
  rw [e1]
  exact own_small ⟨E / 64 + 1, by omega⟩
theorem own_sum {E K : Nat} (hE : E ≤ 128) (hK : K < 64) : Int64.ofNat E + (Int32.ofNat K).toInt64 = Int64.ofNat (E + K) := by
  rw [own_k64 ⟨K, hK⟩, Int64.ofNat_add]
theorem own_i3 {e : Int64} {k p p' : Int32} (h : e = ((p &&& (2147483647 : Int32)) - (p &&& (2147483647 : Int32)) / (129 : Int32) * (129 : Int32)).toInt64) (hk : k = (p' &&& (63 : Int32))) :
    ¬ ((((e + (k.toInt64)).toUInt64 >>> ((6 : Int32) &&& 0x3f).toInt64.toUInt64).toInt64).toInt32) < 0 ∧ ((((e + (k.toInt64)).toUInt64 >>> ((6 : Int32) &&& 0x3f).toInt64.toUInt64).toInt64).toInt32) < 3 := by
  obtain ⟨E, hE, rfl⟩ := own_e h
  obtain ⟨K, hK, rfl⟩ := own_k hk
  rw [own_sum hE hK, own_ix ⟨E + K, by omega⟩]
  exact own_small ⟨(E + K) / 64, by omega⟩
theorem own_readbit (f : Int32 → Int64) {E N K : Nat} (hE : E ≤ 128) (hN : N ≤ 64) (hK : K < 64) :
    (own_read f (Int64.ofNat E) (Int32.ofNat N)).toBitVec.getLsbD K = (decide (K < N) && if E % 64 + K < 64 then (f (Int32.ofNat (E / 64))).toBitVec.getLsbD (E % 64 + K) else (f (Int32.ofNat (E / 64) + 1)).toBitVec.getLsbD (E % 64 + K - 64)) := by
  unfold own_read
  rw [own_ix ⟨E, by omega⟩, own_ox ⟨E, by omega⟩]
  exact own_rdbit f (Nat.mod_lt _ (by decide)) hN hK
theorem own_law_yes {e : Int64} {c k p p' p'' : Int32} {r g : Int64} {f : Int32 → Int64} (he : e = ((p &&& (2147483647 : Int32)) - (p &&& (2147483647 : Int32)) / (129 : Int32) * (129 : Int32)).toInt64) (hc : c = (1 : Int32) + (p' &&& (63 : Int32))) (hk : k = (p'' &&& (63 : Int32)))
    (hr : r = own_read f e c) (hg : g = (((r.toUInt64 >>> (k &&& 0x3f).toInt64.toUInt64).toInt64) &&& (1 : Int64))) (hlt : k < c) : g = own_bitAt f (e + k.toInt64) := by
  obtain ⟨E, hE, rfl⟩ := own_e he
  obtain ⟨N, n1, n2, rfl⟩ := own_c hc
  obtain ⟨K, hK, rfl⟩ := own_k hk
  have q : K < N := (own_lt64 ⟨K, hK⟩ ⟨N, by omega⟩) ▸ hlt
  rw [hg, hr, own_bit1 _ hK, own_readbit f hE n2 hK, own_sum hE hK]
  unfold own_bitAt
  rw [own_ix ⟨E + K, by omega⟩, own_ox ⟨E + K, by omega⟩, own_bit1 _ (Nat.mod_lt _ (by decide))]
  have d : decide (K < N) = true := decide_eq_true q
  rw [d, Bool.true_and]
  by_cases z : E % 64 + K < 64
  · have e1 : (E + K) / 64 = E / 64 := by omega
    have e2 : (E + K) % 64 = E % 64 + K := by omega
    rw [if_pos z, e1, e2]
  · have e1 : (E + K) / 64 = E / 64 + 1 := by omega
    have e2 : (E + K) % 64 = E % 64 + K - 64 := by omega
    have e3 : Int32.ofNat (E / 64) + 1 = Int32.ofNat (E / 64 + 1) := by rw [Int32.ofNat_add]; rfl
    rw [if_neg z, e1, e2, e3]
theorem own_law_no {e : Int64} {c k p p' p'' : Int32} {r g : Int64} {f : Int32 → Int64} (he : e = ((p &&& (2147483647 : Int32)) - (p &&& (2147483647 : Int32)) / (129 : Int32) * (129 : Int32)).toInt64) (hc : c = (1 : Int32) + (p' &&& (63 : Int32))) (hk : k = (p'' &&& (63 : Int32)))
    (hr : r = own_read f e c) (hg : g = (((r.toUInt64 >>> (k &&& 0x3f).toInt64.toUInt64).toInt64) &&& (1 : Int64))) (hlt : ¬ k < c) : g = 0 := by
  obtain ⟨E, hE, rfl⟩ := own_e he
  obtain ⟨N, n1, n2, rfl⟩ := own_c hc
  obtain ⟨K, hK, rfl⟩ := own_k hk
  have q : ¬ K < N := fun z => hlt ((own_lt64 ⟨K, hK⟩ ⟨N, by omega⟩) ▸ z)
  rw [hg, hr, own_bit1 _ hK, own_readbit f hE n2 hK]
  have d : decide (K < N) = false := decide_eq_false q
  rw [d]; rfl
theorem d1_0 : decode prog_5_method_7_code 0 = .ok (.lload_n 1, 1) := by decide +kernel
theorem d1_1 : decode prog_5_method_7_code 1 = .ok (.bipush 6, 2) := by decide +kernel
theorem d1_3 : decode prog_5_method_7_code 3 = .ok (.lushr, 1) := by decide +kernel
theorem d1_4 : decode prog_5_method_7_code 4 = .ok (.l2i, 1) := by decide +kernel
theorem d1_5 : decode prog_5_method_7_code 5 = .ok (.istore 4, 2) := by decide +kernel
theorem d1_7 : decode prog_5_method_7_code 7 = .ok (.lload_n 1, 1) := by decide +kernel
theorem d1_8 : decode prog_5_method_7_code 8 = .ok (.ldc2_w 13, 3) := by decide +kernel
theorem d1_11 : decode prog_5_method_7_code 11 = .ok (.land, 1) := by decide +kernel
theorem d1_12 : decode prog_5_method_7_code 12 = .ok (.l2i, 1) := by decide +kernel
theorem d1_13 : decode prog_5_method_7_code 13 = .ok (.istore 5, 2) := by decide +kernel
theorem d1_15 : decode prog_5_method_7_code 15 = .ok (.aload_n 0, 1) := by decide +kernel
theorem d1_16 : decode prog_5_method_7_code 16 = .ok (.iload 4, 2) := by decide +kernel
theorem d1_18 : decode prog_5_method_7_code 18 = .ok (.laload, 1) := by decide +kernel
theorem d1_19 : decode prog_5_method_7_code 19 = .ok (.iload 5, 2) := by decide +kernel
theorem d1_21 : decode prog_5_method_7_code 21 = .ok (.lushr, 1) := by decide +kernel
theorem d1_22 : decode prog_5_method_7_code 22 = .ok (.lstore 6, 2) := by decide +kernel
theorem d1_24 : decode prog_5_method_7_code 24 = .ok (.iload 5, 2) := by decide +kernel
theorem d1_26 : decode prog_5_method_7_code 26 = .ok (.iload_n 3, 1) := by decide +kernel
theorem d1_27 : decode prog_5_method_7_code 27 = .ok (.iadd, 1) := by decide +kernel
theorem d1_28 : decode prog_5_method_7_code 28 = .ok (.bipush 64, 2) := by decide +kernel
theorem d1_30 : decode prog_5_method_7_code 30 = .ok (.if_icmp .le 20, 3) := by decide +kernel
theorem d1_33 : decode prog_5_method_7_code 33 = .ok (.lload 6, 2) := by decide +kernel
theorem d1_35 : decode prog_5_method_7_code 35 = .ok (.aload_n 0, 1) := by decide +kernel
theorem d1_36 : decode prog_5_method_7_code 36 = .ok (.iload 4, 2) := by decide +kernel
theorem d1_38 : decode prog_5_method_7_code 38 = .ok (.iconst 1, 1) := by decide +kernel
theorem d1_39 : decode prog_5_method_7_code 39 = .ok (.iadd, 1) := by decide +kernel
theorem d1_40 : decode prog_5_method_7_code 40 = .ok (.laload, 1) := by decide +kernel
theorem d1_41 : decode prog_5_method_7_code 41 = .ok (.bipush 64, 2) := by decide +kernel
theorem d1_43 : decode prog_5_method_7_code 43 = .ok (.iload 5, 2) := by decide +kernel
theorem d1_45 : decode prog_5_method_7_code 45 = .ok (.isub, 1) := by decide +kernel
theorem d1_46 : decode prog_5_method_7_code 46 = .ok (.lshl, 1) := by decide +kernel
theorem d1_47 : decode prog_5_method_7_code 47 = .ok (.lor, 1) := by decide +kernel
theorem d1_48 : decode prog_5_method_7_code 48 = .ok (.lstore 6, 2) := by decide +kernel
theorem d1_50 : decode prog_5_method_7_code 50 = .ok (.iload_n 3, 1) := by decide +kernel
theorem d1_51 : decode prog_5_method_7_code 51 = .ok (.bipush 64, 2) := by decide +kernel
theorem d1_53 : decode prog_5_method_7_code 53 = .ok (.if_icmp .ne 8, 3) := by decide +kernel
theorem d1_56 : decode prog_5_method_7_code 56 = .ok (.lload 6, 2) := by decide +kernel
theorem d1_58 : decode prog_5_method_7_code 58 = .ok (.goto 11, 3) := by decide +kernel
theorem d1_61 : decode prog_5_method_7_code 61 = .ok (.lload 6, 2) := by decide +kernel
theorem d1_63 : decode prog_5_method_7_code 63 = .ok (.lconst 1, 1) := by decide +kernel
theorem d1_64 : decode prog_5_method_7_code 64 = .ok (.iload_n 3, 1) := by decide +kernel
theorem d1_65 : decode prog_5_method_7_code 65 = .ok (.lshl, 1) := by decide +kernel
theorem d1_66 : decode prog_5_method_7_code 66 = .ok (.lconst 1, 1) := by decide +kernel
theorem d1_67 : decode prog_5_method_7_code 67 = .ok (.lsub, 1) := by decide +kernel
theorem d1_68 : decode prog_5_method_7_code 68 = .ok (.land, 1) := by decide +kernel
theorem d1_69 : decode prog_5_method_7_code 69 = .ok (.lreturn, 1) := by decide +kernel
theorem pn_1 : plainName "com/example/bitmend/bitmend/Bits" = true := by first | (simp [plainName, overriddenIn]; done) | decide +kernel
theorem ef_1 (m : MethodId) (a1 : Addr) (q1 : Int64) (p2 : Int32) : entryFrame m #[(.ref a1), (.long q1), (.int p2)] 8 = (mkF m 0 #[.val (.ref a1), .val (.long q1), .second, .val (.int p2), .unset, .unset, .unset, .unset] []) := by first | (simp [entryFrame, mkF, argsToLocals, Value.category]; done) | rfl
def Q1 (Z : State) (a1 : Addr) (q1 : Int64) (p2 : Int32) (ka : ClassId) (xa : Int64) (xb : Int64) (xc : Int64) (h0 : Heap) (n0 : Nat) (v : Option Value) (h : Heap) (L : List Loc) : Prop := v = some (.long (own_read (own_at xa xb xc) q1 p2)) ∧ Fr n0 L ∧ h = h0
set_option maxRecDepth 65536 in
set_option maxHeartbeats 40000000 in
theorem rm1 (l : Launch) (Z : State) (a0 : Array Value) (hw : ∀ d ∈ tables_1, d.before a0 Z = true) (ws : List Jvm.Cond) (a1 : Addr) (q1 : Int64) (p2 : Int32) (ka : ClassId) (xa : Int64) (xb : Int64) (xc : Int64) (h0 : Heap) (n0 : Nat) (Z0 : n0 ≤ h0.size) (Va : (Arv Z h0 a1 ka .long 3 [(.long xa), (.long xb), (.long xc)] (.long (0 : Int64)))) (hi : ¬ (((q1.toUInt64 >>> ((6 : Int32) &&& 0x3f).toInt64.toUInt64).toInt64).toInt32) < 0 ∧ (((q1.toUInt64 >>> ((6 : Int32) &&& 0x3f).toInt64.toUInt64).toInt64).toInt32) < 3) (hi2 : 64 < ((q1 &&& (63 : Int64)).toInt32) + p2 → ¬ ((((q1.toUInt64 >>> ((6 : Int32) &&& 0x3f).toInt64.toUInt64).toInt64).toInt32) + 1) < 0 ∧ ((((q1.toUInt64 >>> ((6 : Int32) &&& 0x3f).toInt64.toUInt64).toInt64).toInt32) + 1) < 3) :
    MetFree l (⟨"com/example/bitmend/bitmend/Bits", "read", "([JJI)J"⟩ : MethodName) (head1 (Jvm.Cond.code (⟨"com/example/bitmend/bitmend/Bits", "read", "([JJI)J"⟩ : MethodName) prog_5_method_7_code 8 (some .long) :: ws) ({ frames := 0, cells := 0, slots := 0, locals := 0 } : Room)) (fun a U => a = #[(.ref a1), (.long q1), (.int p2)] ∧ Z.Warmed39 U.vm ∧ U.heap = h0) (fun _ _ _ _ _ => True) (fun _ U o U' => ∃ v L, o = .returned v ∧ Q1 Z a1 q1 p2 ka xa xb xc h0 n0 v U'.heap L ∧ FrameEnd U o U' L ({ frames := 0, cells := 0, slots := 0, locals := 0 } : Room).cells ({ frames := 0, cells := 0, slots := 0, locals := 0 } : Room).slots) := by
  refine MetFree.of_bodySF (plainFor_of_name pn_1) hisR ?_
  intro p e s m args below meth c s₁ Bd hml0 hP hK
  obtain ⟨rfl, hZ, hh⟩ := hP
  have hx := Bd.exec
  have hby := Bd.bytes
  have hml : c.maxLocals = 8 := hml0
  have hown : s.vm.findClass "com/example/bitmend/bitmend/Bits" = some m.cls := findClass_of_methodNamed Bd.named
  have hnm := (name_of_methodNamed Bd.named Bd.method).1
  have X0 : Stand p l e ({ frames := 0, cells := 0, slots := 0, locals := 0 } : Room) s m #[(.ref a1), (.long q1), (.int p2)] below meth c s₁ [] 0 0 := Stand.of_body Bd
  have e0 : s₁.heap = h0 := by rw [← hh, Bd.state]; rfl
  have N0 := Fr.nil n0
  have K0 := Keep.refl h0 ([] : List Addr)
  have pre0 : ∀ t, Steps p.tables e below (s₁.setTop (mkF m 0 #[.val (.ref a1), .val (.long q1), .second, .val (.int p2), .unset, .unset, .unset, .unset] [])) t → Steps p.tables e below (s₁.setTop (entryFrame m #[(.ref a1), (.long q1), (.int p2)] 8)) t := fun t k => castTop (ef_1 m a1 q1 p2) k
  obtain ⟨iv1, hiv1⟩ : ∃ z, z = (((q1.toUInt64 >>> ((6 : Int32) &&& 0x3f).toInt64.toUInt64).toInt64).toInt32) := ⟨_, rfl⟩
  have pre2 : ∀ t, Steps p.tables e below (s₁.setTop (mkF m 5 #[.val (.ref a1), .val (.long q1), .second, .val (.int p2), .unset, .unset, .unset, .unset] [(.int iv1)])) t → Steps p.tables e below (s₁.setTop (entryFrame m #[(.ref a1), (.long q1), (.int p2)] 8)) t := by
    intro t kt
    rw [hiv1] at kt
    refine pre0 _ ?_
    show Steps p.tables e below (s₁.setTop (mkF m 0 #[.val (.ref a1), .val (.long q1), .second, .val (.int p2), .unset, .unset, .unset, .unset] [])) _
    refine XS.lloadN X0.here hx rfl (hb hby d1_0) rfl ?_
    show Steps p.tables e below (s₁.setTop (mkF m 1 #[.val (.ref a1), .val (.long q1), .second, .val (.int p2), .unset, .unset, .unset, .unset] [(.long q1)])) _
    refine XS.bipush X0.here hx rfl (hb hby d1_1) ?_
    show Steps p.tables e below (s₁.setTop (mkF m 3 #[.val (.ref a1), .val (.long q1), .second, .val (.int p2), .unset, .unset, .unset, .unset] [(.int (6 : Int32)), (.long q1)])) _
    refine XS.lushr X0.here hx rfl (hb hby d1_3) rfl ?_
    show Steps p.tables e below (s₁.setTop (mkF m 4 #[.val (.ref a1), .val (.long q1), .second, .val (.int p2), .unset, .unset, .unset, .unset] [(.long ((q1.toUInt64 >>> ((6 : Int32) &&& 0x3f).toInt64.toUInt64).toInt64))])) _
    refine XS.l2i X0.here hx rfl (hb hby d1_4) rfl ?_
    show Steps p.tables e below (s₁.setTop (mkF m 5 #[.val (.ref a1), .val (.long q1), .second, .val (.int p2), .unset, .unset, .unset, .unset] [(.int (((q1.toUInt64 >>> ((6 : Int32) &&& 0x3f).toInt64.toUInt64).toInt64).toInt32))])) _
    exact kt
  have hi' : ¬ iv1 < 0 ∧ iv1 < 3 := by rw [hiv1]; exact hi
  obtain ⟨ov3, hov3⟩ : ∃ z, z = ((q1 &&& (63 : Int64)).toInt32) := ⟨_, rfl⟩
  have pre4 : ∀ t, Steps p.tables e below (s₁.setTop (mkF m 13 #[.val (.ref a1), .val (.long q1), .second, .val (.int p2), .val (.int iv1), .unset, .unset, .unset] [(.int ov3)])) t → Steps p.tables e below (s₁.setTop (entryFrame m #[(.ref a1), (.long q1), (.int p2)] 8)) t := by
    intro t kt
    rw [hov3] at kt
    refine pre2 _ ?_
    show Steps p.tables e below (s₁.setTop (mkF m 5 #[.val (.ref a1), .val (.long q1), .second, .val (.int p2), .unset, .unset, .unset, .unset] [(.int iv1)])) _
    refine XS.istore X0.here hx rfl (hb hby d1_5) rfl (l' := #[.val (.ref a1), .val (.long q1), .second, .val (.int p2), .val (.int iv1), .unset, .unset, .unset]) rfl ?_
    show Steps p.tables e below (s₁.setTop (mkF m 7 #[.val (.ref a1), .val (.long q1), .second, .val (.int p2), .val (.int iv1), .unset, .unset, .unset] [])) _
    refine XS.lloadN X0.here hx rfl (hb hby d1_7) rfl ?_
    show Steps p.tables e below (s₁.setTop (mkF m 8 #[.val (.ref a1), .val (.long q1), .second, .val (.int p2), .val (.int iv1), .unset, .unset, .unset] [(.long q1)])) _
    refine X0.ldc2Long hx hown (mvT hZ (hw _ (List.mem_of_getElem? (i := 6) rfl))) (g := (mkF m 8 #[.val (.ref a1), .val (.long q1), .second, .val (.int p2), .val (.int iv1), .unset, .unset, .unset] [(.long q1)])) rfl (hb hby d1_8) _ ?_
    show Steps p.tables e below (s₁.setTop (mkF m 11 #[.val (.ref a1), .val (.long q1), .second, .val (.int p2), .val (.int iv1), .unset, .unset, .unset] [(.long (63 : Int64)), (.long q1)])) _
    refine XS.land X0.here hx rfl (hb hby d1_11) rfl ?_
    show Steps p.tables e below (s₁.setTop (mkF m 12 #[.val (.ref a1), .val (.long q1), .second, .val (.int p2), .val (.int iv1), .unset, .unset, .unset] [(.long (q1 &&& (63 : Int64)))])) _
    refine XS.l2i X0.here hx rfl (hb hby d1_12) rfl ?_
    show Steps p.tables e below (s₁.setTop (mkF m 13 #[.val (.ref a1), .val (.long q1), .second, .val (.int p2), .val (.int iv1), .unset, .unset, .unset] [(.int ((q1 &&& (63 : Int64)).toInt32))])) _
    exact kt
  have hi2' : 64 < ov3 + p2 → ¬ (iv1 + 1) < 0 ∧ (iv1 + 1) < 3 := by rw [hov3, hiv1]; exact hi2
  obtain ⟨clo5, Aro5, -, So5, No5, Ho5, -⟩ := id Va
  have hino5 : ¬ (iv1 < 0 ∨ clo5.slots.size ≤ (iv1).toNatClampNeg) := inb_of So5 hi'
  have hato5 : clo5.slots[(iv1).toNatClampNeg]? = some (.long (own_at xa xb xc iv1)) := Ho5.at hino5 (own_get hi')
  obtain ⟨wv6, hwv6⟩ : ∃ z, z = (((own_at xa xb xc iv1).toUInt64 >>> (ov3 &&& 0x3f).toInt64.toUInt64).toInt64) := ⟨_, rfl⟩
  have pre7 : ∀ t, Steps p.tables e below (s₁.setTop (mkF m 22 #[.val (.ref a1), .val (.long q1), .second, .val (.int p2), .val (.int iv1), .val (.int ov3), .unset, .unset] [(.long wv6)])) t → Steps p.tables e below (s₁.setTop (entryFrame m #[(.ref a1), (.long q1), (.int p2)] 8)) t := by
    intro t kt
    rw [hwv6] at kt
    refine pre4 _ ?_
    show Steps p.tables e below (s₁.setTop (mkF m 13 #[.val (.ref a1), .val (.long q1), .second, .val (.int p2), .val (.int iv1), .unset, .unset, .unset] [(.int ov3)])) _
    refine XS.istore X0.here hx rfl (hb hby d1_13) rfl (l' := #[.val (.ref a1), .val (.long q1), .second, .val (.int p2), .val (.int iv1), .val (.int ov3), .unset, .unset]) rfl ?_
    show Steps p.tables e below (s₁.setTop (mkF m 15 #[.val (.ref a1), .val (.long q1), .second, .val (.int p2), .val (.int iv1), .val (.int ov3), .unset, .unset] [])) _
    refine XS.aloadN X0.here hx rfl (hb hby d1_15) rfl rfl ?_
    show Steps p.tables e below (s₁.setTop (mkF m 16 #[.val (.ref a1), .val (.long q1), .second, .val (.int p2), .val (.int iv1), .val (.int ov3), .unset, .unset] [(.ref a1)])) _
    refine XS.iload X0.here hx rfl (hb hby d1_16) rfl ?_
    show Steps p.tables e below (s₁.setTop (mkF m 18 #[.val (.ref a1), .val (.long q1), .second, .val (.int p2), .val (.int iv1), .val (.int ov3), .unset, .unset] [(.int iv1), (.ref a1)])) _
    refine X0.laload hx (j := iv1) (v := (.long (own_at xa xb xc iv1))) (by rw [e0]; exact Aro5.1) (State.isArrayOf_alike hZ.alike Aro5.2.1) Aro5.2.2 hino5 hato5 (g := (mkF m 18 #[.val (.ref a1), .val (.long q1), .second, .val (.int p2), .val (.int iv1), .val (.int ov3), .unset, .unset] [(.int iv1), (.ref a1)])) rfl rfl (hb hby d1_18) _ ?_
    show Steps p.tables e below (s₁.setTop (mkF m 19 #[.val (.ref a1), .val (.long q1), .second, .val (.int p2), .val (.int iv1), .val (.int ov3), .unset, .unset] [(.long (own_at xa xb xc iv1))])) _
    refine XS.iload X0.here hx rfl (hb hby d1_19) rfl ?_
    show Steps p.tables e below (s₁.setTop (mkF m 21 #[.val (.ref a1), .val (.long q1), .second, .val (.int p2), .val (.int iv1), .val (.int ov3), .unset, .unset] [(.int ov3), (.long (own_at xa xb xc iv1))])) _
    refine XS.lushr X0.here hx rfl (hb hby d1_21) rfl ?_
    show Steps p.tables e below (s₁.setTop (mkF m 22 #[.val (.ref a1), .val (.long q1), .second, .val (.int p2), .val (.int iv1), .val (.int ov3), .unset, .unset] [(.long (((own_at xa xb xc iv1).toUInt64 >>> (ov3 &&& 0x3f).toInt64.toUInt64).toInt64))])) _
    exact kt
  have pre8 : ∀ t, Steps p.tables e below (s₁.setTop (mkF m 30 #[.val (.ref a1), .val (.long q1), .second, .val (.int p2), .val (.int iv1), .val (.int ov3), .val (.long wv6), .second] [(.int (64 : Int32)), (.int (ov3 + p2))])) t → Steps p.tables e below (s₁.setTop (entryFrame m #[(.ref a1), (.long q1), (.int p2)] 8)) t := by
    intro t kt
    refine pre7 _ ?_
    show Steps p.tables e below (s₁.setTop (mkF m 22 #[.val (.ref a1), .val (.long q1), .second, .val (.int p2), .val (.int iv1), .val (.int ov3), .unset, .unset] [(.long wv6)])) _
    refine XS.lstore X0.here hx rfl (hb hby d1_22) rfl (l' := #[.val (.ref a1), .val (.long q1), .second, .val (.int p2), .val (.int iv1), .val (.int ov3), .val (.long wv6), .second]) rfl ?_
    show Steps p.tables e below (s₁.setTop (mkF m 24 #[.val (.ref a1), .val (.long q1), .second, .val (.int p2), .val (.int iv1), .val (.int ov3), .val (.long wv6), .second] [])) _
    refine XS.iload X0.here hx rfl (hb hby d1_24) rfl ?_
    show Steps p.tables e below (s₁.setTop (mkF m 26 #[.val (.ref a1), .val (.long q1), .second, .val (.int p2), .val (.int iv1), .val (.int ov3), .val (.long wv6), .second] [(.int ov3)])) _
    refine XS.iloadN X0.here hx rfl (hb hby d1_26) rfl ?_
    show Steps p.tables e below (s₁.setTop (mkF m 27 #[.val (.ref a1), .val (.long q1), .second, .val (.int p2), .val (.int iv1), .val (.int ov3), .val (.long wv6), .second] [(.int p2), (.int ov3)])) _
    refine XS.iadd X0.here hx rfl (hb hby d1_27) rfl ?_
    show Steps p.tables e below (s₁.setTop (mkF m 28 #[.val (.ref a1), .val (.long q1), .second, .val (.int p2), .val (.int iv1), .val (.int ov3), .val (.long wv6), .second] [(.int (ov3 + p2))])) _
    refine XS.bipush X0.here hx rfl (hb hby d1_28) ?_
    show Steps p.tables e below (s₁.setTop (mkF m 30 #[.val (.ref a1), .val (.long q1), .second, .val (.int p2), .val (.int iv1), .val (.int ov3), .val (.long wv6), .second] [(.int (64 : Int32)), (.int (ov3 + p2))])) _
    exact kt
  by_cases hc30 : (64 : Int32) < (ov3 + p2)
  ·
    obtain ⟨clo10, Aro10, -, So10, No10, Ho10, -⟩ := id Va
    have hino10 : ¬ ((iv1 + (1 : Int32)) < 0 ∨ clo10.slots.size ≤ ((iv1 + (1 : Int32))).toNatClampNeg) := inb_of So10 (hi2' hc30)
    have hato10 : clo10.slots[((iv1 + (1 : Int32))).toNatClampNeg]? = some (.long (own_at xa xb xc (iv1 + (1 : Int32)))) := Ho10.at hino10 (own_get (hi2' hc30))
    have pre11 : ∀ t, Steps p.tables e below (s₁.setTop (mkF m 53 #[.val (.ref a1), .val (.long q1), .second, .val (.int p2), .val (.int iv1), .val (.int ov3), .val (.long (wv6 ||| ((own_at xa xb xc (iv1 + (1 : Int32))) <<< (((64 : Int32) - ov3) &&& 0x3f).toInt64))), .second] [(.int (64 : Int32)), (.int p2)])) t → Steps p.tables e below (s₁.setTop (entryFrame m #[(.ref a1), (.long q1), (.int p2)] 8)) t := by
      intro t kt
      refine pre8 _ ?_
      show Steps p.tables e below (s₁.setTop (mkF m 30 #[.val (.ref a1), .val (.long q1), .second, .val (.int p2), .val (.int iv1), .val (.int ov3), .val (.long wv6), .second] [(.int (64 : Int32)), (.int (ov3 + p2))])) _
      refine XS.icmpNo X0.here hx rfl (hb hby d1_30) rfl (tlt hc30).2.2.2 ?_
      show Steps p.tables e below (s₁.setTop (mkF m 33 #[.val (.ref a1), .val (.long q1), .second, .val (.int p2), .val (.int iv1), .val (.int ov3), .val (.long wv6), .second] [])) _
      refine XS.lload X0.here hx rfl (hb hby d1_33) rfl ?_
      show Steps p.tables e below (s₁.setTop (mkF m 35 #[.val (.ref a1), .val (.long q1), .second, .val (.int p2), .val (.int iv1), .val (.int ov3), .val (.long wv6), .second] [(.long wv6)])) _
      refine XS.aloadN X0.here hx rfl (hb hby d1_35) rfl rfl ?_
      show Steps p.tables e below (s₁.setTop (mkF m 36 #[.val (.ref a1), .val (.long q1), .second, .val (.int p2), .val (.int iv1), .val (.int ov3), .val (.long wv6), .second] [(.ref a1), (.long wv6)])) _
      refine XS.iload X0.here hx rfl (hb hby d1_36) rfl ?_
      show Steps p.tables e below (s₁.setTop (mkF m 38 #[.val (.ref a1), .val (.long q1), .second, .val (.int p2), .val (.int iv1), .val (.int ov3), .val (.long wv6), .second] [(.int iv1), (.ref a1), (.long wv6)])) _
      refine XS.iconst X0.here hx rfl (hb hby d1_38) ?_
      show Steps p.tables e below (s₁.setTop (mkF m 39 #[.val (.ref a1), .val (.long q1), .second, .val (.int p2), .val (.int iv1), .val (.int ov3), .val (.long wv6), .second] [(.int (1 : Int32)), (.int iv1), (.ref a1), (.long wv6)])) _
      refine XS.iadd X0.here hx rfl (hb hby d1_39) rfl ?_
      show Steps p.tables e below (s₁.setTop (mkF m 40 #[.val (.ref a1), .val (.long q1), .second, .val (.int p2), .val (.int iv1), .val (.int ov3), .val (.long wv6), .second] [(.int (iv1 + (1 : Int32))), (.ref a1), (.long wv6)])) _
      refine X0.laload hx (j := (iv1 + (1 : Int32))) (v := (.long (own_at xa xb xc (iv1 + (1 : Int32))))) (by rw [e0]; exact Aro10.1) (State.isArrayOf_alike hZ.alike Aro10.2.1) Aro10.2.2 hino10 hato10 (g := (mkF m 40 #[.val (.ref a1), .val (.long q1), .second, .val (.int p2), .val (.int iv1), .val (.int ov3), .val (.long wv6), .second] [(.int (iv1 + (1 : Int32))), (.ref a1), (.long wv6)])) rfl rfl (hb hby d1_40) _ ?_
      show Steps p.tables e below (s₁.setTop (mkF m 41 #[.val (.ref a1), .val (.long q1), .second, .val (.int p2), .val (.int iv1), .val (.int ov3), .val (.long wv6), .second] [(.long (own_at xa xb xc (iv1 + (1 : Int32)))), (.long wv6)])) _
      refine XS.bipush X0.here hx rfl (hb hby d1_41) ?_
      show Steps p.tables e below (s₁.setTop (mkF m 43 #[.val (.ref a1), .val (.long q1), .second, .val (.int p2), .val (.int iv1), .val (.int ov3), .val (.long wv6), .second] [(.int (64 : Int32)), (.long (own_at xa xb xc (iv1 + (1 : Int32)))), (.long wv6)])) _
      refine XS.iload X0.here hx rfl (hb hby d1_43) rfl ?_
      show Steps p.tables e below (s₁.setTop (mkF m 45 #[.val (.ref a1), .val (.long q1), .second, .val (.int p2), .val (.int iv1), .val (.int ov3), .val (.long wv6), .second] [(.int ov3), (.int (64 : Int32)), (.long (own_at xa xb xc (iv1 + (1 : Int32)))), (.long wv6)])) _
      refine XS.isub X0.here hx rfl (hb hby d1_45) rfl ?_
      show Steps p.tables e below (s₁.setTop (mkF m 46 #[.val (.ref a1), .val (.long q1), .second, .val (.int p2), .val (.int iv1), .val (.int ov3), .val (.long wv6), .second] [(.int ((64 : Int32) - ov3)), (.long (own_at xa xb xc (iv1 + (1 : Int32)))), (.long wv6)])) _
      refine XS.lshl X0.here hx rfl (hb hby d1_46) rfl ?_
      show Steps p.tables e below (s₁.setTop (mkF m 47 #[.val (.ref a1), .val (.long q1), .second, .val (.int p2), .val (.int iv1), .val (.int ov3), .val (.long wv6), .second] [(.long ((own_at xa xb xc (iv1 + (1 : Int32))) <<< (((64 : Int32) - ov3) &&& 0x3f).toInt64)), (.long wv6)])) _
      refine XS.lor X0.here hx rfl (hb hby d1_47) rfl ?_
      show Steps p.tables e below (s₁.setTop (mkF m 48 #[.val (.ref a1), .val (.long q1), .second, .val (.int p2), .val (.int iv1), .val (.int ov3), .val (.long wv6), .second] [(.long (wv6 ||| ((own_at xa xb xc (iv1 + (1 : Int32))) <<< (((64 : Int32) - ov3) &&& 0x3f).toInt64)))])) _
      refine XS.lstore X0.here hx rfl (hb hby d1_48) rfl (l' := #[.val (.ref a1), .val (.long q1), .second, .val (.int p2), .val (.int iv1), .val (.int ov3), .val (.long (wv6 ||| ((own_at xa xb xc (iv1 + (1 : Int32))) <<< (((64 : Int32) - ov3) &&& 0x3f).toInt64))), .second]) rfl ?_
      show Steps p.tables e below (s₁.setTop (mkF m 50 #[.val (.ref a1), .val (.long q1), .second, .val (.int p2), .val (.int iv1), .val (.int ov3), .val (.long (wv6 ||| ((own_at xa xb xc (iv1 + (1 : Int32))) <<< (((64 : Int32) - ov3) &&& 0x3f).toInt64))), .second] [])) _
      refine XS.iloadN X0.here hx rfl (hb hby d1_50) rfl ?_
      show Steps p.tables e below (s₁.setTop (mkF m 51 #[.val (.ref a1), .val (.long q1), .second, .val (.int p2), .val (.int iv1), .val (.int ov3), .val (.long (wv6 ||| ((own_at xa xb xc (iv1 + (1 : Int32))) <<< (((64 : Int32) - ov3) &&& 0x3f).toInt64))), .second] [(.int p2)])) _
      refine XS.bipush X0.here hx rfl (hb hby d1_51) ?_
      show Steps p.tables e below (s₁.setTop (mkF m 53 #[.val (.ref a1), .val (.long q1), .second, .val (.int p2), .val (.int iv1), .val (.int ov3), .val (.long (wv6 ||| ((own_at xa xb xc (iv1 + (1 : Int32))) <<< (((64 : Int32) - ov3) &&& 0x3f).toInt64))), .second] [(.int (64 : Int32)), (.int p2)])) _
      exact kt
    by_cases hc53_12 : p2 = (64 : Int32)
    ·
      have hv : own_read (own_at xa xb xc) q1 p2 = (wv6 ||| ((own_at xa xb xc (iv1 + (1 : Int32))) <<< (((64 : Int32) - ov3) &&& 0x3f).toInt64)) := by unfold own_read; rw [← hiv1, ← hov3, ← hwv6]; unfold own_rdw; rw [if_pos hc30, if_pos hc53_12]
      obtain ⟨fs, hr, hrun, hended, hW, hsame⟩ := X0.leave (v := some (.long (own_read (own_at xa xb xc) q1 p2))) (fun h => by rw [Bd.returns] at h; cases h)
      refine ⟨_, _, pre11 _ ?_, hrun, hended, _, _, rfl, ?_, ⟨_, rfl⟩, hW, hsame.mono (by decide) (by decide)⟩
      ·
        show Steps p.tables e below (s₁.setTop (mkF m 53 #[.val (.ref a1), .val (.long q1), .second, .val (.int p2), .val (.int iv1), .val (.int ov3), .val (.long (wv6 ||| ((own_at xa xb xc (iv1 + (1 : Int32))) <<< (((64 : Int32) - ov3) &&& 0x3f).toInt64))), .second] [(.int (64 : Int32)), (.int p2)])) _
        refine XS.icmpNo X0.here hx rfl (hb hby d1_53) rfl (teq hc53_12).2 ?_
        show Steps p.tables e below (s₁.setTop (mkF m 56 #[.val (.ref a1), .val (.long q1), .second, .val (.int p2), .val (.int iv1), .val (.int ov3), .val (.long (wv6 ||| ((own_at xa xb xc (iv1 + (1 : Int32))) <<< (((64 : Int32) - ov3) &&& 0x3f).toInt64))), .second] [])) _
        refine XS.lload X0.here hx rfl (hb hby d1_56) rfl ?_
        show Steps p.tables e below (s₁.setTop (mkF m 58 #[.val (.ref a1), .val (.long q1), .second, .val (.int p2), .val (.int iv1), .val (.int ov3), .val (.long (wv6 ||| ((own_at xa xb xc (iv1 + (1 : Int32))) <<< (((64 : Int32) - ov3) &&& 0x3f).toInt64))), .second] [(.long (wv6 ||| ((own_at xa xb xc (iv1 + (1 : Int32))) <<< (((64 : Int32) - ov3) &&& 0x3f).toInt64)))])) _
        refine XS.goto X0.here hx rfl (pc0 := 58) (pc' := 69) rfl (hb hby d1_58) (by decide) (by decide) ?_
        show Steps p.tables e below (s₁.setTop (mkF m 69 #[.val (.ref a1), .val (.long q1), .second, .val (.int p2), .val (.int iv1), .val (.int ov3), .val (.long (wv6 ||| ((own_at xa xb xc (iv1 + (1 : Int32))) <<< (((64 : Int32) - ov3) &&& 0x3f).toInt64))), .second] [(.long (wv6 ||| ((own_at xa xb xc (iv1 + (1 : Int32))) <<< (((64 : Int32) - ov3) &&& 0x3f).toInt64)))])) _
        rw [hv] at hr
        exact X0.lreturnOut hx Bd.returns (hb hby d1_69) hr
      ·
        show Q1 Z a1 q1 p2 ka xa xb xc h0 n0 _ s₁.heap _
        rw [e0]
        exact ⟨rfl, N0, rfl⟩
    ·
      have hv : own_read (own_at xa xb xc) q1 p2 = ((wv6 ||| ((own_at xa xb xc (iv1 + (1 : Int32))) <<< (((64 : Int32) - ov3) &&& 0x3f).toInt64)) &&& (((1 : Int64) <<< (p2 &&& 0x3f).toInt64) - (1 : Int64))) := by unfold own_read; rw [← hiv1, ← hov3, ← hwv6]; unfold own_rdw; rw [if_pos hc30, if_neg hc53_12]
      obtain ⟨fs, hr, hrun, hended, hW, hsame⟩ := X0.leave (v := some (.long (own_read (own_at xa xb xc) q1 p2))) (fun h => by rw [Bd.returns] at h; cases h)
      refine ⟨_, _, pre11 _ ?_, hrun, hended, _, _, rfl, ?_, ⟨_, rfl⟩, hW, hsame.mono (by decide) (by decide)⟩
      ·
        show Steps p.tables e below (s₁.setTop (mkF m 53 #[.val (.ref a1), .val (.long q1), .second, .val (.int p2), .val (.int iv1), .val (.int ov3), .val (.long (wv6 ||| ((own_at xa xb xc (iv1 + (1 : Int32))) <<< (((64 : Int32) - ov3) &&& 0x3f).toInt64))), .second] [(.int (64 : Int32)), (.int p2)])) _
        refine XS.icmpYes X0.here hx rfl (pc0 := 53) (pc' := 61) rfl (hb hby d1_53) rfl (feq hc53_12).2 (by decide) (by decide) ?_
        show Steps p.tables e below (s₁.setTop (mkF m 61 #[.val (.ref a1), .val (.long q1), .second, .val (.int p2), .val (.int iv1), .val (.int ov3), .val (.long (wv6 ||| ((own_at xa xb xc (iv1 + (1 : Int32))) <<< (((64 : Int32) - ov3) &&& 0x3f).toInt64))), .second] [])) _
        refine XS.lload X0.here hx rfl (hb hby d1_61) rfl ?_
        show Steps p.tables e below (s₁.setTop (mkF m 63 #[.val (.ref a1), .val (.long q1), .second, .val (.int p2), .val (.int iv1), .val (.int ov3), .val (.long (wv6 ||| ((own_at xa xb xc (iv1 + (1 : Int32))) <<< (((64 : Int32) - ov3) &&& 0x3f).toInt64))), .second] [(.long (wv6 ||| ((own_at xa xb xc (iv1 + (1 : Int32))) <<< (((64 : Int32) - ov3) &&& 0x3f).toInt64)))])) _
        refine XS.lconst X0.here hx rfl (hb hby d1_63) ?_
        show Steps p.tables e below (s₁.setTop (mkF m 64 #[.val (.ref a1), .val (.long q1), .second, .val (.int p2), .val (.int iv1), .val (.int ov3), .val (.long (wv6 ||| ((own_at xa xb xc (iv1 + (1 : Int32))) <<< (((64 : Int32) - ov3) &&& 0x3f).toInt64))), .second] [(.long (1 : Int64)), (.long (wv6 ||| ((own_at xa xb xc (iv1 + (1 : Int32))) <<< (((64 : Int32) - ov3) &&& 0x3f).toInt64)))])) _
        refine XS.iloadN X0.here hx rfl (hb hby d1_64) rfl ?_
        show Steps p.tables e below (s₁.setTop (mkF m 65 #[.val (.ref a1), .val (.long q1), .second, .val (.int p2), .val (.int iv1), .val (.int ov3), .val (.long (wv6 ||| ((own_at xa xb xc (iv1 + (1 : Int32))) <<< (((64 : Int32) - ov3) &&& 0x3f).toInt64))), .second] [(.int p2), (.long (1 : Int64)), (.long (wv6 ||| ((own_at xa xb xc (iv1 + (1 : Int32))) <<< (((64 : Int32) - ov3) &&& 0x3f).toInt64)))])) _
        refine XS.lshl X0.here hx rfl (hb hby d1_65) rfl ?_
        show Steps p.tables e below (s₁.setTop (mkF m 66 #[.val (.ref a1), .val (.long q1), .second, .val (.int p2), .val (.int iv1), .val (.int ov3), .val (.long (wv6 ||| ((own_at xa xb xc (iv1 + (1 : Int32))) <<< (((64 : Int32) - ov3) &&& 0x3f).toInt64))), .second] [(.long ((1 : Int64) <<< (p2 &&& 0x3f).toInt64)), (.long (wv6 ||| ((own_at xa xb xc (iv1 + (1 : Int32))) <<< (((64 : Int32) - ov3) &&& 0x3f).toInt64)))])) _
        refine XS.lconst X0.here hx rfl (hb hby d1_66) ?_
        show Steps p.tables e below (s₁.setTop (mkF m 67 #[.val (.ref a1), .val (.long q1), .second, .val (.int p2), .val (.int iv1), .val (.int ov3), .val (.long (wv6 ||| ((own_at xa xb xc (iv1 + (1 : Int32))) <<< (((64 : Int32) - ov3) &&& 0x3f).toInt64))), .second] [(.long (1 : Int64)), (.long ((1 : Int64) <<< (p2 &&& 0x3f).toInt64)), (.long (wv6 ||| ((own_at xa xb xc (iv1 + (1 : Int32))) <<< (((64 : Int32) - ov3) &&& 0x3f).toInt64)))])) _
        refine XS.lsub X0.here hx rfl (hb hby d1_67) rfl ?_
        show Steps p.tables e below (s₁.setTop (mkF m 68 #[.val (.ref a1), .val (.long q1), .second, .val (.int p2), .val (.int iv1), .val (.int ov3), .val (.long (wv6 ||| ((own_at xa xb xc (iv1 + (1 : Int32))) <<< (((64 : Int32) - ov3) &&& 0x3f).toInt64))), .second] [(.long (((1 : Int64) <<< (p2 &&& 0x3f).toInt64) - (1 : Int64))), (.long (wv6 ||| ((own_at xa xb xc (iv1 + (1 : Int32))) <<< (((64 : Int32) - ov3) &&& 0x3f).toInt64)))])) _
        refine XS.land X0.here hx rfl (hb hby d1_68) rfl ?_
        show Steps p.tables e below (s₁.setTop (mkF m 69 #[.val (.ref a1), .val (.long q1), .second, .val (.int p2), .val (.int iv1), .val (.int ov3), .val (.long (wv6 ||| ((own_at xa xb xc (iv1 + (1 : Int32))) <<< (((64 : Int32) - ov3) &&& 0x3f).toInt64))), .second] [(.long ((wv6 ||| ((own_at xa xb xc (iv1 + (1 : Int32))) <<< (((64 : Int32) - ov3) &&& 0x3f).toInt64)) &&& (((1 : Int64) <<< (p2 &&& 0x3f).toInt64) - (1 : Int64))))])) _
        rw [hv] at hr
        exact X0.lreturnOut hx Bd.returns (hb hby d1_69) hr
      ·
        show Q1 Z a1 q1 p2 ka xa xb xc h0 n0 _ s₁.heap _
        rw [e0]
        exact ⟨rfl, N0, rfl⟩
  ·
    have pre13 : ∀ t, Steps p.tables e below (s₁.setTop (mkF m 53 #[.val (.ref a1), .val (.long q1), .second, .val (.int p2), .val (.int iv1), .val (.int ov3), .val (.long wv6), .second] [(.int (64 : Int32)), (.int p2)])) t → Steps p.tables e below (s₁.setTop (entryFrame m #[(.ref a1), (.long q1), (.int p2)] 8)) t := by
      intro t kt
      refine pre8 _ ?_
      show Steps p.tables e below (s₁.setTop (mkF m 30 #[.val (.ref a1), .val (.long q1), .second, .val (.int p2), .val (.int iv1), .val (.int ov3), .val (.long wv6), .second] [(.int (64 : Int32)), (.int (ov3 + p2))])) _
      refine XS.icmpYes X0.here hx rfl (pc0 := 30) (pc' := 50) rfl (hb hby d1_30) rfl (flt hc30).2.2.2 (by decide) (by decide) ?_
      show Steps p.tables e below (s₁.setTop (mkF m 50 #[.val (.ref a1), .val (.long q1), .second, .val (.int p2), .val (.int iv1), .val (.int ov3), .val (.long wv6), .second] [])) _
      refine XS.iloadN X0.here hx rfl (hb hby d1_50) rfl ?_
      show Steps p.tables e below (s₁.setTop (mkF m 51 #[.val (.ref a1), .val (.long q1), .second, .val (.int p2), .val (.int iv1), .val (.int ov3), .val (.long wv6), .second] [(.int p2)])) _
      refine XS.bipush X0.here hx rfl (hb hby d1_51) ?_
      show Steps p.tables e below (s₁.setTop (mkF m 53 #[.val (.ref a1), .val (.long q1), .second, .val (.int p2), .val (.int iv1), .val (.int ov3), .val (.long wv6), .second] [(.int (64 : Int32)), (.int p2)])) _
      exact kt
    by_cases hc53_14 : p2 = (64 : Int32)
    ·
      have hv : own_read (own_at xa xb xc) q1 p2 = wv6 := by unfold own_read; rw [← hiv1, ← hov3, ← hwv6]; unfold own_rdw; rw [if_neg hc30, if_pos hc53_14]
      obtain ⟨fs, hr, hrun, hended, hW, hsame⟩ := X0.leave (v := some (.long (own_read (own_at xa xb xc) q1 p2))) (fun h => by rw [Bd.returns] at h; cases h)
      refine ⟨_, _, pre13 _ ?_, hrun, hended, _, _, rfl, ?_, ⟨_, rfl⟩, hW, hsame.mono (by decide) (by decide)⟩
      ·
        show Steps p.tables e below (s₁.setTop (mkF m 53 #[.val (.ref a1), .val (.long q1), .second, .val (.int p2), .val (.int iv1), .val (.int ov3), .val (.long wv6), .second] [(.int (64 : Int32)), (.int p2)])) _
        refine XS.icmpNo X0.here hx rfl (hb hby d1_53) rfl (teq hc53_14).2 ?_
        show Steps p.tables e below (s₁.setTop (mkF m 56 #[.val (.ref a1), .val (.long q1), .second, .val (.int p2), .val (.int iv1), .val (.int ov3), .val (.long wv6), .second] [])) _
        refine XS.lload X0.here hx rfl (hb hby d1_56) rfl ?_
        show Steps p.tables e below (s₁.setTop (mkF m 58 #[.val (.ref a1), .val (.long q1), .second, .val (.int p2), .val (.int iv1), .val (.int ov3), .val (.long wv6), .second] [(.long wv6)])) _
        refine XS.goto X0.here hx rfl (pc0 := 58) (pc' := 69) rfl (hb hby d1_58) (by decide) (by decide) ?_
        show Steps p.tables e below (s₁.setTop (mkF m 69 #[.val (.ref a1), .val (.long q1), .second, .val (.int p2), .val (.int iv1), .val (.int ov3), .val (.long wv6), .second] [(.long wv6)])) _
        rw [hv] at hr
        exact X0.lreturnOut hx Bd.returns (hb hby d1_69) hr
      ·
        show Q1 Z a1 q1 p2 ka xa xb xc h0 n0 _ s₁.heap _
        rw [e0]
        exact ⟨rfl, N0, rfl⟩
    ·
      have hv : own_read (own_at xa xb xc) q1 p2 = (wv6 &&& (((1 : Int64) <<< (p2 &&& 0x3f).toInt64) - (1 : Int64))) := by unfold own_read; rw [← hiv1, ← hov3, ← hwv6]; unfold own_rdw; rw [if_neg hc30, if_neg hc53_14]
      obtain ⟨fs, hr, hrun, hended, hW, hsame⟩ := X0.leave (v := some (.long (own_read (own_at xa xb xc) q1 p2))) (fun h => by rw [Bd.returns] at h; cases h)
      refine ⟨_, _, pre13 _ ?_, hrun, hended, _, _, rfl, ?_, ⟨_, rfl⟩, hW, hsame.mono (by decide) (by decide)⟩
      ·
        show Steps p.tables e below (s₁.setTop (mkF m 53 #[.val (.ref a1), .val (.long q1), .second, .val (.int p2), .val (.int iv1), .val (.int ov3), .val (.long wv6), .second] [(.int (64 : Int32)), (.int p2)])) _
        refine XS.icmpYes X0.here hx rfl (pc0 := 53) (pc' := 61) rfl (hb hby d1_53) rfl (feq hc53_14).2 (by decide) (by decide) ?_
        show Steps p.tables e below (s₁.setTop (mkF m 61 #[.val (.ref a1), .val (.long q1), .second, .val (.int p2), .val (.int iv1), .val (.int ov3), .val (.long wv6), .second] [])) _
        refine XS.lload X0.here hx rfl (hb hby d1_61) rfl ?_
        show Steps p.tables e below (s₁.setTop (mkF m 63 #[.val (.ref a1), .val (.long q1), .second, .val (.int p2), .val (.int iv1), .val (.int ov3), .val (.long wv6), .second] [(.long wv6)])) _
        refine XS.lconst X0.here hx rfl (hb hby d1_63) ?_
        show Steps p.tables e below (s₁.setTop (mkF m 64 #[.val (.ref a1), .val (.long q1), .second, .val (.int p2), .val (.int iv1), .val (.int ov3), .val (.long wv6), .second] [(.long (1 : Int64)), (.long wv6)])) _
        refine XS.iloadN X0.here hx rfl (hb hby d1_64) rfl ?_
        show Steps p.tables e below (s₁.setTop (mkF m 65 #[.val (.ref a1), .val (.long q1), .second, .val (.int p2), .val (.int iv1), .val (.int ov3), .val (.long wv6), .second] [(.int p2), (.long (1 : Int64)), (.long wv6)])) _
        refine XS.lshl X0.here hx rfl (hb hby d1_65) rfl ?_
        show Steps p.tables e below (s₁.setTop (mkF m 66 #[.val (.ref a1), .val (.long q1), .second, .val (.int p2), .val (.int iv1), .val (.int ov3), .val (.long wv6), .second] [(.long ((1 : Int64) <<< (p2 &&& 0x3f).toInt64)), (.long wv6)])) _
        refine XS.lconst X0.here hx rfl (hb hby d1_66) ?_
        show Steps p.tables e below (s₁.setTop (mkF m 67 #[.val (.ref a1), .val (.long q1), .second, .val (.int p2), .val (.int iv1), .val (.int ov3), .val (.long wv6), .second] [(.long (1 : Int64)), (.long ((1 : Int64) <<< (p2 &&& 0x3f).toInt64)), (.long wv6)])) _
        refine XS.lsub X0.here hx rfl (hb hby d1_67) rfl ?_
        show Steps p.tables e below (s₁.setTop (mkF m 68 #[.val (.ref a1), .val (.long q1), .second, .val (.int p2), .val (.int iv1), .val (.int ov3), .val (.long wv6), .second] [(.long (((1 : Int64) <<< (p2 &&& 0x3f).toInt64) - (1 : Int64))), (.long wv6)])) _
        refine XS.land X0.here hx rfl (hb hby d1_68) rfl ?_
        show Steps p.tables e below (s₁.setTop (mkF m 69 #[.val (.ref a1), .val (.long q1), .second, .val (.int p2), .val (.int iv1), .val (.int ov3), .val (.long wv6), .second] [(.long (wv6 &&& (((1 : Int64) <<< (p2 &&& 0x3f).toInt64) - (1 : Int64))))])) _
        rw [hv] at hr
        exact X0.lreturnOut hx Bd.returns (hb hby d1_69) hr
      ·
        show Q1 Z a1 q1 p2 ka xa xb xc h0 n0 _ s₁.heap _
        rw [e0]
        exact ⟨rfl, N0, rfl⟩
theorem d2_0 : decode method_2_code 0 = .ok (.aload_n 0, 1) := by decide +kernel
theorem d2_1 : decode method_2_code 1 = .ok (.lload_n 1, 1) := by decide +kernel
theorem d2_2 : decode method_2_code 2 = .ok (.bipush 6, 2) := by decide +kernel
theorem d2_4 : decode method_2_code 4 = .ok (.lushr, 1) := by decide +kernel
theorem d2_5 : decode method_2_code 5 = .ok (.l2i, 1) := by decide +kernel
theorem d2_6 : decode method_2_code 6 = .ok (.laload, 1) := by decide +kernel
theorem d2_7 : decode method_2_code 7 = .ok (.lload_n 1, 1) := by decide +kernel
theorem d2_8 : decode method_2_code 8 = .ok (.ldc2_w 7, 3) := by decide +kernel
theorem d2_11 : decode method_2_code 11 = .ok (.land, 1) := by decide +kernel
theorem d2_12 : decode method_2_code 12 = .ok (.l2i, 1) := by decide +kernel
theorem d2_13 : decode method_2_code 13 = .ok (.lushr, 1) := by decide +kernel
theorem d2_14 : decode method_2_code 14 = .ok (.lconst 1, 1) := by decide +kernel
theorem d2_15 : decode method_2_code 15 = .ok (.land, 1) := by decide +kernel
theorem d2_16 : decode method_2_code 16 = .ok (.lreturn, 1) := by decide +kernel
theorem pn_2 : plainName "com/example/bitmend/bitmend/BitsReadPinLaw" = true := by first | (simp [plainName, overriddenIn]; done) | decide +kernel
theorem ef_2 (m : MethodId) (a1 : Addr) (q1 : Int64) : entryFrame m #[(.ref a1), (.long q1)] 3 = (mkF m 0 #[.val (.ref a1), .val (.long q1), .second] []) := by first | (simp [entryFrame, mkF, argsToLocals, Value.category]; done) | rfl
def Q2 (Z : State) (a1 : Addr) (q1 : Int64) (ka : ClassId) (xa : Int64) (xb : Int64) (xc : Int64) (h0 : Heap) (n0 : Nat) (v : Option Value) (h : Heap) (L : List Loc) : Prop := v = some (.long (own_bitAt (own_at xa xb xc) q1)) ∧ Fr n0 L ∧ h = h0
set_option maxRecDepth 65536 in
set_option maxHeartbeats 40000000 in
theorem rm2 (l : Launch) (Z : State) (a0 : Array Value) (hw : ∀ d ∈ tables_1, d.before a0 Z = true) (ws : List Jvm.Cond) (a1 : Addr) (q1 : Int64) (ka : ClassId) (xa : Int64) (xb : Int64) (xc : Int64) (h0 : Heap) (n0 : Nat) (Z0 : n0 ≤ h0.size) (Va : (Arv Z h0 a1 ka .long 3 [(.long xa), (.long xb), (.long xc)] (.long (0 : Int64)))) (hi : ¬ (((q1.toUInt64 >>> ((6 : Int32) &&& 0x3f).toInt64.toUInt64).toInt64).toInt32) < 0 ∧ (((q1.toUInt64 >>> ((6 : Int32) &&& 0x3f).toInt64.toUInt64).toInt64).toInt32) < 3) :
    MetFree l (⟨"com/example/bitmend/bitmend/BitsReadPinLaw", "bitAt", "([JJ)J"⟩ : MethodName) (head1 (Jvm.Cond.code (⟨"com/example/bitmend/bitmend/BitsReadPinLaw", "bitAt", "([JJ)J"⟩ : MethodName) method_2_code 3 (some .long) :: ws) ({ frames := 0, cells := 0, slots := 0, locals := 0 } : Room)) (fun a U => a = #[(.ref a1), (.long q1)] ∧ Z.Warmed39 U.vm ∧ U.heap = h0) (fun _ _ _ _ _ => True) (fun _ U o U' => ∃ v L, o = .returned v ∧ Q2 Z a1 q1 ka xa xb xc h0 n0 v U'.heap L ∧ FrameEnd U o U' L ({ frames := 0, cells := 0, slots := 0, locals := 0 } : Room).cells ({ frames := 0, cells := 0, slots := 0, locals := 0 } : Room).slots) := by
  refine MetFree.of_bodySF (plainFor_of_name pn_2) hisR ?_
  intro p e s m args below meth c s₁ Bd hml0 hP hK
  obtain ⟨rfl, hZ, hh⟩ := hP
  have hx := Bd.exec
  have hby := Bd.bytes
  have hml : c.maxLocals = 3 := hml0
  have hown : s.vm.findClass "com/example/bitmend/bitmend/BitsReadPinLaw" = some m.cls := findClass_of_methodNamed Bd.named
  have hnm := (name_of_methodNamed Bd.named Bd.method).1
  have X0 : Stand p l e ({ frames := 0, cells := 0, slots := 0, locals := 0 } : Room) s m #[(.ref a1), (.long q1)] below meth c s₁ [] 0 0 := Stand.of_body Bd
  have e0 : s₁.heap = h0 := by rw [← hh, Bd.state]; rfl
  have N0 := Fr.nil n0
  have K0 := Keep.refl h0 ([] : List Addr)
  have pre0 : ∀ t, Steps p.tables e below (s₁.setTop (mkF m 0 #[.val (.ref a1), .val (.long q1), .second] [])) t → Steps p.tables e below (s₁.setTop (entryFrame m #[(.ref a1), (.long q1)] 3)) t := fun t k => castTop (ef_2 m a1 q1) k
  obtain ⟨clo1, Aro1, -, So1, No1, Ho1, -⟩ := id Va
  have hino1 : ¬ ((((q1.toUInt64 >>> ((6 : Int32) &&& 0x3f).toInt64.toUInt64).toInt64).toInt32) < 0 ∨ clo1.slots.size ≤ ((((q1.toUInt64 >>> ((6 : Int32) &&& 0x3f).toInt64.toUInt64).toInt64).toInt32)).toNatClampNeg) := inb_of So1 hi
  have hato1 : clo1.slots[((((q1.toUInt64 >>> ((6 : Int32) &&& 0x3f).toInt64.toUInt64).toInt64).toInt32)).toNatClampNeg]? = some (.long (own_at xa xb xc (((q1.toUInt64 >>> ((6 : Int32) &&& 0x3f).toInt64.toUInt64).toInt64).toInt32))) := Ho1.at hino1 (own_get hi)
  obtain ⟨fs, hr, hrun, hended, hW, hsame⟩ := X0.leave (v := some (.long (own_bitAt (own_at xa xb xc) q1))) (fun h => by rw [Bd.returns] at h; cases h)
  refine ⟨_, _, pre0 _ ?_, hrun, hended, _, _, rfl, ?_, ⟨_, rfl⟩, hW, hsame.mono (by decide) (by decide)⟩
  ·
    show Steps p.tables e below (s₁.setTop (mkF m 0 #[.val (.ref a1), .val (.long q1), .second] [])) _
    refine XS.aloadN X0.here hx rfl (hb hby d2_0) rfl rfl ?_
    show Steps p.tables e below (s₁.setTop (mkF m 1 #[.val (.ref a1), .val (.long q1), .second] [(.ref a1)])) _
    refine XS.lloadN X0.here hx rfl (hb hby d2_1) rfl ?_
    show Steps p.tables e below (s₁.setTop (mkF m 2 #[.val (.ref a1), .val (.long q1), .second] [(.long q1), (.ref a1)])) _
    refine XS.bipush X0.here hx rfl (hb hby d2_2) ?_
    show Steps p.tables e below (s₁.setTop (mkF m 4 #[.val (.ref a1), .val (.long q1), .second] [(.int (6 : Int32)), (.long q1), (.ref a1)])) _
    refine XS.lushr X0.here hx rfl (hb hby d2_4) rfl ?_
    show Steps p.tables e below (s₁.setTop (mkF m 5 #[.val (.ref a1), .val (.long q1), .second] [(.long ((q1.toUInt64 >>> ((6 : Int32) &&& 0x3f).toInt64.toUInt64).toInt64)), (.ref a1)])) _
    refine XS.l2i X0.here hx rfl (hb hby d2_5) rfl ?_
    show Steps p.tables e below (s₁.setTop (mkF m 6 #[.val (.ref a1), .val (.long q1), .second] [(.int (((q1.toUInt64 >>> ((6 : Int32) &&& 0x3f).toInt64.toUInt64).toInt64).toInt32)), (.ref a1)])) _
    refine X0.laload hx (j := (((q1.toUInt64 >>> ((6 : Int32) &&& 0x3f).toInt64.toUInt64).toInt64).toInt32)) (v := (.long (own_at xa xb xc (((q1.toUInt64 >>> ((6 : Int32) &&& 0x3f).toInt64.toUInt64).toInt64).toInt32)))) (by rw [e0]; exact Aro1.1) (State.isArrayOf_alike hZ.alike Aro1.2.1) Aro1.2.2 hino1 hato1 (g := (mkF m 6 #[.val (.ref a1), .val (.long q1), .second] [(.int (((q1.toUInt64 >>> ((6 : Int32) &&& 0x3f).toInt64.toUInt64).toInt64).toInt32)), (.ref a1)])) rfl rfl (hb hby d2_6) _ ?_
    show Steps p.tables e below (s₁.setTop (mkF m 7 #[.val (.ref a1), .val (.long q1), .second] [(.long (own_at xa xb xc (((q1.toUInt64 >>> ((6 : Int32) &&& 0x3f).toInt64.toUInt64).toInt64).toInt32)))])) _
    refine XS.lloadN X0.here hx rfl (hb hby d2_7) rfl ?_
    show Steps p.tables e below (s₁.setTop (mkF m 8 #[.val (.ref a1), .val (.long q1), .second] [(.long q1), (.long (own_at xa xb xc (((q1.toUInt64 >>> ((6 : Int32) &&& 0x3f).toInt64.toUInt64).toInt64).toInt32)))])) _
    refine X0.ldc2Long hx hown (mvT hZ (hw _ (List.mem_of_getElem? (i := 11) rfl))) (g := (mkF m 8 #[.val (.ref a1), .val (.long q1), .second] [(.long q1), (.long (own_at xa xb xc (((q1.toUInt64 >>> ((6 : Int32) &&& 0x3f).toInt64.toUInt64).toInt64).toInt32)))])) rfl (hb hby d2_8) _ ?_
    show Steps p.tables e below (s₁.setTop (mkF m 11 #[.val (.ref a1), .val (.long q1), .second] [(.long (63 : Int64)), (.long q1), (.long (own_at xa xb xc (((q1.toUInt64 >>> ((6 : Int32) &&& 0x3f).toInt64.toUInt64).toInt64).toInt32)))])) _
    refine XS.land X0.here hx rfl (hb hby d2_11) rfl ?_
    show Steps p.tables e below (s₁.setTop (mkF m 12 #[.val (.ref a1), .val (.long q1), .second] [(.long (q1 &&& (63 : Int64))), (.long (own_at xa xb xc (((q1.toUInt64 >>> ((6 : Int32) &&& 0x3f).toInt64.toUInt64).toInt64).toInt32)))])) _
    refine XS.l2i X0.here hx rfl (hb hby d2_12) rfl ?_
    show Steps p.tables e below (s₁.setTop (mkF m 13 #[.val (.ref a1), .val (.long q1), .second] [(.int ((q1 &&& (63 : Int64)).toInt32)), (.long (own_at xa xb xc (((q1.toUInt64 >>> ((6 : Int32) &&& 0x3f).toInt64.toUInt64).toInt64).toInt32)))])) _
    refine XS.lushr X0.here hx rfl (hb hby d2_13) rfl ?_
    show Steps p.tables e below (s₁.setTop (mkF m 14 #[.val (.ref a1), .val (.long q1), .second] [(.long (((own_at xa xb xc (((q1.toUInt64 >>> ((6 : Int32) &&& 0x3f).toInt64.toUInt64).toInt64).toInt32)).toUInt64 >>> (((q1 &&& (63 : Int64)).toInt32) &&& 0x3f).toInt64.toUInt64).toInt64))])) _
    refine XS.lconst X0.here hx rfl (hb hby d2_14) ?_
    show Steps p.tables e below (s₁.setTop (mkF m 15 #[.val (.ref a1), .val (.long q1), .second] [(.long (1 : Int64)), (.long (((own_at xa xb xc (((q1.toUInt64 >>> ((6 : Int32) &&& 0x3f).toInt64.toUInt64).toInt64).toInt32)).toUInt64 >>> (((q1 &&& (63 : Int64)).toInt32) &&& 0x3f).toInt64.toUInt64).toInt64))])) _
    refine XS.land X0.here hx rfl (hb hby d2_15) rfl ?_
    show Steps p.tables e below (s₁.setTop (mkF m 16 #[.val (.ref a1), .val (.long q1), .second] [(.long ((((own_at xa xb xc (((q1.toUInt64 >>> ((6 : Int32) &&& 0x3f).toInt64.toUInt64).toInt64).toInt32)).toUInt64 >>> (((q1 &&& (63 : Int64)).toInt32) &&& 0x3f).toInt64.toUInt64).toInt64) &&& (1 : Int64)))])) _
    exact X0.lreturnOut hx Bd.returns (hb hby d2_16) hr
  ·
    show Q2 Z a1 q1 ka xa xb xc h0 n0 _ s₁.heap _
    rw [e0]
    exact ⟨rfl, N0, rfl⟩
theorem pn_0 : plainName "com/example/bitmend/bitmend/BitsReadPinLaw" = true := by first | (simp [plainName, overriddenIn]; done) | decide +kernel
theorem pd___JJ_J : parseMethodDescriptor "([JJ)J" = some ⟨[(.array .long), .long], some .long⟩ := by decide +kernel
theorem pd___JJI_J : parseMethodDescriptor "([JJI)J" = some ⟨[(.array .long), .long, .int], some .long⟩ := by decide +kernel
theorem ef_0 (m : MethodId) (q0 : Int64) (q1 : Int64) (q2 : Int64) (p3 : Int32) (p4 : Int32) (p5 : Int32) : entryFrame m #[(.long q0), (.long q1), (.long q2), (.int p3), (.int p4), (.int p5)] maxLocals = (mkF m 0 #[.val (.long q0), .second, .val (.long q1), .second, .val (.long q2), .second, .val (.int p3), .val (.int p4), .val (.int p5), .unset, .unset, .unset, .unset, .unset, .unset, .unset, .unset, .unset, .unset, .unset, .unset] []) := by first | (simp [entryFrame, mkF, argsToLocals, Value.category, maxLocals]; done) | rfl
def Q0 (Z : State) (q0 : Int64) (q1 : Int64) (q2 : Int64) (p3 : Int32) (p4 : Int32) (p5 : Int32) (h0 : Heap) (n0 : Nat) (v : Option Value) (h : Heap) (L : List Loc) : Prop := v = some (.int 1) ∧ Fr n0 L
set_option maxRecDepth 65536 in
set_option maxHeartbeats 40000000 in
theorem rm0 (l : Launch) (Z : State) (a0 : Array Value) (hw : ∀ d ∈ tables_1, d.before a0 Z = true) (ws : List Jvm.Cond) (q0 : Int64) (q1 : Int64) (q2 : Int64) (p3 : Int32) (p4 : Int32) (p5 : Int32) (h0 : Heap) (n0 : Nat) (Z0 : n0 ≤ h0.size) :
    MetFree l x (head1 (Jvm.Cond.code x code maxLocals ret :: ws) room_1) (fun a U => a = #[(.long q0), (.long q1), (.long q2), (.int p3), (.int p4), (.int p5)] ∧ Z.Warmed39 U.vm ∧ U.heap = h0) (fun _ _ _ _ _ => True) (fun _ U o U' => ∃ v L, o = .returned v ∧ Q0 Z q0 q1 q2 p3 p4 p5 h0 n0 v U'.heap L ∧ FrameEnd U o U' L 1 3) := by
  refine MetFree.of_bodySF (plainFor_of_name pn_0) hisR ?_
  intro p e s m args below meth c s₁ Bd hml0 hP hK
  obtain ⟨rfl, hZ, hh⟩ := hP
  have hx := Bd.exec
  have hby := Bd.bytes
  have hml : c.maxLocals = 21 := hml0
  have hown : s.vm.findClass "com/example/bitmend/bitmend/BitsReadPinLaw" = some m.cls := findClass_of_methodNamed Bd.named
  have hnm := (name_of_methodNamed Bd.named Bd.method).1
  have X0 : Stand p l e room_1 s m #[(.long q0), (.long q1), (.long q2), (.int p3), (.int p4), (.int p5)] below meth c s₁ [] 0 0 := Stand.of_body Bd
  have e0 : s₁.heap = h0 := by rw [← hh, Bd.state]; rfl
  have N0 := Fr.nil n0
  have K0 := Keep.refl h0 ([] : List Addr)
  have pre0 : ∀ t, Steps p.tables e below (s₁.setTop (mkF m 0 #[.val (.long q0), .second, .val (.long q1), .second, .val (.long q2), .second, .val (.int p3), .val (.int p4), .val (.int p5), .unset, .unset, .unset, .unset, .unset, .unset, .unset, .unset, .unset, .unset, .unset, .unset] [])) t → Steps p.tables e below (s₁.setTop (entryFrame m #[(.long q0), (.long q1), (.long q2), (.int p3), (.int p4), (.int p5)] maxLocals)) t := fun t k => castTop (ef_0 m q0 q1 q2 p3 p4 p5) k
  obtain ⟨T1, h1, k1, X1, e1, E1, A1, st1⟩ := newP X0 hx hZ (hw _ (List.mem_of_getElem? (i := 0) rfl)) e0 (g := (mkF m 1 #[.val (.long q0), .second, .val (.long q1), .second, .val (.long q2), .second, .val (.int p3), .val (.int p4), .val (.int p5), .unset, .unset, .unset, .unset, .unset, .unset, .unset, .unset, .unset, .unset, .unset, .unset] [(.int (3 : Int32))])) rfl (hb hby at_1) rfl (by decide) (cap := 3) (by decide) (by decide) (by decide) (by decide)
  obtain ⟨b1, g1⟩ : ∃ z, z = h0.size := ⟨_, rfl⟩
  rw [← g1] at A1 st1
  have g_b1 : n0 ≤ b1 := Nat.le_trans (Nat.le_trans Z0 K0.1) (Nat.le_of_eq g1.symm)
  have sz_b1 : h0.size ≤ b1 := Nat.le_trans K0.1 (Nat.le_of_eq g1.symm)
  have K1 := K0.ext E1
  have V_b1 : Arv Z h1 b1 k1 .long (3 : Int32) [(.long (0 : Int64)), (.long (0 : Int64)), (.long (0 : Int64))] (.long (0 : Int64)) := (Arv.new A1 (by decide)).pad (pad_rep [] (.long (0 : Int64)) 3)
  obtain ⟨clo2, Aro2, qo2, So2, No2, Ho2, Go2⟩ := id V_b1
  have hino2 : ¬ ((0 : Int32) < 0 ∨ clo2.slots.size ≤ ((0 : Int32)).toNatClampNeg) := inb_of So2 ⟨by decide, by decide⟩
  obtain ⟨T3, h3, X3, e3, W3, st3⟩ := stJ X1 hx hZ e1 Aro2 (j := (0 : Int32)) hino2 (g := (mkF m 6 #[.val (.long q0), .second, .val (.long q1), .second, .val (.long q2), .second, .val (.int p3), .val (.int p4), .val (.int p5), .unset, .unset, .unset, .unset, .unset, .unset, .unset, .unset, .unset, .unset, .unset, .unset] [(.long q0), (.int (0 : Int32)), (.ref b1), (.ref b1)])) rfl rfl (hb hby at_6)
  have V3 : Arv Z h3 b1 k1 .long (3 : Int32) [(.long q0), (.long (0 : Int64)), (.long (0 : Int64))] (.long (0 : Int64)) := Arv.set Aro2 qo2 So2 No2 Ho2 Go2 rfl W3 0 rfl (Nat.le_of_ble_eq_true rfl)
  have K3 := K1.wr W3 (Or.inr sz_b1)
  have N3 := Fr.snoc X3 N0 g_b1
  obtain ⟨clo4, Aro4, qo4, So4, No4, Ho4, Go4⟩ := id V3
  have hino4 : ¬ ((1 : Int32) < 0 ∨ clo4.slots.size ≤ ((1 : Int32)).toNatClampNeg) := inb_of So4 ⟨by decide, by decide⟩
  obtain ⟨T5, h5, X5, e5, W5, st5⟩ := stJ X3 hx hZ e3 Aro4 (j := (1 : Int32)) hino4 (g := (mkF m 10 #[.val (.long q0), .second, .val (.long q1), .second, .val (.long q2), .second, .val (.int p3), .val (.int p4), .val (.int p5), .unset, .unset, .unset, .unset, .unset, .unset, .unset, .unset, .unset, .unset, .unset, .unset] [(.long q1), (.int (1 : Int32)), (.ref b1), (.ref b1)])) rfl rfl (hb hby at_10)
  have V5 : Arv Z h5 b1 k1 .long (3 : Int32) [(.long q0), (.long q1), (.long (0 : Int64))] (.long (0 : Int64)) := Arv.set Aro4 qo4 So4 No4 Ho4 Go4 rfl W5 1 rfl (Nat.le_of_ble_eq_true rfl)
  have K5 := K3.wr W5 (Or.inr sz_b1)
  have N5 := Fr.snoc X5 N3 g_b1
  obtain ⟨clo6, Aro6, qo6, So6, No6, Ho6, Go6⟩ := id V5
  have hino6 : ¬ ((2 : Int32) < 0 ∨ clo6.slots.size ≤ ((2 : Int32)).toNatClampNeg) := inb_of So6 ⟨by decide, by decide⟩
  obtain ⟨T7, h7, X7, e7, W7, st7⟩ := stJ X5 hx hZ e5 Aro6 (j := (2 : Int32)) hino6 (g := (mkF m 15 #[.val (.long q0), .second, .val (.long q1), .second, .val (.long q2), .second, .val (.int p3), .val (.int p4), .val (.int p5), .unset, .unset, .unset, .unset, .unset, .unset, .unset, .unset, .unset, .unset, .unset, .unset] [(.long q2), (.int (2 : Int32)), (.ref b1), (.ref b1)])) rfl rfl (hb hby at_15)
  have V7 : Arv Z h7 b1 k1 .long (3 : Int32) [(.long q0), (.long q1), (.long q2)] (.long (0 : Int64)) := Arv.set Aro6 qo6 So6 No6 Ho6 Go6 rfl W7 2 rfl (Nat.le_of_ble_eq_true rfl)
  have K7 := K5.wr W7 (Or.inr sz_b1)
  have N7 := Fr.snoc X7 N5 g_b1
  obtain ⟨ev8, hev8⟩ : ∃ z, z = (((p3 &&& (2147483647 : Int32)) - (p3 &&& (2147483647 : Int32)) / (129 : Int32) * (129 : Int32)).toInt64) := ⟨_, rfl⟩
  have pre9 : ∀ t, Steps p.tables e below (T7.setTop (mkF m 28 #[.val (.long q0), .second, .val (.long q1), .second, .val (.long q2), .second, .val (.int p3), .val (.int p4), .val (.int p5), .val (.ref b1), .unset, .unset, .unset, .unset, .unset, .unset, .unset, .unset, .unset, .unset, .unset] [(.long ev8)])) t → Steps p.tables e below (s₁.setTop (entryFrame m #[(.long q0), (.long q1), (.long q2), (.int p3), (.int p4), (.int p5)] maxLocals)) t := by
    intro t kt
    rw [hev8] at kt
    refine pre0 _ ?_
    show Steps p.tables e below (s₁.setTop (mkF m 0 #[.val (.long q0), .second, .val (.long q1), .second, .val (.long q2), .second, .val (.int p3), .val (.int p4), .val (.int p5), .unset, .unset, .unset, .unset, .unset, .unset, .unset, .unset, .unset, .unset, .unset, .unset] [])) _
    refine XS.iconst X0.here hx rfl (hb hby at_0) ?_
    show Steps p.tables e below (s₁.setTop (mkF m 1 #[.val (.long q0), .second, .val (.long q1), .second, .val (.long q2), .second, .val (.int p3), .val (.int p4), .val (.int p5), .unset, .unset, .unset, .unset, .unset, .unset, .unset, .unset, .unset, .unset, .unset, .unset] [(.int (3 : Int32))])) _
    refine st1 _ ?_
    show Steps p.tables e below (T1.setTop (mkF m 3 #[.val (.long q0), .second, .val (.long q1), .second, .val (.long q2), .second, .val (.int p3), .val (.int p4), .val (.int p5), .unset, .unset, .unset, .unset, .unset, .unset, .unset, .unset, .unset, .unset, .unset, .unset] [(.ref b1)])) _
    refine XS.dup X1.here hx rfl (hb hby at_3) rfl rfl ?_
    show Steps p.tables e below (T1.setTop (mkF m 4 #[.val (.long q0), .second, .val (.long q1), .second, .val (.long q2), .second, .val (.int p3), .val (.int p4), .val (.int p5), .unset, .unset, .unset, .unset, .unset, .unset, .unset, .unset, .unset, .unset, .unset, .unset] [(.ref b1), (.ref b1)])) _
    refine XS.iconst X1.here hx rfl (hb hby at_4) ?_
    show Steps p.tables e below (T1.setTop (mkF m 5 #[.val (.long q0), .second, .val (.long q1), .second, .val (.long q2), .second, .val (.int p3), .val (.int p4), .val (.int p5), .unset, .unset, .unset, .unset, .unset, .unset, .unset, .unset, .unset, .unset, .unset, .unset] [(.int (0 : Int32)), (.ref b1), (.ref b1)])) _
    refine XS.lloadN X1.here hx rfl (hb hby at_5) rfl ?_
    show Steps p.tables e below (T1.setTop (mkF m 6 #[.val (.long q0), .second, .val (.long q1), .second, .val (.long q2), .second, .val (.int p3), .val (.int p4), .val (.int p5), .unset, .unset, .unset, .unset, .unset, .unset, .unset, .unset, .unset, .unset, .unset, .unset] [(.long q0), (.int (0 : Int32)), (.ref b1), (.ref b1)])) _
    refine st3 _ ?_
    show Steps p.tables e below (T3.setTop (mkF m 7 #[.val (.long q0), .second, .val (.long q1), .second, .val (.long q2), .second, .val (.int p3), .val (.int p4), .val (.int p5), .unset, .unset, .unset, .unset, .unset, .unset, .unset, .unset, .unset, .unset, .unset, .unset] [(.ref b1)])) _
    refine XS.dup X3.here hx rfl (hb hby at_7) rfl rfl ?_
    show Steps p.tables e below (T3.setTop (mkF m 8 #[.val (.long q0), .second, .val (.long q1), .second, .val (.long q2), .second, .val (.int p3), .val (.int p4), .val (.int p5), .unset, .unset, .unset, .unset, .unset, .unset, .unset, .unset, .unset, .unset, .unset, .unset] [(.ref b1), (.ref b1)])) _
    refine XS.iconst X3.here hx rfl (hb hby at_8) ?_
    show Steps p.tables e below (T3.setTop (mkF m 9 #[.val (.long q0), .second, .val (.long q1), .second, .val (.long q2), .second, .val (.int p3), .val (.int p4), .val (.int p5), .unset, .unset, .unset, .unset, .unset, .unset, .unset, .unset, .unset, .unset, .unset, .unset] [(.int (1 : Int32)), (.ref b1), (.ref b1)])) _
    refine XS.lloadN X3.here hx rfl (hb hby at_9) rfl ?_
    show Steps p.tables e below (T3.setTop (mkF m 10 #[.val (.long q0), .second, .val (.long q1), .second, .val (.long q2), .second, .val (.int p3), .val (.int p4), .val (.int p5), .unset, .unset, .unset, .unset, .unset, .unset, .unset, .unset, .unset, .unset, .unset, .unset] [(.long q1), (.int (1 : Int32)), (.ref b1), (.ref b1)])) _
    refine st5 _ ?_
    show Steps p.tables e below (T5.setTop (mkF m 11 #[.val (.long q0), .second, .val (.long q1), .second, .val (.long q2), .second, .val (.int p3), .val (.int p4), .val (.int p5), .unset, .unset, .unset, .unset, .unset, .unset, .unset, .unset, .unset, .unset, .unset, .unset] [(.ref b1)])) _
    refine XS.dup X5.here hx rfl (hb hby at_11) rfl rfl ?_
    show Steps p.tables e below (T5.setTop (mkF m 12 #[.val (.long q0), .second, .val (.long q1), .second, .val (.long q2), .second, .val (.int p3), .val (.int p4), .val (.int p5), .unset, .unset, .unset, .unset, .unset, .unset, .unset, .unset, .unset, .unset, .unset, .unset] [(.ref b1), (.ref b1)])) _
    refine XS.iconst X5.here hx rfl (hb hby at_12) ?_
    show Steps p.tables e below (T5.setTop (mkF m 13 #[.val (.long q0), .second, .val (.long q1), .second, .val (.long q2), .second, .val (.int p3), .val (.int p4), .val (.int p5), .unset, .unset, .unset, .unset, .unset, .unset, .unset, .unset, .unset, .unset, .unset, .unset] [(.int (2 : Int32)), (.ref b1), (.ref b1)])) _
    refine XS.lload X5.here hx rfl (hb hby at_13) rfl ?_
    show Steps p.tables e below (T5.setTop (mkF m 15 #[.val (.long q0), .second, .val (.long q1), .second, .val (.long q2), .second, .val (.int p3), .val (.int p4), .val (.int p5), .unset, .unset, .unset, .unset, .unset, .unset, .unset, .unset, .unset, .unset, .unset, .unset] [(.long q2), (.int (2 : Int32)), (.ref b1), (.ref b1)])) _
    refine st7 _ ?_
    show Steps p.tables e below (T7.setTop (mkF m 16 #[.val (.long q0), .second, .val (.long q1), .second, .val (.long q2), .second, .val (.int p3), .val (.int p4), .val (.int p5), .unset, .unset, .unset, .unset, .unset, .unset, .unset, .unset, .unset, .unset, .unset, .unset] [(.ref b1)])) _
    refine XS.astore X7.here hx rfl (hb hby at_16) rfl rfl (l' := #[.val (.long q0), .second, .val (.long q1), .second, .val (.long q2), .second, .val (.int p3), .val (.int p4), .val (.int p5), .val (.ref b1), .unset, .unset, .unset, .unset, .unset, .unset, .unset, .unset, .unset, .unset, .unset]) rfl ?_
    show Steps p.tables e below (T7.setTop (mkF m 18 #[.val (.long q0), .second, .val (.long q1), .second, .val (.long q2), .second, .val (.int p3), .val (.int p4), .val (.int p5), .val (.ref b1), .unset, .unset, .unset, .unset, .unset, .unset, .unset, .unset, .unset, .unset, .unset] [])) _
    refine XS.iload X7.here hx rfl (hb hby at_18) rfl ?_
    show Steps p.tables e below (T7.setTop (mkF m 20 #[.val (.long q0), .second, .val (.long q1), .second, .val (.long q2), .second, .val (.int p3), .val (.int p4), .val (.int p5), .val (.ref b1), .unset, .unset, .unset, .unset, .unset, .unset, .unset, .unset, .unset, .unset, .unset] [(.int p3)])) _
    refine X7.ldcInt hx hown (mvT hZ (hw _ (List.mem_of_getElem? (i := 1) rfl))) (g := (mkF m 20 #[.val (.long q0), .second, .val (.long q1), .second, .val (.long q2), .second, .val (.int p3), .val (.int p4), .val (.int p5), .val (.ref b1), .unset, .unset, .unset, .unset, .unset, .unset, .unset, .unset, .unset, .unset, .unset] [(.int p3)])) rfl (hb hby at_20) _ ?_
    show Steps p.tables e below (T7.setTop (mkF m 22 #[.val (.long q0), .second, .val (.long q1), .second, .val (.long q2), .second, .val (.int p3), .val (.int p4), .val (.int p5), .val (.ref b1), .unset, .unset, .unset, .unset, .unset, .unset, .unset, .unset, .unset, .unset, .unset] [(.int (2147483647 : Int32)), (.int p3)])) _
    refine XS.iand X7.here hx rfl (hb hby at_22) rfl ?_
    show Steps p.tables e below (T7.setTop (mkF m 23 #[.val (.long q0), .second, .val (.long q1), .second, .val (.long q2), .second, .val (.int p3), .val (.int p4), .val (.int p5), .val (.ref b1), .unset, .unset, .unset, .unset, .unset, .unset, .unset, .unset, .unset, .unset, .unset] [(.int (p3 &&& (2147483647 : Int32)))])) _
    refine XS.sipush X7.here hx rfl (hb hby at_23) ?_
    show Steps p.tables e below (T7.setTop (mkF m 26 #[.val (.long q0), .second, .val (.long q1), .second, .val (.long q2), .second, .val (.int p3), .val (.int p4), .val (.int p5), .val (.ref b1), .unset, .unset, .unset, .unset, .unset, .unset, .unset, .unset, .unset, .unset, .unset] [(.int (129 : Int32)), (.int (p3 &&& (2147483647 : Int32)))])) _
    refine XS.irem X7.here hx rfl (hb hby at_26) rfl (by decide) ?_
    show Steps p.tables e below (T7.setTop (mkF m 27 #[.val (.long q0), .second, .val (.long q1), .second, .val (.long q2), .second, .val (.int p3), .val (.int p4), .val (.int p5), .val (.ref b1), .unset, .unset, .unset, .unset, .unset, .unset, .unset, .unset, .unset, .unset, .unset] [(.int ((p3 &&& (2147483647 : Int32)) - (p3 &&& (2147483647 : Int32)) / (129 : Int32) * (129 : Int32)))])) _
    refine XS.i2l X7.here hx rfl (hb hby at_27) rfl ?_
    show Steps p.tables e below (T7.setTop (mkF m 28 #[.val (.long q0), .second, .val (.long q1), .second, .val (.long q2), .second, .val (.int p3), .val (.int p4), .val (.int p5), .val (.ref b1), .unset, .unset, .unset, .unset, .unset, .unset, .unset, .unset, .unset, .unset, .unset] [(.long (((p3 &&& (2147483647 : Int32)) - (p3 &&& (2147483647 : Int32)) / (129 : Int32) * (129 : Int32)).toInt64))])) _
    exact kt
  obtain ⟨cv10, hcv10⟩ : ∃ z, z = ((1 : Int32) + (p4 &&& (63 : Int32))) := ⟨_, rfl⟩
  have pre11 : ∀ t, Steps p.tables e below (T7.setTop (mkF m 37 #[.val (.long q0), .second, .val (.long q1), .second, .val (.long q2), .second, .val (.int p3), .val (.int p4), .val (.int p5), .val (.ref b1), .val (.long ev8), .second, .unset, .unset, .unset, .unset, .unset, .unset, .unset, .unset, .unset] [(.int cv10)])) t → Steps p.tables e below (s₁.setTop (entryFrame m #[(.long q0), (.long q1), (.long q2), (.int p3), (.int p4), (.int p5)] maxLocals)) t := by
    intro t kt
    rw [hcv10] at kt
    refine pre9 _ ?_
    show Steps p.tables e below (T7.setTop (mkF m 28 #[.val (.long q0), .second, .val (.long q1), .second, .val (.long q2), .second, .val (.int p3), .val (.int p4), .val (.int p5), .val (.ref b1), .unset, .unset, .unset, .unset, .unset, .unset, .unset, .unset, .unset, .unset, .unset] [(.long ev8)])) _
    refine XS.lstore X7.here hx rfl (hb hby at_28) rfl (l' := #[.val (.long q0), .second, .val (.long q1), .second, .val (.long q2), .second, .val (.int p3), .val (.int p4), .val (.int p5), .val (.ref b1), .val (.long ev8), .second, .unset, .unset, .unset, .unset, .unset, .unset, .unset, .unset, .unset]) rfl ?_
    show Steps p.tables e below (T7.setTop (mkF m 30 #[.val (.long q0), .second, .val (.long q1), .second, .val (.long q2), .second, .val (.int p3), .val (.int p4), .val (.int p5), .val (.ref b1), .val (.long ev8), .second, .unset, .unset, .unset, .unset, .unset, .unset, .unset, .unset, .unset] [])) _
    refine XS.iconst X7.here hx rfl (hb hby at_30) ?_
    show Steps p.tables e below (T7.setTop (mkF m 31 #[.val (.long q0), .second, .val (.long q1), .second, .val (.long q2), .second, .val (.int p3), .val (.int p4), .val (.int p5), .val (.ref b1), .val (.long ev8), .second, .unset, .unset, .unset, .unset, .unset, .unset, .unset, .unset, .unset] [(.int (1 : Int32))])) _
    refine XS.iload X7.here hx rfl (hb hby at_31) rfl ?_
    show Steps p.tables e below (T7.setTop (mkF m 33 #[.val (.long q0), .second, .val (.long q1), .second, .val (.long q2), .second, .val (.int p3), .val (.int p4), .val (.int p5), .val (.ref b1), .val (.long ev8), .second, .unset, .unset, .unset, .unset, .unset, .unset, .unset, .unset, .unset] [(.int p4), (.int (1 : Int32))])) _
    refine XS.bipush X7.here hx rfl (hb hby at_33) ?_
    show Steps p.tables e below (T7.setTop (mkF m 35 #[.val (.long q0), .second, .val (.long q1), .second, .val (.long q2), .second, .val (.int p3), .val (.int p4), .val (.int p5), .val (.ref b1), .val (.long ev8), .second, .unset, .unset, .unset, .unset, .unset, .unset, .unset, .unset, .unset] [(.int (63 : Int32)), (.int p4), (.int (1 : Int32))])) _
    refine XS.iand X7.here hx rfl (hb hby at_35) rfl ?_
    show Steps p.tables e below (T7.setTop (mkF m 36 #[.val (.long q0), .second, .val (.long q1), .second, .val (.long q2), .second, .val (.int p3), .val (.int p4), .val (.int p5), .val (.ref b1), .val (.long ev8), .second, .unset, .unset, .unset, .unset, .unset, .unset, .unset, .unset, .unset] [(.int (p4 &&& (63 : Int32))), (.int (1 : Int32))])) _
    refine XS.iadd X7.here hx rfl (hb hby at_36) rfl ?_
    show Steps p.tables e below (T7.setTop (mkF m 37 #[.val (.long q0), .second, .val (.long q1), .second, .val (.long q2), .second, .val (.int p3), .val (.int p4), .val (.int p5), .val (.ref b1), .val (.long ev8), .second, .unset, .unset, .unset, .unset, .unset, .unset, .unset, .unset, .unset] [(.int ((1 : Int32) + (p4 &&& (63 : Int32))))])) _
    exact kt
  obtain ⟨kv12, hkv12⟩ : ∃ z, z = (p5 &&& (63 : Int32)) := ⟨_, rfl⟩
  have pre13 : ∀ t, Steps p.tables e below (T7.setTop (mkF m 44 #[.val (.long q0), .second, .val (.long q1), .second, .val (.long q2), .second, .val (.int p3), .val (.int p4), .val (.int p5), .val (.ref b1), .val (.long ev8), .second, .val (.int cv10), .unset, .unset, .unset, .unset, .unset, .unset, .unset, .unset] [(.int kv12)])) t → Steps p.tables e below (s₁.setTop (entryFrame m #[(.long q0), (.long q1), (.long q2), (.int p3), (.int p4), (.int p5)] maxLocals)) t := by
    intro t kt
    rw [hkv12] at kt
    refine pre11 _ ?_
    show Steps p.tables e below (T7.setTop (mkF m 37 #[.val (.long q0), .second, .val (.long q1), .second, .val (.long q2), .second, .val (.int p3), .val (.int p4), .val (.int p5), .val (.ref b1), .val (.long ev8), .second, .unset, .unset, .unset, .unset, .unset, .unset, .unset, .unset, .unset] [(.int cv10)])) _
    refine XS.istore X7.here hx rfl (hb hby at_37) rfl (l' := #[.val (.long q0), .second, .val (.long q1), .second, .val (.long q2), .second, .val (.int p3), .val (.int p4), .val (.int p5), .val (.ref b1), .val (.long ev8), .second, .val (.int cv10), .unset, .unset, .unset, .unset, .unset, .unset, .unset, .unset]) rfl ?_
    show Steps p.tables e below (T7.setTop (mkF m 39 #[.val (.long q0), .second, .val (.long q1), .second, .val (.long q2), .second, .val (.int p3), .val (.int p4), .val (.int p5), .val (.ref b1), .val (.long ev8), .second, .val (.int cv10), .unset, .unset, .unset, .unset, .unset, .unset, .unset, .unset] [])) _
    refine XS.iload X7.here hx rfl (hb hby at_39) rfl ?_
    show Steps p.tables e below (T7.setTop (mkF m 41 #[.val (.long q0), .second, .val (.long q1), .second, .val (.long q2), .second, .val (.int p3), .val (.int p4), .val (.int p5), .val (.ref b1), .val (.long ev8), .second, .val (.int cv10), .unset, .unset, .unset, .unset, .unset, .unset, .unset, .unset] [(.int p5)])) _
    refine XS.bipush X7.here hx rfl (hb hby at_41) ?_
    show Steps p.tables e below (T7.setTop (mkF m 43 #[.val (.long q0), .second, .val (.long q1), .second, .val (.long q2), .second, .val (.int p3), .val (.int p4), .val (.int p5), .val (.ref b1), .val (.long ev8), .second, .val (.int cv10), .unset, .unset, .unset, .unset, .unset, .unset, .unset, .unset] [(.int (63 : Int32)), (.int p5)])) _
    refine XS.iand X7.here hx rfl (hb hby at_43) rfl ?_
    show Steps p.tables e below (T7.setTop (mkF m 44 #[.val (.long q0), .second, .val (.long q1), .second, .val (.long q2), .second, .val (.int p3), .val (.int p4), .val (.int p5), .val (.ref b1), .val (.long ev8), .second, .val (.int cv10), .unset, .unset, .unset, .unset, .unset, .unset, .unset, .unset] [(.int (p5 &&& (63 : Int32)))])) _
    exact kt
  obtain ⟨_, _, ⟨T14, L14, k14, n14⟩, -, X14, ⟨Lc14, hQ14, l14, y14, z14⟩, st14⟩ := Jvm.LawKit.callS X7 hx (y := (⟨"com/example/bitmend/bitmend/Bits", "read", "([JJI)J"⟩ : MethodName)) hown (mvT hZ (hw _ (List.mem_of_getElem? (i := 2) rfl))) (mvT hZ (hw _ (List.mem_of_getElem? (i := 3) rfl))) (mvT hZ (hw _ (List.mem_of_getElem? (i := 4) rfl))) (mvT hZ (hw _ (List.mem_of_getElem? (i := 5) rfl))) (by decide) (backOf (W := 0) (rm1 l Z a0 hw [] b1 ev8 cv10 k1 q0 q1 q2 h7 n0 (Nat.le_trans Z0 K7.1) V7 (own_i1 _ hev8) (own_i2 _ hev8 _ hcv10)) hZ (hw _ (List.mem_of_getElem? (i := 5) rfl)) (hw _ (List.mem_of_getElem? (i := 4) rfl)) (by decide) (by decide)) (g := (mkF m 52 #[.val (.long q0), .second, .val (.long q1), .second, .val (.long q2), .second, .val (.int p3), .val (.int p4), .val (.int p5), .val (.ref b1), .val (.long ev8), .second, .val (.int cv10), .val (.int kv12), .unset, .unset, .unset, .unset, .unset, .unset, .unset] [(.int cv10), (.long ev8), (.ref b1)])) rfl (by rw [hml]; rfl) (argsL := [(.ref b1), (.long ev8), (.int cv10)]) (rest := []) (lenOf pd___JJI_J rfl) rfl (by show 2 * 0 + _ ≤ _; exact Nat.le_of_eq rfl) (hb hby at_52) (fun _ _ => ⟨rfl, e7, (by decide : 1 + 0 ≤ _), (by decide : 3 + 0 ≤ _)⟩)
  dsimp only [Pt.U, Pt.locs, Pt.cells, Pt.slots] at X14 l14 y14 z14 st14 hQ14
  subst l14 y14 z14
  obtain ⟨rfl, N14q, hq14⟩ := hQ14
  have N14 := Fr.app N7 N14q
  have E14 : Ext h7 T14.heap := by rw [hq14]; exact ⟨Nat.le_refl _, fun _ _ q => q⟩
  have K14 := K7.ext E14
  obtain ⟨rv15, hrv15⟩ : ∃ z, z = (own_read (own_at q0 q1 q2) ev8 cv10) := ⟨_, rfl⟩
  have pre16 : ∀ t, Steps p.tables e below (T14.setTop (mkF m 55 #[.val (.long q0), .second, .val (.long q1), .second, .val (.long q2), .second, .val (.int p3), .val (.int p4), .val (.int p5), .val (.ref b1), .val (.long ev8), .second, .val (.int cv10), .val (.int kv12), .unset, .unset, .unset, .unset, .unset, .unset, .unset] [(.long rv15)])) t → Steps p.tables e below (s₁.setTop (entryFrame m #[(.long q0), (.long q1), (.long q2), (.int p3), (.int p4), (.int p5)] maxLocals)) t := by
    intro t kt
    rw [hrv15] at kt
    refine pre13 _ ?_
    show Steps p.tables e below (T7.setTop (mkF m 44 #[.val (.long q0), .second, .val (.long q1), .second, .val (.long q2), .second, .val (.int p3), .val (.int p4), .val (.int p5), .val (.ref b1), .val (.long ev8), .second, .val (.int cv10), .unset, .unset, .unset, .unset, .unset, .unset, .unset, .unset] [(.int kv12)])) _
    refine XS.istore X7.here hx rfl (hb hby at_44) rfl (l' := #[.val (.long q0), .second, .val (.long q1), .second, .val (.long q2), .second, .val (.int p3), .val (.int p4), .val (.int p5), .val (.ref b1), .val (.long ev8), .second, .val (.int cv10), .val (.int kv12), .unset, .unset, .unset, .unset, .unset, .unset, .unset]) rfl ?_
    show Steps p.tables e below (T7.setTop (mkF m 46 #[.val (.long q0), .second, .val (.long q1), .second, .val (.long q2), .second, .val (.int p3), .val (.int p4), .val (.int p5), .val (.ref b1), .val (.long ev8), .second, .val (.int cv10), .val (.int kv12), .unset, .unset, .unset, .unset, .unset, .unset, .unset] [])) _
    refine XS.aload X7.here hx rfl (hb hby at_46) rfl rfl ?_
    show Steps p.tables e below (T7.setTop (mkF m 48 #[.val (.long q0), .second, .val (.long q1), .second, .val (.long q2), .second, .val (.int p3), .val (.int p4), .val (.int p5), .val (.ref b1), .val (.long ev8), .second, .val (.int cv10), .val (.int kv12), .unset, .unset, .unset, .unset, .unset, .unset, .unset] [(.ref b1)])) _
    refine XS.lload X7.here hx rfl (hb hby at_48) rfl ?_
    show Steps p.tables e below (T7.setTop (mkF m 50 #[.val (.long q0), .second, .val (.long q1), .second, .val (.long q2), .second, .val (.int p3), .val (.int p4), .val (.int p5), .val (.ref b1), .val (.long ev8), .second, .val (.int cv10), .val (.int kv12), .unset, .unset, .unset, .unset, .unset, .unset, .unset] [(.long ev8), (.ref b1)])) _
    refine XS.iload X7.here hx rfl (hb hby at_50) rfl ?_
    show Steps p.tables e below (T7.setTop (mkF m 52 #[.val (.long q0), .second, .val (.long q1), .second, .val (.long q2), .second, .val (.int p3), .val (.int p4), .val (.int p5), .val (.ref b1), .val (.long ev8), .second, .val (.int cv10), .val (.int kv12), .unset, .unset, .unset, .unset, .unset, .unset, .unset] [(.int cv10), (.long ev8), (.ref b1)])) _
    refine st14 _ ?_
    show Steps p.tables e below (T14.setTop (mkF m 55 #[.val (.long q0), .second, .val (.long q1), .second, .val (.long q2), .second, .val (.int p3), .val (.int p4), .val (.int p5), .val (.ref b1), .val (.long ev8), .second, .val (.int cv10), .val (.int kv12), .unset, .unset, .unset, .unset, .unset, .unset, .unset] [(.long (own_read (own_at q0 q1 q2) ev8 cv10))])) _
    exact kt
  obtain ⟨gv17, hgv17⟩ : ∃ z, z = (((rv15.toUInt64 >>> (kv12 &&& 0x3f).toInt64.toUInt64).toInt64) &&& (1 : Int64)) := ⟨_, rfl⟩
  have pre18 : ∀ t, Steps p.tables e below (T14.setTop (mkF m 64 #[.val (.long q0), .second, .val (.long q1), .second, .val (.long q2), .second, .val (.int p3), .val (.int p4), .val (.int p5), .val (.ref b1), .val (.long ev8), .second, .val (.int cv10), .val (.int kv12), .val (.long rv15), .second, .unset, .unset, .unset, .unset, .unset] [(.long gv17)])) t → Steps p.tables e below (s₁.setTop (entryFrame m #[(.long q0), (.long q1), (.long q2), (.int p3), (.int p4), (.int p5)] maxLocals)) t := by
    intro t kt
    rw [hgv17] at kt
    refine pre16 _ ?_
    show Steps p.tables e below (T14.setTop (mkF m 55 #[.val (.long q0), .second, .val (.long q1), .second, .val (.long q2), .second, .val (.int p3), .val (.int p4), .val (.int p5), .val (.ref b1), .val (.long ev8), .second, .val (.int cv10), .val (.int kv12), .unset, .unset, .unset, .unset, .unset, .unset, .unset] [(.long rv15)])) _
    refine XS.lstore X14.here hx rfl (hb hby at_55) rfl (l' := #[.val (.long q0), .second, .val (.long q1), .second, .val (.long q2), .second, .val (.int p3), .val (.int p4), .val (.int p5), .val (.ref b1), .val (.long ev8), .second, .val (.int cv10), .val (.int kv12), .val (.long rv15), .second, .unset, .unset, .unset, .unset, .unset]) rfl ?_
    show Steps p.tables e below (T14.setTop (mkF m 57 #[.val (.long q0), .second, .val (.long q1), .second, .val (.long q2), .second, .val (.int p3), .val (.int p4), .val (.int p5), .val (.ref b1), .val (.long ev8), .second, .val (.int cv10), .val (.int kv12), .val (.long rv15), .second, .unset, .unset, .unset, .unset, .unset] [])) _
    refine XS.lload X14.here hx rfl (hb hby at_57) rfl ?_
    show Steps p.tables e below (T14.setTop (mkF m 59 #[.val (.long q0), .second, .val (.long q1), .second, .val (.long q2), .second, .val (.int p3), .val (.int p4), .val (.int p5), .val (.ref b1), .val (.long ev8), .second, .val (.int cv10), .val (.int kv12), .val (.long rv15), .second, .unset, .unset, .unset, .unset, .unset] [(.long rv15)])) _
    refine XS.iload X14.here hx rfl (hb hby at_59) rfl ?_
    show Steps p.tables e below (T14.setTop (mkF m 61 #[.val (.long q0), .second, .val (.long q1), .second, .val (.long q2), .second, .val (.int p3), .val (.int p4), .val (.int p5), .val (.ref b1), .val (.long ev8), .second, .val (.int cv10), .val (.int kv12), .val (.long rv15), .second, .unset, .unset, .unset, .unset, .unset] [(.int kv12), (.long rv15)])) _
    refine XS.lushr X14.here hx rfl (hb hby at_61) rfl ?_
    show Steps p.tables e below (T14.setTop (mkF m 62 #[.val (.long q0), .second, .val (.long q1), .second, .val (.long q2), .second, .val (.int p3), .val (.int p4), .val (.int p5), .val (.ref b1), .val (.long ev8), .second, .val (.int cv10), .val (.int kv12), .val (.long rv15), .second, .unset, .unset, .unset, .unset, .unset] [(.long ((rv15.toUInt64 >>> (kv12 &&& 0x3f).toInt64.toUInt64).toInt64))])) _
    refine XS.lconst X14.here hx rfl (hb hby at_62) ?_
    show Steps p.tables e below (T14.setTop (mkF m 63 #[.val (.long q0), .second, .val (.long q1), .second, .val (.long q2), .second, .val (.int p3), .val (.int p4), .val (.int p5), .val (.ref b1), .val (.long ev8), .second, .val (.int cv10), .val (.int kv12), .val (.long rv15), .second, .unset, .unset, .unset, .unset, .unset] [(.long (1 : Int64)), (.long ((rv15.toUInt64 >>> (kv12 &&& 0x3f).toInt64.toUInt64).toInt64))])) _
    refine XS.land X14.here hx rfl (hb hby at_63) rfl ?_
    show Steps p.tables e below (T14.setTop (mkF m 64 #[.val (.long q0), .second, .val (.long q1), .second, .val (.long q2), .second, .val (.int p3), .val (.int p4), .val (.int p5), .val (.ref b1), .val (.long ev8), .second, .val (.int cv10), .val (.int kv12), .val (.long rv15), .second, .unset, .unset, .unset, .unset, .unset] [(.long (((rv15.toUInt64 >>> (kv12 &&& 0x3f).toInt64.toUInt64).toInt64) &&& (1 : Int64)))])) _
    exact kt
  have pre19 : ∀ t, Steps p.tables e below (T14.setTop (mkF m 70 #[.val (.long q0), .second, .val (.long q1), .second, .val (.long q2), .second, .val (.int p3), .val (.int p4), .val (.int p5), .val (.ref b1), .val (.long ev8), .second, .val (.int cv10), .val (.int kv12), .val (.long rv15), .second, .val (.long gv17), .second, .unset, .unset, .unset] [(.int cv10), (.int kv12)])) t → Steps p.tables e below (s₁.setTop (entryFrame m #[(.long q0), (.long q1), (.long q2), (.int p3), (.int p4), (.int p5)] maxLocals)) t := by
    intro t kt
    refine pre18 _ ?_
    show Steps p.tables e below (T14.setTop (mkF m 64 #[.val (.long q0), .second, .val (.long q1), .second, .val (.long q2), .second, .val (.int p3), .val (.int p4), .val (.int p5), .val (.ref b1), .val (.long ev8), .second, .val (.int cv10), .val (.int kv12), .val (.long rv15), .second, .unset, .unset, .unset, .unset, .unset] [(.long gv17)])) _
    refine XS.lstore X14.here hx rfl (hb hby at_64) rfl (l' := #[.val (.long q0), .second, .val (.long q1), .second, .val (.long q2), .second, .val (.int p3), .val (.int p4), .val (.int p5), .val (.ref b1), .val (.long ev8), .second, .val (.int cv10), .val (.int kv12), .val (.long rv15), .second, .val (.long gv17), .second, .unset, .unset, .unset]) rfl ?_
    show Steps p.tables e below (T14.setTop (mkF m 66 #[.val (.long q0), .second, .val (.long q1), .second, .val (.long q2), .second, .val (.int p3), .val (.int p4), .val (.int p5), .val (.ref b1), .val (.long ev8), .second, .val (.int cv10), .val (.int kv12), .val (.long rv15), .second, .val (.long gv17), .second, .unset, .unset, .unset] [])) _
    refine XS.iload X14.here hx rfl (hb hby at_66) rfl ?_
    show Steps p.tables e below (T14.setTop (mkF m 68 #[.val (.long q0), .second, .val (.long q1), .second, .val (.long q2), .second, .val (.int p3), .val (.int p4), .val (.int p5), .val (.ref b1), .val (.long ev8), .second, .val (.int cv10), .val (.int kv12), .val (.long rv15), .second, .val (.long gv17), .second, .unset, .unset, .unset] [(.int kv12)])) _
    refine XS.iload X14.here hx rfl (hb hby at_68) rfl ?_
    show Steps p.tables e below (T14.setTop (mkF m 70 #[.val (.long q0), .second, .val (.long q1), .second, .val (.long q2), .second, .val (.int p3), .val (.int p4), .val (.int p5), .val (.ref b1), .val (.long ev8), .second, .val (.int cv10), .val (.int kv12), .val (.long rv15), .second, .val (.long gv17), .second, .unset, .unset, .unset] [(.int cv10), (.int kv12)])) _
    exact kt
  by_cases hc70 : kv12 < cv10
  ·
    have c22 := (V7.ext E14)
    obtain ⟨_, _, ⟨T21, L21, k21, n21⟩, -, X21, ⟨Lc21, hQ21, l21, y21, z21⟩, st21⟩ := Jvm.LawKit.callS X14 hx (y := (⟨"com/example/bitmend/bitmend/BitsReadPinLaw", "bitAt", "([JJ)J"⟩ : MethodName)) hown (mvT hZ (hw _ (List.mem_of_getElem? (i := 7) rfl))) (mvT hZ (hw _ (List.mem_of_getElem? (i := 8) rfl))) (mvT hZ (hw _ (List.mem_of_getElem? (i := 9) rfl))) (mvT hZ (hw _ (List.mem_of_getElem? (i := 10) rfl))) (by decide) (backOf (W := 0) (rm2 l Z a0 hw [] b1 (ev8 + (kv12.toInt64)) k1 q0 q1 q2 T14.heap n0 (Nat.le_trans Z0 K14.1) c22 (own_i3 hev8 hkv12)) hZ (hw _ (List.mem_of_getElem? (i := 10) rfl)) (hw _ (List.mem_of_getElem? (i := 9) rfl)) (by decide) (by decide)) (g := (mkF m 87 #[.val (.long q0), .second, .val (.long q1), .second, .val (.long q2), .second, .val (.int p3), .val (.int p4), .val (.int p5), .val (.ref b1), .val (.long ev8), .second, .val (.int cv10), .val (.int kv12), .val (.long rv15), .second, .val (.long gv17), .second, .unset, .unset, .unset] [(.long (ev8 + (kv12.toInt64))), (.ref b1)])) rfl (by rw [hml]; rfl) (argsL := [(.ref b1), (.long (ev8 + (kv12.toInt64)))]) (rest := []) (lenOf pd___JJ_J rfl) rfl (by show 2 * 0 + _ ≤ _; exact Nat.le_of_eq rfl) (hb hby at_87) (fun _ _ => ⟨rfl, rfl, (by decide : 1 + 0 ≤ _), (by decide : 3 + 0 ≤ _)⟩)
    dsimp only [Pt.U, Pt.locs, Pt.cells, Pt.slots] at X21 l21 y21 z21 st21 hQ21
    subst l21 y21 z21
    obtain ⟨rfl, N21q, hq21⟩ := hQ21
    have N21 := Fr.app N14 N21q
    have E21 : Ext T14.heap T21.heap := by rw [hq21]; exact ⟨Nat.le_refl _, fun _ _ q => q⟩
    have K21 := K14.ext E21
    have c23 := (c22.ext E21)
    obtain ⟨clo24, Aro24, -, So24, No24, Ho24, -⟩ := id c23
    have hino24 : ¬ ((0 : Int32) < 0 ∨ clo24.slots.size ≤ ((0 : Int32)).toNatClampNeg) := inb_of So24 ⟨by decide, by decide⟩
    have hato24 : clo24.slots[((0 : Int32)).toNatClampNeg]? = some (.long q0) := Ho24.at hino24 rfl
    have hk25 : q0 = q0 := rfl
    obtain ⟨clo26, Aro26, -, So26, No26, Ho26, -⟩ := id c23
    have hino26 : ¬ ((1 : Int32) < 0 ∨ clo26.slots.size ≤ ((1 : Int32)).toNatClampNeg) := inb_of So26 ⟨by decide, by decide⟩
    have hato26 : clo26.slots[((1 : Int32)).toNatClampNeg]? = some (.long q1) := Ho26.at hino26 rfl
    have hk27 : q1 = q1 := rfl
    obtain ⟨clo28, Aro28, -, So28, No28, Ho28, -⟩ := id c23
    have hino28 : ¬ ((2 : Int32) < 0 ∨ clo28.slots.size ≤ ((2 : Int32)).toNatClampNeg) := inb_of So28 ⟨by decide, by decide⟩
    have hato28 : clo28.slots[((2 : Int32)).toNatClampNeg]? = some (.long q2) := Ho28.at hino28 rfl
    have hk29 : q2 = q2 := rfl
    have hk30 : gv17 = (own_bitAt (own_at q0 q1 q2) (ev8 + (kv12.toInt64))) := own_law_yes hev8 hcv10 hkv12 hrv15 hgv17 hc70
    obtain ⟨fs, hr, hrun, hended, hW, hsame⟩ := X21.leave (v := some (.int (1 : Int32))) (fun h => by rw [Bd.returns] at h; cases h)
    refine ⟨_, _, pre19 _ ?_, hrun, hended, _, _, rfl, ?_, ⟨_, rfl⟩, hW, hsame.mono (by decide) (by decide)⟩
    ·
      show Steps p.tables e below (T14.setTop (mkF m 70 #[.val (.long q0), .second, .val (.long q1), .second, .val (.long q2), .second, .val (.int p3), .val (.int p4), .val (.int p5), .val (.ref b1), .val (.long ev8), .second, .val (.int cv10), .val (.int kv12), .val (.long rv15), .second, .val (.long gv17), .second, .unset, .unset, .unset] [(.int cv10), (.int kv12)])) _
      refine XS.icmpYes X14.here hx rfl (pc0 := 70) (pc' := 79) rfl (hb hby at_70) rfl (tlt hc70).1 (by decide) (by decide) ?_
      show Steps p.tables e below (T14.setTop (mkF m 79 #[.val (.long q0), .second, .val (.long q1), .second, .val (.long q2), .second, .val (.int p3), .val (.int p4), .val (.int p5), .val (.ref b1), .val (.long ev8), .second, .val (.int cv10), .val (.int kv12), .val (.long rv15), .second, .val (.long gv17), .second, .unset, .unset, .unset] [])) _
      refine XS.aload X14.here hx rfl (hb hby at_79) rfl rfl ?_
      show Steps p.tables e below (T14.setTop (mkF m 81 #[.val (.long q0), .second, .val (.long q1), .second, .val (.long q2), .second, .val (.int p3), .val (.int p4), .val (.int p5), .val (.ref b1), .val (.long ev8), .second, .val (.int cv10), .val (.int kv12), .val (.long rv15), .second, .val (.long gv17), .second, .unset, .unset, .unset] [(.ref b1)])) _
      refine XS.lload X14.here hx rfl (hb hby at_81) rfl ?_
      show Steps p.tables e below (T14.setTop (mkF m 83 #[.val (.long q0), .second, .val (.long q1), .second, .val (.long q2), .second, .val (.int p3), .val (.int p4), .val (.int p5), .val (.ref b1), .val (.long ev8), .second, .val (.int cv10), .val (.int kv12), .val (.long rv15), .second, .val (.long gv17), .second, .unset, .unset, .unset] [(.long ev8), (.ref b1)])) _
      refine XS.iload X14.here hx rfl (hb hby at_83) rfl ?_
      show Steps p.tables e below (T14.setTop (mkF m 85 #[.val (.long q0), .second, .val (.long q1), .second, .val (.long q2), .second, .val (.int p3), .val (.int p4), .val (.int p5), .val (.ref b1), .val (.long ev8), .second, .val (.int cv10), .val (.int kv12), .val (.long rv15), .second, .val (.long gv17), .second, .unset, .unset, .unset] [(.int kv12), (.long ev8), (.ref b1)])) _
      refine XS.i2l X14.here hx rfl (hb hby at_85) rfl ?_
      show Steps p.tables e below (T14.setTop (mkF m 86 #[.val (.long q0), .second, .val (.long q1), .second, .val (.long q2), .second, .val (.int p3), .val (.int p4), .val (.int p5), .val (.ref b1), .val (.long ev8), .second, .val (.int cv10), .val (.int kv12), .val (.long rv15), .second, .val (.long gv17), .second, .unset, .unset, .unset] [(.long (kv12.toInt64)), (.long ev8), (.ref b1)])) _
      refine XS.ladd X14.here hx rfl (hb hby at_86) rfl ?_
      show Steps p.tables e below (T14.setTop (mkF m 87 #[.val (.long q0), .second, .val (.long q1), .second, .val (.long q2), .second, .val (.int p3), .val (.int p4), .val (.int p5), .val (.ref b1), .val (.long ev8), .second, .val (.int cv10), .val (.int kv12), .val (.long rv15), .second, .val (.long gv17), .second, .unset, .unset, .unset] [(.long (ev8 + (kv12.toInt64))), (.ref b1)])) _
      refine st21 _ ?_
      show Steps p.tables e below (T21.setTop (mkF m 90 #[.val (.long q0), .second, .val (.long q1), .second, .val (.long q2), .second, .val (.int p3), .val (.int p4), .val (.int p5), .val (.ref b1), .val (.long ev8), .second, .val (.int cv10), .val (.int kv12), .val (.long rv15), .second, .val (.long gv17), .second, .unset, .unset, .unset] [(.long (own_bitAt (own_at q0 q1 q2) (ev8 + (kv12.toInt64))))])) _
      refine XS.lstore X21.here hx rfl (hb hby at_90) rfl (l' := #[.val (.long q0), .second, .val (.long q1), .second, .val (.long q2), .second, .val (.int p3), .val (.int p4), .val (.int p5), .val (.ref b1), .val (.long ev8), .second, .val (.int cv10), .val (.int kv12), .val (.long rv15), .second, .val (.long gv17), .second, .val (.long (own_bitAt (own_at q0 q1 q2) (ev8 + (kv12.toInt64)))), .second, .unset]) rfl ?_
      show Steps p.tables e below (T21.setTop (mkF m 92 #[.val (.long q0), .second, .val (.long q1), .second, .val (.long q2), .second, .val (.int p3), .val (.int p4), .val (.int p5), .val (.ref b1), .val (.long ev8), .second, .val (.int cv10), .val (.int kv12), .val (.long rv15), .second, .val (.long gv17), .second, .val (.long (own_bitAt (own_at q0 q1 q2) (ev8 + (kv12.toInt64)))), .second, .unset] [])) _
      refine XS.aload X21.here hx rfl (hb hby at_92) rfl rfl ?_
      show Steps p.tables e below (T21.setTop (mkF m 94 #[.val (.long q0), .second, .val (.long q1), .second, .val (.long q2), .second, .val (.int p3), .val (.int p4), .val (.int p5), .val (.ref b1), .val (.long ev8), .second, .val (.int cv10), .val (.int kv12), .val (.long rv15), .second, .val (.long gv17), .second, .val (.long (own_bitAt (own_at q0 q1 q2) (ev8 + (kv12.toInt64)))), .second, .unset] [(.ref b1)])) _
      refine XS.iconst X21.here hx rfl (hb hby at_94) ?_
      show Steps p.tables e below (T21.setTop (mkF m 95 #[.val (.long q0), .second, .val (.long q1), .second, .val (.long q2), .second, .val (.int p3), .val (.int p4), .val (.int p5), .val (.ref b1), .val (.long ev8), .second, .val (.int cv10), .val (.int kv12), .val (.long rv15), .second, .val (.long gv17), .second, .val (.long (own_bitAt (own_at q0 q1 q2) (ev8 + (kv12.toInt64)))), .second, .unset] [(.int (0 : Int32)), (.ref b1)])) _
      refine X21.laload hx (j := (0 : Int32)) (v := (.long q0)) Aro24.1 (State.isArrayOf_alike hZ.alike Aro24.2.1) Aro24.2.2 hino24 hato24 (g := (mkF m 95 #[.val (.long q0), .second, .val (.long q1), .second, .val (.long q2), .second, .val (.int p3), .val (.int p4), .val (.int p5), .val (.ref b1), .val (.long ev8), .second, .val (.int cv10), .val (.int kv12), .val (.long rv15), .second, .val (.long gv17), .second, .val (.long (own_bitAt (own_at q0 q1 q2) (ev8 + (kv12.toInt64)))), .second, .unset] [(.int (0 : Int32)), (.ref b1)])) rfl rfl (hb hby at_95) _ ?_
      show Steps p.tables e below (T21.setTop (mkF m 96 #[.val (.long q0), .second, .val (.long q1), .second, .val (.long q2), .second, .val (.int p3), .val (.int p4), .val (.int p5), .val (.ref b1), .val (.long ev8), .second, .val (.int cv10), .val (.int kv12), .val (.long rv15), .second, .val (.long gv17), .second, .val (.long (own_bitAt (own_at q0 q1 q2) (ev8 + (kv12.toInt64)))), .second, .unset] [(.long q0)])) _
      refine XS.lloadN X21.here hx rfl (hb hby at_96) rfl ?_
      show Steps p.tables e below (T21.setTop (mkF m 97 #[.val (.long q0), .second, .val (.long q1), .second, .val (.long q2), .second, .val (.int p3), .val (.int p4), .val (.int p5), .val (.ref b1), .val (.long ev8), .second, .val (.int cv10), .val (.int kv12), .val (.long rv15), .second, .val (.long gv17), .second, .val (.long (own_bitAt (own_at q0 q1 q2) (ev8 + (kv12.toInt64)))), .second, .unset] [(.long q0), (.long q0)])) _
      refine XS.lcmp X21.here hx rfl (hb hby at_97) rfl ?_
      show Steps p.tables e below (T21.setTop (mkF m 98 #[.val (.long q0), .second, .val (.long q1), .second, .val (.long q2), .second, .val (.int p3), .val (.int p4), .val (.int p5), .val (.ref b1), .val (.long ev8), .second, .val (.int cv10), .val (.int kv12), .val (.long rv15), .second, .val (.long gv17), .second, .val (.long (own_bitAt (own_at q0 q1 q2) (ev8 + (kv12.toInt64)))), .second, .unset] [(.int (lcmpW q0 q0))])) _
      refine XS.ifNo X21.here hx rfl (hb hby at_98) rfl ((if0 _ _).trans (teq ((lw_eq _ _).mpr hk25)).2) ?_
      show Steps p.tables e below (T21.setTop (mkF m 101 #[.val (.long q0), .second, .val (.long q1), .second, .val (.long q2), .second, .val (.int p3), .val (.int p4), .val (.int p5), .val (.ref b1), .val (.long ev8), .second, .val (.int cv10), .val (.int kv12), .val (.long rv15), .second, .val (.long gv17), .second, .val (.long (own_bitAt (own_at q0 q1 q2) (ev8 + (kv12.toInt64)))), .second, .unset] [])) _
      refine XS.aload X21.here hx rfl (hb hby at_101) rfl rfl ?_
      show Steps p.tables e below (T21.setTop (mkF m 103 #[.val (.long q0), .second, .val (.long q1), .second, .val (.long q2), .second, .val (.int p3), .val (.int p4), .val (.int p5), .val (.ref b1), .val (.long ev8), .second, .val (.int cv10), .val (.int kv12), .val (.long rv15), .second, .val (.long gv17), .second, .val (.long (own_bitAt (own_at q0 q1 q2) (ev8 + (kv12.toInt64)))), .second, .unset] [(.ref b1)])) _
      refine XS.iconst X21.here hx rfl (hb hby at_103) ?_
      show Steps p.tables e below (T21.setTop (mkF m 104 #[.val (.long q0), .second, .val (.long q1), .second, .val (.long q2), .second, .val (.int p3), .val (.int p4), .val (.int p5), .val (.ref b1), .val (.long ev8), .second, .val (.int cv10), .val (.int kv12), .val (.long rv15), .second, .val (.long gv17), .second, .val (.long (own_bitAt (own_at q0 q1 q2) (ev8 + (kv12.toInt64)))), .second, .unset] [(.int (1 : Int32)), (.ref b1)])) _
      refine X21.laload hx (j := (1 : Int32)) (v := (.long q1)) Aro26.1 (State.isArrayOf_alike hZ.alike Aro26.2.1) Aro26.2.2 hino26 hato26 (g := (mkF m 104 #[.val (.long q0), .second, .val (.long q1), .second, .val (.long q2), .second, .val (.int p3), .val (.int p4), .val (.int p5), .val (.ref b1), .val (.long ev8), .second, .val (.int cv10), .val (.int kv12), .val (.long rv15), .second, .val (.long gv17), .second, .val (.long (own_bitAt (own_at q0 q1 q2) (ev8 + (kv12.toInt64)))), .second, .unset] [(.int (1 : Int32)), (.ref b1)])) rfl rfl (hb hby at_104) _ ?_
      show Steps p.tables e below (T21.setTop (mkF m 105 #[.val (.long q0), .second, .val (.long q1), .second, .val (.long q2), .second, .val (.int p3), .val (.int p4), .val (.int p5), .val (.ref b1), .val (.long ev8), .second, .val (.int cv10), .val (.int kv12), .val (.long rv15), .second, .val (.long gv17), .second, .val (.long (own_bitAt (own_at q0 q1 q2) (ev8 + (kv12.toInt64)))), .second, .unset] [(.long q1)])) _
      refine XS.lloadN X21.here hx rfl (hb hby at_105) rfl ?_
      show Steps p.tables e below (T21.setTop (mkF m 106 #[.val (.long q0), .second, .val (.long q1), .second, .val (.long q2), .second, .val (.int p3), .val (.int p4), .val (.int p5), .val (.ref b1), .val (.long ev8), .second, .val (.int cv10), .val (.int kv12), .val (.long rv15), .second, .val (.long gv17), .second, .val (.long (own_bitAt (own_at q0 q1 q2) (ev8 + (kv12.toInt64)))), .second, .unset] [(.long q1), (.long q1)])) _
      refine XS.lcmp X21.here hx rfl (hb hby at_106) rfl ?_
      show Steps p.tables e below (T21.setTop (mkF m 107 #[.val (.long q0), .second, .val (.long q1), .second, .val (.long q2), .second, .val (.int p3), .val (.int p4), .val (.int p5), .val (.ref b1), .val (.long ev8), .second, .val (.int cv10), .val (.int kv12), .val (.long rv15), .second, .val (.long gv17), .second, .val (.long (own_bitAt (own_at q0 q1 q2) (ev8 + (kv12.toInt64)))), .second, .unset] [(.int (lcmpW q1 q1))])) _
      refine XS.ifNo X21.here hx rfl (hb hby at_107) rfl ((if0 _ _).trans (teq ((lw_eq _ _).mpr hk27)).2) ?_
      show Steps p.tables e below (T21.setTop (mkF m 110 #[.val (.long q0), .second, .val (.long q1), .second, .val (.long q2), .second, .val (.int p3), .val (.int p4), .val (.int p5), .val (.ref b1), .val (.long ev8), .second, .val (.int cv10), .val (.int kv12), .val (.long rv15), .second, .val (.long gv17), .second, .val (.long (own_bitAt (own_at q0 q1 q2) (ev8 + (kv12.toInt64)))), .second, .unset] [])) _
      refine XS.aload X21.here hx rfl (hb hby at_110) rfl rfl ?_
      show Steps p.tables e below (T21.setTop (mkF m 112 #[.val (.long q0), .second, .val (.long q1), .second, .val (.long q2), .second, .val (.int p3), .val (.int p4), .val (.int p5), .val (.ref b1), .val (.long ev8), .second, .val (.int cv10), .val (.int kv12), .val (.long rv15), .second, .val (.long gv17), .second, .val (.long (own_bitAt (own_at q0 q1 q2) (ev8 + (kv12.toInt64)))), .second, .unset] [(.ref b1)])) _
      refine XS.iconst X21.here hx rfl (hb hby at_112) ?_
      show Steps p.tables e below (T21.setTop (mkF m 113 #[.val (.long q0), .second, .val (.long q1), .second, .val (.long q2), .second, .val (.int p3), .val (.int p4), .val (.int p5), .val (.ref b1), .val (.long ev8), .second, .val (.int cv10), .val (.int kv12), .val (.long rv15), .second, .val (.long gv17), .second, .val (.long (own_bitAt (own_at q0 q1 q2) (ev8 + (kv12.toInt64)))), .second, .unset] [(.int (2 : Int32)), (.ref b1)])) _
      refine X21.laload hx (j := (2 : Int32)) (v := (.long q2)) Aro28.1 (State.isArrayOf_alike hZ.alike Aro28.2.1) Aro28.2.2 hino28 hato28 (g := (mkF m 113 #[.val (.long q0), .second, .val (.long q1), .second, .val (.long q2), .second, .val (.int p3), .val (.int p4), .val (.int p5), .val (.ref b1), .val (.long ev8), .second, .val (.int cv10), .val (.int kv12), .val (.long rv15), .second, .val (.long gv17), .second, .val (.long (own_bitAt (own_at q0 q1 q2) (ev8 + (kv12.toInt64)))), .second, .unset] [(.int (2 : Int32)), (.ref b1)])) rfl rfl (hb hby at_113) _ ?_
      show Steps p.tables e below (T21.setTop (mkF m 114 #[.val (.long q0), .second, .val (.long q1), .second, .val (.long q2), .second, .val (.int p3), .val (.int p4), .val (.int p5), .val (.ref b1), .val (.long ev8), .second, .val (.int cv10), .val (.int kv12), .val (.long rv15), .second, .val (.long gv17), .second, .val (.long (own_bitAt (own_at q0 q1 q2) (ev8 + (kv12.toInt64)))), .second, .unset] [(.long q2)])) _
      refine XS.lload X21.here hx rfl (hb hby at_114) rfl ?_
      show Steps p.tables e below (T21.setTop (mkF m 116 #[.val (.long q0), .second, .val (.long q1), .second, .val (.long q2), .second, .val (.int p3), .val (.int p4), .val (.int p5), .val (.ref b1), .val (.long ev8), .second, .val (.int cv10), .val (.int kv12), .val (.long rv15), .second, .val (.long gv17), .second, .val (.long (own_bitAt (own_at q0 q1 q2) (ev8 + (kv12.toInt64)))), .second, .unset] [(.long q2), (.long q2)])) _
      refine XS.lcmp X21.here hx rfl (hb hby at_116) rfl ?_
      show Steps p.tables e below (T21.setTop (mkF m 117 #[.val (.long q0), .second, .val (.long q1), .second, .val (.long q2), .second, .val (.int p3), .val (.int p4), .val (.int p5), .val (.ref b1), .val (.long ev8), .second, .val (.int cv10), .val (.int kv12), .val (.long rv15), .second, .val (.long gv17), .second, .val (.long (own_bitAt (own_at q0 q1 q2) (ev8 + (kv12.toInt64)))), .second, .unset] [(.int (lcmpW q2 q2))])) _
      refine XS.ifNo X21.here hx rfl (hb hby at_117) rfl ((if0 _ _).trans (teq ((lw_eq _ _).mpr hk29)).2) ?_
      show Steps p.tables e below (T21.setTop (mkF m 120 #[.val (.long q0), .second, .val (.long q1), .second, .val (.long q2), .second, .val (.int p3), .val (.int p4), .val (.int p5), .val (.ref b1), .val (.long ev8), .second, .val (.int cv10), .val (.int kv12), .val (.long rv15), .second, .val (.long gv17), .second, .val (.long (own_bitAt (own_at q0 q1 q2) (ev8 + (kv12.toInt64)))), .second, .unset] [])) _
      refine XS.iconst X21.here hx rfl (hb hby at_120) ?_
      show Steps p.tables e below (T21.setTop (mkF m 121 #[.val (.long q0), .second, .val (.long q1), .second, .val (.long q2), .second, .val (.int p3), .val (.int p4), .val (.int p5), .val (.ref b1), .val (.long ev8), .second, .val (.int cv10), .val (.int kv12), .val (.long rv15), .second, .val (.long gv17), .second, .val (.long (own_bitAt (own_at q0 q1 q2) (ev8 + (kv12.toInt64)))), .second, .unset] [(.int (1 : Int32))])) _
      refine XS.goto X21.here hx rfl (pc0 := 121) (pc' := 125) rfl (hb hby at_121) (by decide) (by decide) ?_
      show Steps p.tables e below (T21.setTop (mkF m 125 #[.val (.long q0), .second, .val (.long q1), .second, .val (.long q2), .second, .val (.int p3), .val (.int p4), .val (.int p5), .val (.ref b1), .val (.long ev8), .second, .val (.int cv10), .val (.int kv12), .val (.long rv15), .second, .val (.long gv17), .second, .val (.long (own_bitAt (own_at q0 q1 q2) (ev8 + (kv12.toInt64)))), .second, .unset] [(.int (1 : Int32))])) _
      refine XS.istore X21.here hx rfl (hb hby at_125) rfl (l' := #[.val (.long q0), .second, .val (.long q1), .second, .val (.long q2), .second, .val (.int p3), .val (.int p4), .val (.int p5), .val (.ref b1), .val (.long ev8), .second, .val (.int cv10), .val (.int kv12), .val (.long rv15), .second, .val (.long gv17), .second, .val (.long (own_bitAt (own_at q0 q1 q2) (ev8 + (kv12.toInt64)))), .second, .val (.int (1 : Int32))]) rfl ?_
      show Steps p.tables e below (T21.setTop (mkF m 127 #[.val (.long q0), .second, .val (.long q1), .second, .val (.long q2), .second, .val (.int p3), .val (.int p4), .val (.int p5), .val (.ref b1), .val (.long ev8), .second, .val (.int cv10), .val (.int kv12), .val (.long rv15), .second, .val (.long gv17), .second, .val (.long (own_bitAt (own_at q0 q1 q2) (ev8 + (kv12.toInt64)))), .second, .val (.int (1 : Int32))] [])) _
      refine XS.lload X21.here hx rfl (hb hby at_127) rfl ?_
      show Steps p.tables e below (T21.setTop (mkF m 129 #[.val (.long q0), .second, .val (.long q1), .second, .val (.long q2), .second, .val (.int p3), .val (.int p4), .val (.int p5), .val (.ref b1), .val (.long ev8), .second, .val (.int cv10), .val (.int kv12), .val (.long rv15), .second, .val (.long gv17), .second, .val (.long (own_bitAt (own_at q0 q1 q2) (ev8 + (kv12.toInt64)))), .second, .val (.int (1 : Int32))] [(.long gv17)])) _
      refine XS.lload X21.here hx rfl (hb hby at_129) rfl ?_
      show Steps p.tables e below (T21.setTop (mkF m 131 #[.val (.long q0), .second, .val (.long q1), .second, .val (.long q2), .second, .val (.int p3), .val (.int p4), .val (.int p5), .val (.ref b1), .val (.long ev8), .second, .val (.int cv10), .val (.int kv12), .val (.long rv15), .second, .val (.long gv17), .second, .val (.long (own_bitAt (own_at q0 q1 q2) (ev8 + (kv12.toInt64)))), .second, .val (.int (1 : Int32))] [(.long (own_bitAt (own_at q0 q1 q2) (ev8 + (kv12.toInt64)))), (.long gv17)])) _
      refine XS.lcmp X21.here hx rfl (hb hby at_131) rfl ?_
      show Steps p.tables e below (T21.setTop (mkF m 132 #[.val (.long q0), .second, .val (.long q1), .second, .val (.long q2), .second, .val (.int p3), .val (.int p4), .val (.int p5), .val (.ref b1), .val (.long ev8), .second, .val (.int cv10), .val (.int kv12), .val (.long rv15), .second, .val (.long gv17), .second, .val (.long (own_bitAt (own_at q0 q1 q2) (ev8 + (kv12.toInt64)))), .second, .val (.int (1 : Int32))] [(.int (lcmpW gv17 (own_bitAt (own_at q0 q1 q2) (ev8 + (kv12.toInt64)))))])) _
      refine XS.ifNo X21.here hx rfl (hb hby at_132) rfl ((if0 _ _).trans (teq ((lw_eq _ _).mpr hk30)).2) ?_
      show Steps p.tables e below (T21.setTop (mkF m 135 #[.val (.long q0), .second, .val (.long q1), .second, .val (.long q2), .second, .val (.int p3), .val (.int p4), .val (.int p5), .val (.ref b1), .val (.long ev8), .second, .val (.int cv10), .val (.int kv12), .val (.long rv15), .second, .val (.long gv17), .second, .val (.long (own_bitAt (own_at q0 q1 q2) (ev8 + (kv12.toInt64)))), .second, .val (.int (1 : Int32))] [])) _
      refine XS.iload X21.here hx rfl (hb hby at_135) rfl ?_
      show Steps p.tables e below (T21.setTop (mkF m 137 #[.val (.long q0), .second, .val (.long q1), .second, .val (.long q2), .second, .val (.int p3), .val (.int p4), .val (.int p5), .val (.ref b1), .val (.long ev8), .second, .val (.int cv10), .val (.int kv12), .val (.long rv15), .second, .val (.long gv17), .second, .val (.long (own_bitAt (own_at q0 q1 q2) (ev8 + (kv12.toInt64)))), .second, .val (.int (1 : Int32))] [(.int (1 : Int32))])) _
      refine XS.ifNo X21.here hx rfl (hb hby at_137) rfl ((if0 _ _).trans (feq (by decide : ¬ ((1 : Int32) = (0 : Int32)))).1) ?_
      show Steps p.tables e below (T21.setTop (mkF m 140 #[.val (.long q0), .second, .val (.long q1), .second, .val (.long q2), .second, .val (.int p3), .val (.int p4), .val (.int p5), .val (.ref b1), .val (.long ev8), .second, .val (.int cv10), .val (.int kv12), .val (.long rv15), .second, .val (.long gv17), .second, .val (.long (own_bitAt (own_at q0 q1 q2) (ev8 + (kv12.toInt64)))), .second, .val (.int (1 : Int32))] [])) _
      refine XS.iconst X21.here hx rfl (hb hby at_140) ?_
      show Steps p.tables e below (T21.setTop (mkF m 141 #[.val (.long q0), .second, .val (.long q1), .second, .val (.long q2), .second, .val (.int p3), .val (.int p4), .val (.int p5), .val (.ref b1), .val (.long ev8), .second, .val (.int cv10), .val (.int kv12), .val (.long rv15), .second, .val (.long gv17), .second, .val (.long (own_bitAt (own_at q0 q1 q2) (ev8 + (kv12.toInt64)))), .second, .val (.int (1 : Int32))] [(.int (1 : Int32))])) _
      refine XS.goto X21.here hx rfl (pc0 := 141) (pc' := 145) rfl (hb hby at_141) (by decide) (by decide) ?_
      show Steps p.tables e below (T21.setTop (mkF m 145 #[.val (.long q0), .second, .val (.long q1), .second, .val (.long q2), .second, .val (.int p3), .val (.int p4), .val (.int p5), .val (.ref b1), .val (.long ev8), .second, .val (.int cv10), .val (.int kv12), .val (.long rv15), .second, .val (.long gv17), .second, .val (.long (own_bitAt (own_at q0 q1 q2) (ev8 + (kv12.toInt64)))), .second, .val (.int (1 : Int32))] [(.int (1 : Int32))])) _
      exact retN X21 hx (t := .boolean) Bd.returns (by simp) (hb hby at_145) hr
    ·
      show Q0 Z q0 q1 q2 p3 p4 p5 h0 n0 _ T21.heap _
      exact ⟨rfl, N21⟩
  ·
    have c31 := (V7.ext E14)
    obtain ⟨clo32, Aro32, -, So32, No32, Ho32, -⟩ := id c31
    have hino32 : ¬ ((0 : Int32) < 0 ∨ clo32.slots.size ≤ ((0 : Int32)).toNatClampNeg) := inb_of So32 ⟨by decide, by decide⟩
    have hato32 : clo32.slots[((0 : Int32)).toNatClampNeg]? = some (.long q0) := Ho32.at hino32 rfl
    have hk33 : q0 = q0 := rfl
    obtain ⟨clo34, Aro34, -, So34, No34, Ho34, -⟩ := id c31
    have hino34 : ¬ ((1 : Int32) < 0 ∨ clo34.slots.size ≤ ((1 : Int32)).toNatClampNeg) := inb_of So34 ⟨by decide, by decide⟩
    have hato34 : clo34.slots[((1 : Int32)).toNatClampNeg]? = some (.long q1) := Ho34.at hino34 rfl
    have hk35 : q1 = q1 := rfl
    obtain ⟨clo36, Aro36, -, So36, No36, Ho36, -⟩ := id c31
    have hino36 : ¬ ((2 : Int32) < 0 ∨ clo36.slots.size ≤ ((2 : Int32)).toNatClampNeg) := inb_of So36 ⟨by decide, by decide⟩
    have hato36 : clo36.slots[((2 : Int32)).toNatClampNeg]? = some (.long q2) := Ho36.at hino36 rfl
    have hk37 : q2 = q2 := rfl
    have hk38 : gv17 = (0 : Int64) := own_law_no hev8 hcv10 hkv12 hrv15 hgv17 hc70
    obtain ⟨fs, hr, hrun, hended, hW, hsame⟩ := X14.leave (v := some (.int (1 : Int32))) (fun h => by rw [Bd.returns] at h; cases h)
    refine ⟨_, _, pre19 _ ?_, hrun, hended, _, _, rfl, ?_, ⟨_, rfl⟩, hW, hsame.mono (by decide) (by decide)⟩
    ·
      show Steps p.tables e below (T14.setTop (mkF m 70 #[.val (.long q0), .second, .val (.long q1), .second, .val (.long q2), .second, .val (.int p3), .val (.int p4), .val (.int p5), .val (.ref b1), .val (.long ev8), .second, .val (.int cv10), .val (.int kv12), .val (.long rv15), .second, .val (.long gv17), .second, .unset, .unset, .unset] [(.int cv10), (.int kv12)])) _
      refine XS.icmpNo X14.here hx rfl (hb hby at_70) rfl (flt hc70).1 ?_
      show Steps p.tables e below (T14.setTop (mkF m 73 #[.val (.long q0), .second, .val (.long q1), .second, .val (.long q2), .second, .val (.int p3), .val (.int p4), .val (.int p5), .val (.ref b1), .val (.long ev8), .second, .val (.int cv10), .val (.int kv12), .val (.long rv15), .second, .val (.long gv17), .second, .unset, .unset, .unset] [])) _
      refine XS.lconst X14.here hx rfl (hb hby at_73) ?_
      show Steps p.tables e below (T14.setTop (mkF m 74 #[.val (.long q0), .second, .val (.long q1), .second, .val (.long q2), .second, .val (.int p3), .val (.int p4), .val (.int p5), .val (.ref b1), .val (.long ev8), .second, .val (.int cv10), .val (.int kv12), .val (.long rv15), .second, .val (.long gv17), .second, .unset, .unset, .unset] [(.long (0 : Int64))])) _
      refine XS.lstore X14.here hx rfl (hb hby at_74) rfl (l' := #[.val (.long q0), .second, .val (.long q1), .second, .val (.long q2), .second, .val (.int p3), .val (.int p4), .val (.int p5), .val (.ref b1), .val (.long ev8), .second, .val (.int cv10), .val (.int kv12), .val (.long rv15), .second, .val (.long gv17), .second, .val (.long (0 : Int64)), .second, .unset]) rfl ?_
      show Steps p.tables e below (T14.setTop (mkF m 76 #[.val (.long q0), .second, .val (.long q1), .second, .val (.long q2), .second, .val (.int p3), .val (.int p4), .val (.int p5), .val (.ref b1), .val (.long ev8), .second, .val (.int cv10), .val (.int kv12), .val (.long rv15), .second, .val (.long gv17), .second, .val (.long (0 : Int64)), .second, .unset] [])) _
      refine XS.goto X14.here hx rfl (pc0 := 76) (pc' := 92) rfl (hb hby at_76) (by decide) (by decide) ?_
      show Steps p.tables e below (T14.setTop (mkF m 92 #[.val (.long q0), .second, .val (.long q1), .second, .val (.long q2), .second, .val (.int p3), .val (.int p4), .val (.int p5), .val (.ref b1), .val (.long ev8), .second, .val (.int cv10), .val (.int kv12), .val (.long rv15), .second, .val (.long gv17), .second, .val (.long (0 : Int64)), .second, .unset] [])) _
      refine XS.aload X14.here hx rfl (hb hby at_92) rfl rfl ?_
      show Steps p.tables e below (T14.setTop (mkF m 94 #[.val (.long q0), .second, .val (.long q1), .second, .val (.long q2), .second, .val (.int p3), .val (.int p4), .val (.int p5), .val (.ref b1), .val (.long ev8), .second, .val (.int cv10), .val (.int kv12), .val (.long rv15), .second, .val (.long gv17), .second, .val (.long (0 : Int64)), .second, .unset] [(.ref b1)])) _
      refine XS.iconst X14.here hx rfl (hb hby at_94) ?_
      show Steps p.tables e below (T14.setTop (mkF m 95 #[.val (.long q0), .second, .val (.long q1), .second, .val (.long q2), .second, .val (.int p3), .val (.int p4), .val (.int p5), .val (.ref b1), .val (.long ev8), .second, .val (.int cv10), .val (.int kv12), .val (.long rv15), .second, .val (.long gv17), .second, .val (.long (0 : Int64)), .second, .unset] [(.int (0 : Int32)), (.ref b1)])) _
      refine X14.laload hx (j := (0 : Int32)) (v := (.long q0)) Aro32.1 (State.isArrayOf_alike hZ.alike Aro32.2.1) Aro32.2.2 hino32 hato32 (g := (mkF m 95 #[.val (.long q0), .second, .val (.long q1), .second, .val (.long q2), .second, .val (.int p3), .val (.int p4), .val (.int p5), .val (.ref b1), .val (.long ev8), .second, .val (.int cv10), .val (.int kv12), .val (.long rv15), .second, .val (.long gv17), .second, .val (.long (0 : Int64)), .second, .unset] [(.int (0 : Int32)), (.ref b1)])) rfl rfl (hb hby at_95) _ ?_
      show Steps p.tables e below (T14.setTop (mkF m 96 #[.val (.long q0), .second, .val (.long q1), .second, .val (.long q2), .second, .val (.int p3), .val (.int p4), .val (.int p5), .val (.ref b1), .val (.long ev8), .second, .val (.int cv10), .val (.int kv12), .val (.long rv15), .second, .val (.long gv17), .second, .val (.long (0 : Int64)), .second, .unset] [(.long q0)])) _
      refine XS.lloadN X14.here hx rfl (hb hby at_96) rfl ?_
      show Steps p.tables e below (T14.setTop (mkF m 97 #[.val (.long q0), .second, .val (.long q1), .second, .val (.long q2), .second, .val (.int p3), .val (.int p4), .val (.int p5), .val (.ref b1), .val (.long ev8), .second, .val (.int cv10), .val (.int kv12), .val (.long rv15), .second, .val (.long gv17), .second, .val (.long (0 : Int64)), .second, .unset] [(.long q0), (.long q0)])) _
      refine XS.lcmp X14.here hx rfl (hb hby at_97) rfl ?_
      show Steps p.tables e below (T14.setTop (mkF m 98 #[.val (.long q0), .second, .val (.long q1), .second, .val (.long q2), .second, .val (.int p3), .val (.int p4), .val (.int p5), .val (.ref b1), .val (.long ev8), .second, .val (.int cv10), .val (.int kv12), .val (.long rv15), .second, .val (.long gv17), .second, .val (.long (0 : Int64)), .second, .unset] [(.int (lcmpW q0 q0))])) _
      refine XS.ifNo X14.here hx rfl (hb hby at_98) rfl ((if0 _ _).trans (teq ((lw_eq _ _).mpr hk33)).2) ?_
      show Steps p.tables e below (T14.setTop (mkF m 101 #[.val (.long q0), .second, .val (.long q1), .second, .val (.long q2), .second, .val (.int p3), .val (.int p4), .val (.int p5), .val (.ref b1), .val (.long ev8), .second, .val (.int cv10), .val (.int kv12), .val (.long rv15), .second, .val (.long gv17), .second, .val (.long (0 : Int64)), .second, .unset] [])) _
      refine XS.aload X14.here hx rfl (hb hby at_101) rfl rfl ?_
      show Steps p.tables e below (T14.setTop (mkF m 103 #[.val (.long q0), .second, .val (.long q1), .second, .val (.long q2), .second, .val (.int p3), .val (.int p4), .val (.int p5), .val (.ref b1), .val (.long ev8), .second, .val (.int cv10), .val (.int kv12), .val (.long rv15), .second, .val (.long gv17), .second, .val (.long (0 : Int64)), .second, .unset] [(.ref b1)])) _
      refine XS.iconst X14.here hx rfl (hb hby at_103) ?_
      show Steps p.tables e below (T14.setTop (mkF m 104 #[.val (.long q0), .second, .val (.long q1), .second, .val (.long q2), .second, .val (.int p3), .val (.int p4), .val (.int p5), .val (.ref b1), .val (.long ev8), .second, .val (.int cv10), .val (.int kv12), .val (.long rv15), .second, .val (.long gv17), .second, .val (.long (0 : Int64)), .second, .unset] [(.int (1 : Int32)), (.ref b1)])) _
      refine X14.laload hx (j := (1 : Int32)) (v := (.long q1)) Aro34.1 (State.isArrayOf_alike hZ.alike Aro34.2.1) Aro34.2.2 hino34 hato34 (g := (mkF m 104 #[.val (.long q0), .second, .val (.long q1), .second, .val (.long q2), .second, .val (.int p3), .val (.int p4), .val (.int p5), .val (.ref b1), .val (.long ev8), .second, .val (.int cv10), .val (.int kv12), .val (.long rv15), .second, .val (.long gv17), .second, .val (.long (0 : Int64)), .second, .unset] [(.int (1 : Int32)), (.ref b1)])) rfl rfl (hb hby at_104) _ ?_
      show Steps p.tables e below (T14.setTop (mkF m 105 #[.val (.long q0), .second, .val (.long q1), .second, .val (.long q2), .second, .val (.int p3), .val (.int p4), .val (.int p5), .val (.ref b1), .val (.long ev8), .second, .val (.int cv10), .val (.int kv12), .val (.long rv15), .second, .val (.long gv17), .second, .val (.long (0 : Int64)), .second, .unset] [(.long q1)])) _
      refine XS.lloadN X14.here hx rfl (hb hby at_105) rfl ?_
      show Steps p.tables e below (T14.setTop (mkF m 106 #[.val (.long q0), .second, .val (.long q1), .second, .val (.long q2), .second, .val (.int p3), .val (.int p4), .val (.int p5), .val (.ref b1), .val (.long ev8), .second, .val (.int cv10), .val (.int kv12), .val (.long rv15), .second, .val (.long gv17), .second, .val (.long (0 : Int64)), .second, .unset] [(.long q1), (.long q1)])) _
      refine XS.lcmp X14.here hx rfl (hb hby at_106) rfl ?_
      show Steps p.tables e below (T14.setTop (mkF m 107 #[.val (.long q0), .second, .val (.long q1), .second, .val (.long q2), .second, .val (.int p3), .val (.int p4), .val (.int p5), .val (.ref b1), .val (.long ev8), .second, .val (.int cv10), .val (.int kv12), .val (.long rv15), .second, .val (.long gv17), .second, .val (.long (0 : Int64)), .second, .unset] [(.int (lcmpW q1 q1))])) _
      refine XS.ifNo X14.here hx rfl (hb hby at_107) rfl ((if0 _ _).trans (teq ((lw_eq _ _).mpr hk35)).2) ?_
      show Steps p.tables e below (T14.setTop (mkF m 110 #[.val (.long q0), .second, .val (.long q1), .second, .val (.long q2), .second, .val (.int p3), .val (.int p4), .val (.int p5), .val (.ref b1), .val (.long ev8), .second, .val (.int cv10), .val (.int kv12), .val (.long rv15), .second, .val (.long gv17), .second, .val (.long (0 : Int64)), .second, .unset] [])) _
      refine XS.aload X14.here hx rfl (hb hby at_110) rfl rfl ?_
      show Steps p.tables e below (T14.setTop (mkF m 112 #[.val (.long q0), .second, .val (.long q1), .second, .val (.long q2), .second, .val (.int p3), .val (.int p4), .val (.int p5), .val (.ref b1), .val (.long ev8), .second, .val (.int cv10), .val (.int kv12), .val (.long rv15), .second, .val (.long gv17), .second, .val (.long (0 : Int64)), .second, .unset] [(.ref b1)])) _
      refine XS.iconst X14.here hx rfl (hb hby at_112) ?_
      show Steps p.tables e below (T14.setTop (mkF m 113 #[.val (.long q0), .second, .val (.long q1), .second, .val (.long q2), .second, .val (.int p3), .val (.int p4), .val (.int p5), .val (.ref b1), .val (.long ev8), .second, .val (.int cv10), .val (.int kv12), .val (.long rv15), .second, .val (.long gv17), .second, .val (.long (0 : Int64)), .second, .unset] [(.int (2 : Int32)), (.ref b1)])) _
      refine X14.laload hx (j := (2 : Int32)) (v := (.long q2)) Aro36.1 (State.isArrayOf_alike hZ.alike Aro36.2.1) Aro36.2.2 hino36 hato36 (g := (mkF m 113 #[.val (.long q0), .second, .val (.long q1), .second, .val (.long q2), .second, .val (.int p3), .val (.int p4), .val (.int p5), .val (.ref b1), .val (.long ev8), .second, .val (.int cv10), .val (.int kv12), .val (.long rv15), .second, .val (.long gv17), .second, .val (.long (0 : Int64)), .second, .unset] [(.int (2 : Int32)), (.ref b1)])) rfl rfl (hb hby at_113) _ ?_
      show Steps p.tables e below (T14.setTop (mkF m 114 #[.val (.long q0), .second, .val (.long q1), .second, .val (.long q2), .second, .val (.int p3), .val (.int p4), .val (.int p5), .val (.ref b1), .val (.long ev8), .second, .val (.int cv10), .val (.int kv12), .val (.long rv15), .second, .val (.long gv17), .second, .val (.long (0 : Int64)), .second, .unset] [(.long q2)])) _
      refine XS.lload X14.here hx rfl (hb hby at_114) rfl ?_
      show Steps p.tables e below (T14.setTop (mkF m 116 #[.val (.long q0), .second, .val (.long q1), .second, .val (.long q2), .second, .val (.int p3), .val (.int p4), .val (.int p5), .val (.ref b1), .val (.long ev8), .second, .val (.int cv10), .val (.int kv12), .val (.long rv15), .second, .val (.long gv17), .second, .val (.long (0 : Int64)), .second, .unset] [(.long q2), (.long q2)])) _
      refine XS.lcmp X14.here hx rfl (hb hby at_116) rfl ?_
      show Steps p.tables e below (T14.setTop (mkF m 117 #[.val (.long q0), .second, .val (.long q1), .second, .val (.long q2), .second, .val (.int p3), .val (.int p4), .val (.int p5), .val (.ref b1), .val (.long ev8), .second, .val (.int cv10), .val (.int kv12), .val (.long rv15), .second, .val (.long gv17), .second, .val (.long (0 : Int64)), .second, .unset] [(.int (lcmpW q2 q2))])) _
      refine XS.ifNo X14.here hx rfl (hb hby at_117) rfl ((if0 _ _).trans (teq ((lw_eq _ _).mpr hk37)).2) ?_
      show Steps p.tables e below (T14.setTop (mkF m 120 #[.val (.long q0), .second, .val (.long q1), .second, .val (.long q2), .second, .val (.int p3), .val (.int p4), .val (.int p5), .val (.ref b1), .val (.long ev8), .second, .val (.int cv10), .val (.int kv12), .val (.long rv15), .second, .val (.long gv17), .second, .val (.long (0 : Int64)), .second, .unset] [])) _
      refine XS.iconst X14.here hx rfl (hb hby at_120) ?_
      show Steps p.tables e below (T14.setTop (mkF m 121 #[.val (.long q0), .second, .val (.long q1), .second, .val (.long q2), .second, .val (.int p3), .val (.int p4), .val (.int p5), .val (.ref b1), .val (.long ev8), .second, .val (.int cv10), .val (.int kv12), .val (.long rv15), .second, .val (.long gv17), .second, .val (.long (0 : Int64)), .second, .unset] [(.int (1 : Int32))])) _
      refine XS.goto X14.here hx rfl (pc0 := 121) (pc' := 125) rfl (hb hby at_121) (by decide) (by decide) ?_
      show Steps p.tables e below (T14.setTop (mkF m 125 #[.val (.long q0), .second, .val (.long q1), .second, .val (.long q2), .second, .val (.int p3), .val (.int p4), .val (.int p5), .val (.ref b1), .val (.long ev8), .second, .val (.int cv10), .val (.int kv12), .val (.long rv15), .second, .val (.long gv17), .second, .val (.long (0 : Int64)), .second, .unset] [(.int (1 : Int32))])) _
      refine XS.istore X14.here hx rfl (hb hby at_125) rfl (l' := #[.val (.long q0), .second, .val (.long q1), .second, .val (.long q2), .second, .val (.int p3), .val (.int p4), .val (.int p5), .val (.ref b1), .val (.long ev8), .second, .val (.int cv10), .val (.int kv12), .val (.long rv15), .second, .val (.long gv17), .second, .val (.long (0 : Int64)), .second, .val (.int (1 : Int32))]) rfl ?_
      show Steps p.tables e below (T14.setTop (mkF m 127 #[.val (.long q0), .second, .val (.long q1), .second, .val (.long q2), .second, .val (.int p3), .val (.int p4), .val (.int p5), .val (.ref b1), .val (.long ev8), .second, .val (.int cv10), .val (.int kv12), .val (.long rv15), .second, .val (.long gv17), .second, .val (.long (0 : Int64)), .second, .val (.int (1 : Int32))] [])) _
      refine XS.lload X14.here hx rfl (hb hby at_127) rfl ?_
      show Steps p.tables e below (T14.setTop (mkF m 129 #[.val (.long q0), .second, .val (.long q1), .second, .val (.long q2), .second, .val (.int p3), .val (.int p4), .val (.int p5), .val (.ref b1), .val (.long ev8), .second, .val (.int cv10), .val (.int kv12), .val (.long rv15), .second, .val (.long gv17), .second, .val (.long (0 : Int64)), .second, .val (.int (1 : Int32))] [(.long gv17)])) _
      refine XS.lload X14.here hx rfl (hb hby at_129) rfl ?_
      show Steps p.tables e below (T14.setTop (mkF m 131 #[.val (.long q0), .second, .val (.long q1), .second, .val (.long q2), .second, .val (.int p3), .val (.int p4), .val (.int p5), .val (.ref b1), .val (.long ev8), .second, .val (.int cv10), .val (.int kv12), .val (.long rv15), .second, .val (.long gv17), .second, .val (.long (0 : Int64)), .second, .val (.int (1 : Int32))] [(.long (0 : Int64)), (.long gv17)])) _
      refine XS.lcmp X14.here hx rfl (hb hby at_131) rfl ?_
      show Steps p.tables e below (T14.setTop (mkF m 132 #[.val (.long q0), .second, .val (.long q1), .second, .val (.long q2), .second, .val (.int p3), .val (.int p4), .val (.int p5), .val (.ref b1), .val (.long ev8), .second, .val (.int cv10), .val (.int kv12), .val (.long rv15), .second, .val (.long gv17), .second, .val (.long (0 : Int64)), .second, .val (.int (1 : Int32))] [(.int (lcmpW gv17 (0 : Int64)))])) _
      refine XS.ifNo X14.here hx rfl (hb hby at_132) rfl ((if0 _ _).trans (teq ((lw_eq _ _).mpr hk38)).2) ?_
      show Steps p.tables e below (T14.setTop (mkF m 135 #[.val (.long q0), .second, .val (.long q1), .second, .val (.long q2), .second, .val (.int p3), .val (.int p4), .val (.int p5), .val (.ref b1), .val (.long ev8), .second, .val (.int cv10), .val (.int kv12), .val (.long rv15), .second, .val (.long gv17), .second, .val (.long (0 : Int64)), .second, .val (.int (1 : Int32))] [])) _
      refine XS.iload X14.here hx rfl (hb hby at_135) rfl ?_
      show Steps p.tables e below (T14.setTop (mkF m 137 #[.val (.long q0), .second, .val (.long q1), .second, .val (.long q2), .second, .val (.int p3), .val (.int p4), .val (.int p5), .val (.ref b1), .val (.long ev8), .second, .val (.int cv10), .val (.int kv12), .val (.long rv15), .second, .val (.long gv17), .second, .val (.long (0 : Int64)), .second, .val (.int (1 : Int32))] [(.int (1 : Int32))])) _
      refine XS.ifNo X14.here hx rfl (hb hby at_137) rfl ((if0 _ _).trans (feq (by decide : ¬ ((1 : Int32) = (0 : Int32)))).1) ?_
      show Steps p.tables e below (T14.setTop (mkF m 140 #[.val (.long q0), .second, .val (.long q1), .second, .val (.long q2), .second, .val (.int p3), .val (.int p4), .val (.int p5), .val (.ref b1), .val (.long ev8), .second, .val (.int cv10), .val (.int kv12), .val (.long rv15), .second, .val (.long gv17), .second, .val (.long (0 : Int64)), .second, .val (.int (1 : Int32))] [])) _
      refine XS.iconst X14.here hx rfl (hb hby at_140) ?_
      show Steps p.tables e below (T14.setTop (mkF m 141 #[.val (.long q0), .second, .val (.long q1), .second, .val (.long q2), .second, .val (.int p3), .val (.int p4), .val (.int p5), .val (.ref b1), .val (.long ev8), .second, .val (.int cv10), .val (.int kv12), .val (.long rv15), .second, .val (.long gv17), .second, .val (.long (0 : Int64)), .second, .val (.int (1 : Int32))] [(.int (1 : Int32))])) _
      refine XS.goto X14.here hx rfl (pc0 := 141) (pc' := 145) rfl (hb hby at_141) (by decide) (by decide) ?_
      show Steps p.tables e below (T14.setTop (mkF m 145 #[.val (.long q0), .second, .val (.long q1), .second, .val (.long q2), .second, .val (.int p3), .val (.int p4), .val (.int p5), .val (.ref b1), .val (.long ev8), .second, .val (.int cv10), .val (.int kv12), .val (.long rv15), .second, .val (.long gv17), .second, .val (.long (0 : Int64)), .second, .val (.int (1 : Int32))] [(.int (1 : Int32))])) _
      exact retN X14 hx (t := .boolean) Bd.returns (by simp) (hb hby at_145) hr
    ·
      show Q0 Z q0 q1 q2 p3 p4 p5 h0 n0 _ T14.heap _
      exact ⟨rfl, N14⟩
set_option maxRecDepth 65536 in
set_option maxHeartbeats 40000000 in
theorem comes_1 {Post : Tables → Env → Array Value → State → Outcome → State → Prop} (hpost : ∀ tb e args s v u, (limb_1_1.after args s (.returned v) u = true ∧ limb_1_2.after args s (.returned v) u = true ∧ True) → FrameEnd s (.returned v) u (Jvm.fieldLocs frame_1_writes args s ++ Jvm.arrayLocs frame_1_arrays args s ++ Jvm.staticLocs frame_1_statics s) 16 128 → Post tb e args s (.returned v) u) :
    ArmFor flags0 classFile x code maxLocals ret World_1 tables_1 room_1 Calls_1 rest_1 Pre_1 Post := by
  intro l hfl _ _ p e ha hc hk s m args below hf hA hF happ hP
  obtain ⟨hcalls, hrest, hpre⟩ := hP
  obtain ⟨-, -, -, hnamed, -, -, -, hat⟩ := (Spec.applies_iff hf).mp happ
  obtain ⟨hg, hn⟩ := and_e (Cond.before_iff.mp (show (Jvm.Cond.and given_1 narrow_1).before args s = true from hpre))
  obtain ⟨g1, g2⟩ := and_e hg
  obtain ⟨g3, g4⟩ := and_e g2
  obtain ⟨g5, g6⟩ := and_e g4
  obtain ⟨g7, g8⟩ := and_e g6
  obtain ⟨g9, g10⟩ := and_e g8
  obtain ⟨g11, g12⟩ := and_e g10
  obtain ⟨w0, w1, w2, w3, w4, w5, rfl⟩ : ∃ w0 w1 w2 w3 w4 w5 : Value, args = #[w0, w1, w2, w3, w4, w5] := by
    have hs : args.size = 6 := by simpa [Cond.value, given_1] using g1
    obtain ⟨L⟩ := args
    match L, hs with
    | [w0, w1, w2, w3, w4, w5], _ => exact ⟨w0, w1, w2, w3, w4, w5, rfl⟩
  have hw := fun d (hd : d ∈ tables_1) => atoms_spec (ws := Jvm.Cond.code x code maxLocals ret :: tables_1) hat d (List.mem_cons_of_mem _ hd)
  have hfit : Fit s := fun {y c} hc i hi => by
    obtain ⟨ha, rfl⟩ := Array.getElem?_eq_some_iff.mp hc
    have q := List.all_eq_true.mp ((Array.all_eq_true_iff_forall_mem.mp hF) _ (Array.getElem_mem ha)) i (List.mem_range.mpr hi)
    simpa [Array.getElem?_eq_getElem hi] using q
  obtain ⟨i0, ei0⟩ := isL_v g3
  obtain rfl : w0 = (.long i0) := Option.some.inj ei0
  obtain ⟨i1, ei1⟩ := isL_v g5
  obtain rfl : w1 = (.long i1) := Option.some.inj ei1
  obtain ⟨i2, ei2⟩ := isL_v g7
  obtain rfl : w2 = (.long i2) := Option.some.inj ei2
  obtain ⟨i3, ei3⟩ := is_v g9
  obtain rfl : w3 = (.int i3) := Option.some.inj ei3
  obtain ⟨i4, ei4⟩ := is_v g11
  obtain rfl : w4 = (.int i4) := Option.some.inj ei4
  obtain ⟨i5, ei5⟩ := is_v g12
  obtain rfl : w5 = (.int i5) := Option.some.inj ei5
  obtain ⟨n, o, h1, h2, h3, _, L, rfl, ⟨rfl, N⟩, hq⟩ := rm0 l s _ hw tables_1 i0 i1 i2 i3 i4 i5 s.heap s.heap.size (Nat.le_refl _) p e ha hc hk s m _ below hf ((Spec.applies_iff_loose hf).mp happ).1 ⟨rfl, State.Warmed39.refl s, rfl⟩ trivial
  refine ⟨n, _, h1, h2, h3, hpost _ _ _ _ _ _ ⟨Cond.after_iff.mpr rfl, Cond.after_iff.mpr (eq_i res_at (Term.int_eval (1)) rfl), trivial⟩ ⟨hq.1, hq.2.1, (hq.2.2.sift fun y hy => Or.inr (N y hy)).mono (by decide) (by decide)⟩⟩
theorem main_1_1 : Claimed_1_1 := comes_1 fun _ _ _ _ _ _ h hF => ⟨h.1, hF⟩
theorem main_1_2 : Claimed_1_2 := comes_1 fun _ _ _ _ _ _ h hF => ⟨h.2.1, hF⟩
end Jvm.Pilot.@@N@@
namespace Jvm.Pilot.@@N@@
open Jvm Jvm.ClassFile Sem Op Lib Jvm.Free Jvm.Stand Jvm.Pilot.@@N@@.Jvm.D
/-! MADE BY PROGRAM (witnessworld.py) out of the Statement's table words and the real class files: 11 classes; the members and pool entries that the words name. The judged class is class 1, her method 2. -/
namespace start1
open Jvm.ClassFile
def u (s : String) : CpInfo := .utf8 (stringToUtf16 s)
/-- a pool by its gaps: so many unusable entries, then the entry; so many at the end -/
def gap : Nat → List CpInfo → List CpInfo
  | 0, r => r
  | n + 1, r => .unusable :: gap n r
def poolList (es : List (Nat × CpInfo)) (last : Nat) : List CpInfo := es.foldr (fun e r => gap e.1 (e.2 :: r)) (gap last [])
def pool (es : List (Nat × CpInfo)) (last : Nat) : Array CpInfo := ⟨poolList es last⟩
def fileOf (pool : Array CpInfo) (this : Nat) (attrs : Array Attribute := #[]) (ms : Array MethodInfo := #[]) (fl : Nat := 33) (sup : Nat := 0) (ifs : Array Nat := #[]) (fds : Array FieldInfo := #[]) : ClassFile where
  minorVersion := 0
  majorVersion := 65
  constantPool := pool
  accessFlags := fl
  thisClass := this
  superClass := sup
  interfaces := ifs
  fields := fds
  methods := ms
  attributes := attrs
def plain (name : String) (sup : Option ClassId) : Class where
  name := name
  kind := .ordinary
  loader := none
  accessFlags := 33
  super := sup
  interfaces := #[]
  cf := none
  fields := #[]
  methods := #[]
  instanceTypes := #[]
  staticTypes := #[]
  resolved := #[]
  callSites := []
  init := .initialized
  statics := none
  mirror := none

def pool0 : Array CpInfo := pool [(5, u "<init>"), (0, u "()V"), (1, .class_ 10), (1, u "java/lang/Object")] 113

def k0m0 : Method := { name := "<init>", desc := "()V", sig := { parameters := [], returnType := none }, accessFlags := 1, code := none }
/-- java/lang/Object -/
def k0 : Class := { plain "java/lang/Object" none with
  accessFlags := 33
  interfaces := #[]
  cf := some (fileOf pool0 8 #[] #[{ accessFlags := 1, nameIndex := 5, descriptorIndex := 6, attributes := #[] }] 33 0 #[] #[])
  fields := #[]
  methods := #[k0m0]
  instanceTypes := #[]
  staticTypes := #[]
  resolved := Array.replicate 124 none
  statics := none }

def pool1 : Array CpInfo := pool [(2, .class_ 4), (1, u "java/lang/Object"), (0, u "<init>"), (0, u "()V"), (0, .long 63), (1, .integer 2147483647), (0, .methodref 11 12), (0, .class_ 13), (0, .nameAndType 14 15), (0, u "com/example/bitmend/bitmend/Bits"), (0, u "read"), (0, u "([JJI)J"), (0, .methodref 17 18), (0, .class_ 19), (0, .nameAndType 20 21), (0, u "com/example/bitmend/bitmend/BitsReadPinLaw"), (0, u "bitAt"), (0, u "([JJ)J"), (2, u "law"), (0, u "(JJJIII)Z")] 5

def k1m0 : Method := { name := "<init>", desc := "()V", sig := { parameters := [], returnType := none }, accessFlags := 2, code := none }
def k1c1 : Code := { maxStack := 6, maxLocals := 3, code := method_2_code, exceptionTable := #[], attributes := #[] }
def k1m1 : Method := { name := "bitAt", desc := "([JJ)J", sig := { parameters := [(.array .long), .long], returnType := some .long }, accessFlags := 10, code := some k1c1 }
def k1c2 : Code := { maxStack := 5, maxLocals := 21, code := code, exceptionTable := #[], attributes := #[] }
def k1m2 : Method := { name := "law", desc := "(JJJIII)Z", sig := { parameters := [.long, .long, .long, .int, .int, .int], returnType := some .boolean }, accessFlags := 9, code := some k1c2 }
/-- com/example/bitmend/bitmend/BitsReadPinLaw -/
def k1 : Class := { plain "com/example/bitmend/bitmend/BitsReadPinLaw" (some 0) with
  accessFlags := 49
  interfaces := #[]
  cf := some (fileOf pool1 17 #[] #[{ accessFlags := 2, nameIndex := 5, descriptorIndex := 6, attributes := #[] }, { accessFlags := 10, nameIndex := 20, descriptorIndex := 21, attributes := #[] }, { accessFlags := 9, nameIndex := 24, descriptorIndex := 25, attributes := #[] }] 49 2 #[] #[])
  fields := #[]
  methods := #[k1m0, k1m1, k1m2]
  instanceTypes := #[]
  staticTypes := #[]
  resolved := Array.replicate 31 none
  statics := none }

def pool2 : Array CpInfo := pool [(2, .class_ 4), (1, u "java/lang/Object"), (0, u "<init>"), (0, u "()V"), (1, .class_ 10), (1, u "com/example/bitmend/bitmend/Bits"), (2, .long 63), (13, u "read"), (0, u "([JJI)J"), (7, u "PLACES_WITH_BIT"), (0, u "[J")] 34

def k2m0 : Method := { name := "<init>", desc := "()V", sig := { parameters := [], returnType := none }, accessFlags := 2, code := none }
def k2c1 : Code := { maxStack := 6, maxLocals := 8, code := prog_5_method_7_code, exceptionTable := #[], attributes := #[] }
def k2m1 : Method := { name := "read", desc := "([JJI)J", sig := { parameters := [(.array .long), .long, .int], returnType := some .long }, accessFlags := 8, code := some k2c1 }
/-- com/example/bitmend/bitmend/Bits -/
def k2 : Class := { plain "com/example/bitmend/bitmend/Bits" (some 0) with
  accessFlags := 48
  interfaces := #[]
  cf := some (fileOf pool2 8 #[] #[{ accessFlags := 2, nameIndex := 5, descriptorIndex := 6, attributes := #[] }, { accessFlags := 8, nameIndex := 27, descriptorIndex := 28, attributes := #[] }] 48 2 #[] #[{ accessFlags := 26, nameIndex := 36, descriptorIndex := 37, attributes := #[] }])
  fields := #[{ name := "PLACES_WITH_BIT", type := (.array .long), accessFlags := 26, slot := 0, constantValue := 0 }]
  methods := #[k2m0, k2m1]
  instanceTypes := #[]
  staticTypes := #[(.array .long)]
  resolved := Array.replicate 72 none
  statics := none }

def pool3 : Array CpInfo := pool [(1, u "java/lang/Cloneable"), (0, .class_ 1), (0, u "java/lang/Object"), (0, .class_ 3)] 3

/-- java/lang/Cloneable -/
def k3 : Class := { plain "java/lang/Cloneable" (some 0) with
  accessFlags := 1537
  interfaces := #[]
  cf := some (fileOf pool3 2 #[] #[] 1537 4 #[] #[])
  fields := #[]
  methods := #[]
  instanceTypes := #[]
  staticTypes := #[]
  resolved := Array.replicate 8 none
  statics := none }

def pool4 : Array CpInfo := pool [(1, u "java/io/Serializable"), (0, .class_ 1), (0, u "java/lang/Object"), (0, .class_ 3)] 3

/-- java/io/Serializable -/
def k4 : Class := { plain "java/io/Serializable" (some 0) with
  accessFlags := 1537
  interfaces := #[]
  cf := some (fileOf pool4 2 #[] #[] 1537 4 #[] #[])
  fields := #[]
  methods := #[]
  instanceTypes := #[]
  staticTypes := #[]
  resolved := Array.replicate 8 none
  statics := none }

/-- the primitive byte -/
def k5 : Class := { plain "byte" none with kind := .primitive 'B', accessFlags := 0x411 }
/-- [B -/
def k6 : Class := { plain "[B" (some 0) with kind := .array 5 .byte, interfaces := #[3, 4], accessFlags := 1041 }

/-- the primitive int -/
def k7 : Class := { plain "int" none with kind := .primitive 'I', accessFlags := 0x411 }
/-- [I -/
def k8 : Class := { plain "[I" (some 0) with kind := .array 7 .int, interfaces := #[3, 4], accessFlags := 1041 }

/-- the primitive long -/
def k9 : Class := { plain "long" none with kind := .primitive 'J', accessFlags := 0x411 }
/-- [J -/
def k10 : Class := { plain "[J" (some 0) with kind := .array 9 .long, interfaces := #[3, 4], accessFlags := 1041 }

def heap : Heap := #[]
def classes : Array Class := #[k0, k1, k2, k3, k4, k5, k6, k7, k8, k9, k10]
def interned : List (Array UInt16 × Addr) := []
def slotsUsed : Nat := 0
def theMethod : MethodId := ⟨1, 2⟩
def args0 : Array Value := #[.long 1, .long 2, .long 3, .int 4, .int 5, .int 6]
def aboutOver (below : List Frame) : State where
  vm := { classes := classes, interned := interned.toArray }
  heap := heap
  slotsUsed := slotsUsed
  threads := #[{ frames := .invoking theMethod args0 :: below }]
def below0 : List Frame := [.native { method := ⟨0, 0⟩, args := #[] }]
def about1 : State := aboutOver below0
def p0 : Program := .bare "" "" ""
def e0 : Env := launch0.env 0 0 0
theorem w_frames : about1.frames = Frame.invoking theMethod args0 :: below0 := rfl
set_option maxRecDepth 65536 in
theorem w_args : argsFit about1.vm theMethod args0 = true := by decide +kernel
set_option maxRecDepth 65536 in
theorem w_heap : heapFits about1 = true := by decide +kernel
set_option maxRecDepth 65536 in
theorem w_runnable : about1.curStatus? = some .runnable := by decide +kernel
set_option maxRecDepth 65536 in
theorem w_alone : about1.alone = true := by decide +kernel
set_option maxRecDepth 65536 in
theorem w_named : about1.methodNamed? x = some theMethod := by decide +kernel
set_option maxRecDepth 65536 in
theorem w_hears : about1.hears theMethod below0 = true := by decide +kernel
set_option maxRecDepth 65536 in
theorem w_ripe : about1.ripe theMethod args0 below0 = true := by decide +kernel
theorem w_running : about1.status = .running := rfl
set_option maxRecDepth 65536 in
theorem w_room : about1.hasRoom e0.platform room_1 = true :=
  launch0.hasRoom_least _ room_1 (by decide +kernel) (by decide +kernel) (by decide +kernel) (by decide +kernel) (by decide +kernel) (by decide +kernel)
theorem allAtoms_all (ts : List Jvm.Cond) (a : Array Jvm.Value) (st : Jvm.State) : (allAtoms ts).before a st = ts.all (fun c => c.before a st) := by
  induction ts with
  | nil => rfl
  | cons c t ih =>
    show (Jvm.Cond.and c (allAtoms t)).before a st = _
    rw [Jvm.Cond.before_and, ih, List.all_cons]
def words1 : List Jvm.Cond := Jvm.Cond.code x code maxLocals ret :: tables_1
/-- a 'code' word, met by the world's own term for the bytes: nothing is compared byte by byte -/
theorem code_word {y : MethodName} {bytes : ByteArray} {mx : Nat} {rt : Option FieldType} {a : Array Value} {s : State} {m : MethodId} {meth : Method} {c : Code} (h1 : s.methodNamed? y = some m) (h2 : s.vm.method? m = some meth) (h3 : meth.code = some c) (h4 : c.code = bytes)
    (h5 : (c.maxLocals == mx && c.exceptionTable.isEmpty && decide (c.maxStack ≤ mostOperands) && decide (meth.sig.returnType = rt) && !meth.locks && decide (parseMethodDescriptor y.desc = some meth.sig)) = true) : (Jvm.Cond.code y bytes mx rt).before a s = true := by
  simp only [Bool.and_eq_true, beq_iff_eq, Bool.not_eq_true', decide_eq_true_eq] at h5
  obtain ⟨⟨⟨⟨⟨g1, g2⟩, g3⟩, g4⟩, g5⟩, g6⟩ := h5
  simp [Cond.before, Cond.holds, Cond.value, h1, h2, h3, h4, g1, g2, g3, g4, g5, g6]
def isCode : Jvm.Cond → Bool
  | .code _ _ _ _ => true
  | _ => false
theorem all_split {L : List Jvm.Cond} {P : Jvm.Cond → Bool} (h1 : L.all (fun c => isCode c || P c) = true) (h2 : ∀ c ∈ L.filter isCode, P c = true) : L.all P = true := by
  refine List.all_eq_true.mpr fun c hc => ?_
  have h := List.all_eq_true.mp h1 c hc
  rcases Bool.eq_false_or_eq_true (isCode c) with hi | hi
  · exact h2 c (List.mem_filter.mpr ⟨hc, hi⟩)
  · simpa [hi] using h
set_option maxRecDepth 65536 in
theorem w_c0 : (Jvm.Cond.code x code maxLocals ret).before args0 about1 = true := code_word (m := ⟨1, 2⟩) (meth := k1m2) (c := k1c2) (by decide +kernel) rfl rfl rfl (by decide +kernel)
set_option maxRecDepth 65536 in
theorem w_c1 : (Jvm.Cond.code ({ cls := "com/example/bitmend/bitmend/Bits", name := "read", desc := "([JJI)J" } : Jvm.MethodName) prog_5_method_7_code (8 : Nat) (Option.some Jvm.ClassFile.FieldType.long)).before args0 about1 = true := code_word (m := ⟨2, 1⟩) (meth := k2m1) (c := k2c1) (by decide +kernel) rfl rfl rfl (by decide +kernel)
set_option maxRecDepth 65536 in
theorem w_c2 : (Jvm.Cond.code ({ cls := "com/example/bitmend/bitmend/BitsReadPinLaw", name := "bitAt", desc := "([JJ)J" } : Jvm.MethodName) method_2_code (3 : Nat) (Option.some Jvm.ClassFile.FieldType.long)).before args0 about1 = true := code_word (m := ⟨1, 1⟩) (meth := k1m1) (c := k1c1) (by decide +kernel) rfl rfl rfl (by decide +kernel)
def codes1 : List Jvm.Cond := [Jvm.Cond.code x code maxLocals ret, Jvm.Cond.code ({ cls := "com/example/bitmend/bitmend/Bits", name := "read", desc := "([JJI)J" } : Jvm.MethodName) prog_5_method_7_code (8 : Nat) (Option.some Jvm.ClassFile.FieldType.long), Jvm.Cond.code ({ cls := "com/example/bitmend/bitmend/BitsReadPinLaw", name := "bitAt", desc := "([JJ)J" } : Jvm.MethodName) method_2_code (3 : Nat) (Option.some Jvm.ClassFile.FieldType.long)]
set_option maxRecDepth 65536 in
theorem codes_eq : words1.filter isCode = codes1 := rfl
theorem w_codes : ∀ c ∈ words1.filter isCode, c.before args0 about1 = true := by
  rw [codes_eq]
  intro c hc
  simp only [codes1, List.mem_cons, List.not_mem_nil, or_false] at hc
  rcases hc with rfl | rfl | rfl
  · exact w_c0
  · exact w_c1
  · exact w_c2
set_option maxRecDepth 65536 in
theorem w_t1 : words1.all (fun c => isCode c || c.before args0 about1) = true := by decide +kernel
theorem w_tables : (allAtoms (Jvm.Cond.code x code maxLocals ret :: tables_1)).before args0 about1 = true := by
  rw [allAtoms_all]
  show words1.all (fun c => c.before args0 about1) = true
  refine all_split ?_ w_codes
  rw [w_t1]
set_option maxRecDepth 65536 in
theorem w_case : (Jvm.Cond.and given_1 narrow_1).before args0 about1 = true := by decide +kernel
theorem w_applies : (headSpec (Jvm.Cond.code x code maxLocals ret :: tables_1) room_1).applies x e0.platform about1 = true :=
  (Spec.applies_iff w_frames).mpr ⟨w_running, w_runnable, w_alone, w_named, w_hears, w_ripe, w_room, w_tables⟩
theorem atStart : AtStart classFile x code maxLocals ret World_1 tables_1 room_1 Calls_1 rest_1 Pre_1 launch0 p0 e0 about1 theMethod args0 below0 :=
  ⟨lists_1, trivial, launch0.admits_env _ _ _, launch0.least_env, fairChoices_fair.cas, fairChoices_fair.clock, w_frames, w_args, w_heap, w_applies, trivial, trivial, w_case⟩
end start1
theorem witness_1 : WitnessClaimed_1 := ⟨start1.p0, start1.e0, start1.about1, start1.theMethod, start1.args0, start1.below0, start1.atStart⟩
end Jvm.Pilot.@@N@@
