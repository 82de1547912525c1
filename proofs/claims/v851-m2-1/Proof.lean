import JvmDerived
import JvmDerived.Pilot.@@N@@Statement
import JvmDerived.Pilot.@@N@@Code
set_option linter.unusedVariables false
set_option linter.unusedSimpArgs false
namespace Jvm.RoadKit
open Sem ClassFile Op Lib Jvm.Stand Jvm.Free Jvm.LawKit
section New
variable {p : Program} {l : Launch} {e : Env} {R : Room} {s : State} {m : MethodId} {args : Array Value} {below : List Frame} {meth : Method} {c : Code} {T : State} {locs : List Loc} {cells slots : Nat}
theorem retI (X : Stand p l e R s m args below meth c T locs cells slots) (hx : p.tables.exec = Jvm.exec) {pc : Nat} {Ls : Array Slot} {z : Int32} {rest : List Value} (hret : meth.sig.returnType = some .int) (hd : decode c.code pc = .ok (.ireturn, 1)) {fs : List Frame}
    (hl : ∀ (f : JFrame) (acts : List Action), f.method = m → f.locked = none → f.entered = [] → (doReturn e (T.setTop f) acts (some (.int z))).1 = T.setFrames fs) : Steps p.tables e below (T.setTop (mkF m pc Ls (.int z :: rest))) (T.setFrames fs) := by
  have hm' : T.vm.method? m = some meth := X.method'
  have hn : narrow .int (.int z) = .int z := rfl
  show Steps p.tables e below (T.setTop { method := m, pc := pc, locals := Ls, stack := _ :: rest, locked := none }) _
  jvm_step X.here [X.here.top, hx, hd, hm', hret, hn]
  first | (intro acts; rw [hl _ acts rfl rfl rfl]) | rw [hl _ _ rfl rfl rfl]
  exact Steps.refl _
end New
end Jvm.RoadKit
/- laws to paste: Road.backV, Road.lenW, Road.chN, Road.codOf (cut by pick.py; bodies as the Statement names them) -/
namespace Jvm.Pilot.@@N@@
namespace StrChars
open Jvm Sem ClassFile Op Lib Jvm.Stand Jvm.Free.XT Jvm.Free.ALB Jvm.Free.JM Jvm.Free
open Jvm.Lib.Cold (StaticIs)
/-- a char array whose places are chars -/
def Ch (a : Addr) (A : Cell) (U : State) : Prop := Arr .char a A U ∧ Typed .char A
theorem Ch.mv {a : Addr} {A : Cell} {U U' : State} (h : Ch a A U) (hal : U.vm.Alike U'.vm) (hh : U'.heap = U.heap) : Ch a A U' := ⟨h.1.mv hal hh, h.2⟩
theorem Ch.keep {a : Addr} {A : Cell} {U U' : State} (h : Ch a A U) (hal : U.vm.Alike U'.vm) (hk : U'.heap[a]? = some A) : Ch a A U' := ⟨h.1.keep hal hk, h.2⟩
/-- what place i of a char[]'s cell holds -/
def cv (A : Cell) (i : Nat) : Int32 := match A.slots[i]? with | some (.int x) => x | _ => 0
theorem Ch.get {a : Addr} {A : Cell} {U : State} (h : Ch a A U) {i : Nat} (hi : i < A.slots.size) : A.slots[i]? = some (.int (cv A i)) := by
  have e := Array.getElem?_eq_getElem hi
  have f := h.2 i _ e
  unfold cv; rw [e]
  generalize A.slots[i] = v at f
  cases v <;> simp [fits] at f ⊢
/-- the byte that i2b leaves of a char -/
def lo8 (x : Int32) : Int32 := x.toInt8.toInt32
theorem fits_lo8 (y : Int32) : fits .byte (.int (lo8 y)) = true := by
  have h1 := y.toInt8.le_toInt
  have h2 := y.toInt8.toInt_lt
  simp only [lo8, fits, Bool.and_eq_true, decide_eq_true_eq, Int32.le_iff_toInt_le, Int8.toInt_toInt32, show (-128 : Int32).toInt = -128 from by decide, show (127 : Int32).toInt = 127 from by decide]
  omega
/-- A' is A but that each place j of lo .. hi - 1 holds f j -/
def Laid (A A' : Cell) (lo hi : Nat) (f : Nat → Value) : Prop := A'.cls = A.cls ∧ A'.vm = A.vm ∧ A'.slots.size = A.slots.size ∧ ∀ i, A'.slots[i]? = if lo ≤ i ∧ i < hi then some (f i) else A.slots[i]?
theorem Laid.zero (A : Cell) (lo : Nat) (f : Nat → Value) : Laid A A lo (lo + 0) f := ⟨rfl, rfl, rfl, fun i => by rw [if_neg (by omega)]⟩
theorem Laid.step {A Ak : Cell} {lo k : Nat} {f : Nat → Value} {v : Value} (h : Laid A Ak lo k f) (hlo : lo ≤ k) (hk : k < Ak.slots.size) (hv : v = f k) : Laid A (Ak.setSlot k v) lo (k + 1) f := by
  refine ⟨h.1, h.2.1, by simpa [Cell.setSlot] using h.2.2.1, fun i => ?_⟩
  by_cases e : k = i
  · subst e; rw [Cell.slots_setSlot_self v hk, if_pos (by omega), hv]
  · rw [Cell.slots_setSlot_ne v e, h.2.2.2 i]
    by_cases q : lo ≤ i ∧ i < k
    · rw [if_pos q, if_pos (by omega)]
    · rw [if_neg q, if_neg (by omega)]
def U16 : String := "java/lang/StringUTF16"
namespace Cmp5
def yN : MethodName := ⟨"java/lang/StringUTF16", "compress", "([CI[BII)I"⟩
abbrev yB : ByteArray := jdk_52_method_21_code
theorem d0 : decode yB 0 = .ok (.iconst 0, 1) := by decide +kernel
theorem d1 : decode yB 1 = .ok (.istore 5, 2) := by decide +kernel
theorem d3 : decode yB 3 = .ok (.iload 5, 2) := by decide +kernel
theorem d5 : decode yB 5 = .ok (.iload 4, 2) := by decide +kernel
theorem d7 : decode yB 7 = .ok (.if_icmp (.ge) 37, 3) := by decide +kernel
theorem d10 : decode yB 10 = .ok (.aload_n 0, 1) := by decide +kernel
theorem d11 : decode yB 11 = .ok (.iload_n 1, 1) := by decide +kernel
theorem d12 : decode yB 12 = .ok (.caload, 1) := by decide +kernel
theorem d13 : decode yB 13 = .ok (.istore 6, 2) := by decide +kernel
theorem d15 : decode yB 15 = .ok (.iload 6, 2) := by decide +kernel
theorem d17 : decode yB 17 = .ok (.sipush 255, 3) := by decide +kernel
theorem d20 : decode yB 20 = .ok (.if_icmp (.le) 6, 3) := by decide +kernel
theorem d26 : decode yB 26 = .ok (.aload_n 2, 1) := by decide +kernel
theorem d27 : decode yB 27 = .ok (.iload_n 3, 1) := by decide +kernel
theorem d28 : decode yB 28 = .ok (.iload 6, 2) := by decide +kernel
theorem d30 : decode yB 30 = .ok (.i2b, 1) := by decide +kernel
theorem d31 : decode yB 31 = .ok (.bastore, 1) := by decide +kernel
theorem d32 : decode yB 32 = .ok (.iinc 1 1, 3) := by decide +kernel
theorem d35 : decode yB 35 = .ok (.iinc 3 1, 3) := by decide +kernel
theorem d38 : decode yB 38 = .ok (.iinc 5 1, 3) := by decide +kernel
theorem d41 : decode yB 41 = .ok (.goto (-38), 3) := by decide +kernel
theorem d44 : decode yB 44 = .ok (.iload 4, 2) := by decide +kernel
theorem d46 : decode yB 46 = .ok (.ireturn, 1) := by decide +kernel
def site : List Cond := []
def tab : Cond := tabOf yN yB 7 (some .int) site
def P (b : Addr) (A : Cell) (d : Addr) (B : Cell) (o q len : Nat) (args : Array Value) (s : State) : Prop := args = #[.ref b, .int (Int32.ofNat o), .ref d, .int (Int32.ofNat q), .int (Int32.ofNat len)] ∧ Ch b A s ∧ Arr .byte d B s ∧ b ≠ d ∧ o + len ≤ A.slots.size ∧ q + len ≤ B.slots.size ∧ ∀ i, i < len → ¬ 255 < cv A (o + i)
def E (b : Addr) (A : Cell) (d : Addr) (B : Cell) (o q len : Nat) (r : Option Value) (s u : State) : Prop := r = some (.int (Int32.ofNat len)) ∧ ∃ B', Put d B' s u ∧ Laid B B' q (q + len) (fun j => Value.int (lo8 (cv A (o + (j - q)))))
/-- no char of the range above 255: len; the places written hold each char's low byte -/
theorem law (l : Launch) (b : Addr) (A : Cell) (d : Addr) (B : Cell) (o q len : Nat) : Law l yN 5 5 0 0 yB 7 (some .int) site (P b A d B o q len) (E b A d B o q len) (copyLocs d q len) 0 0 := by
  refine Law.of_walk (plainFor_of_name (by decide +kernel)) (by decide +kernel) (by decide +kernel) (by decide) (fun _ _ h => by rw [h.1]; rfl) (fun _ U U' hal hh h => ⟨h.1, h.2.1.mv hal hh, h.2.2.1.mv hal hh, h.2.2.2⟩) (fun r U U' V V' h1 hal h2 h => ⟨h.1, h.2.elim fun B' q => ⟨B', q.1.mv h1 h2, q.2⟩⟩) ?_
  intro p e s m args below meth c s₁ X0 hexec hbytes hml hret hlk hnm hown hh0 W hP
  obtain ⟨rfl, hA, hB, hne, l1, l2, hp⟩ := hP
  have c1 : Steps p.tables e below (s₁.setTop (entryFrame m #[.ref b, .int (Int32.ofNat o), .ref d, .int (Int32.ofNat q), .int (Int32.ofNat len)] 7)) (s₁.setTop (mkF m 0 #[.val (.ref b), .val (.int (Int32.ofNat o)), .val (.ref d), .val (.int (Int32.ofNat q)), .val (.int (Int32.ofNat len)), .unset, .unset] [])) := entry rfl
  have hA0 := hA.1.mv X0.warmed.alike hh0
  have hB0 := hB.mv X0.warmed.alike hh0
  have a31 := hA.1.2.2.2
  have c2 : Steps p.tables e below (s₁.setTop (entryFrame m #[.ref b, .int (Int32.ofNat o), .ref d, .int (Int32.ofNat q), .int (Int32.ofNat len)] 7)) (s₁.setTop (mkF m 3 #[.val (.ref b), .val (.int (Int32.ofNat o)), .val (.ref d), .val (.int (Int32.ofNat q)), .val (.int (Int32.ofNat len)), .val (.int 0), .unset] [])) := c1.trans (by
    refine iconstV X0.here hexec rfl 0 (hb hbytes d0) (by decide) ?_
    refine XS.istore X0.here hexec rfl (hb hbytes d1) rfl rfl ?_
    exact Steps.refl _)
  have loop : ∀ (r i : Nat), i + r = len → ∀ (z : Slot), (z = .unset ∨ ∃ w, z = .val w ∧ w.category = 1) → ∀ (Tl : State) (Bk : Cell), Stand p l e { frames := 0, locals := 0, cells := 0, slots := 0 } s m #[.ref b, .int (Int32.ofNat o), .ref d, .int (Int32.ofNat q), .int (Int32.ofNat len)] below meth c Tl ([] ++ copyLocs d q i) 0 0 → Put d Bk s₁ Tl → Laid B Bk q (q + i) (fun j => Value.int (lo8 (cv A (o + (j - q))))) →
      Steps p.tables e below (s₁.setTop (entryFrame m #[.ref b, .int (Int32.ofNat o), .ref d, .int (Int32.ofNat q), .int (Int32.ofNat len)] 7)) (Tl.setTop (mkF m 3 #[.val (.ref b), .val (.int (Int32.ofNat (o + i))), .val (.ref d), .val (.int (Int32.ofNat (q + i))), .val (.int (Int32.ofNat len)), .val (.int (Int32.ofNat i)), z] [])) → ∃ (T' : State) (B' : Cell) (z' : Slot), Stand p l e { frames := 0, locals := 0, cells := 0, slots := 0 } s m #[.ref b, .int (Int32.ofNat o), .ref d, .int (Int32.ofNat q), .int (Int32.ofNat len)] below meth c T' ([] ++ copyLocs d q len) 0 0 ∧ Put d B' s₁ T' ∧ Laid B B' q (q + len) (fun j => Value.int (lo8 (cv A (o + (j - q))))) ∧
      Steps p.tables e below (s₁.setTop (entryFrame m #[.ref b, .int (Int32.ofNat o), .ref d, .int (Int32.ofNat q), .int (Int32.ofNat len)] 7)) (T'.setTop (mkF m 3 #[.val (.ref b), .val (.int (Int32.ofNat (o + len))), .val (.ref d), .val (.int (Int32.ofNat (q + len))), .val (.int (Int32.ofNat len)), .val (.int (Int32.ofNat len)), z'] [])) := by
    intro r
    induction r with
    | zero =>
      intro i hi z hz Tl Bk Xl pl fl cl
      have hil : i = len := by omega
      rw [hil] at Xl fl cl
      exact ⟨Tl, Bk, z, Xl, pl, fl, cl⟩
    | succ r ih =>
      intro i hi z hz Tl Bk Xl pl fl cl
      have all := X0.warmed.alike.symm.trans Xl.warmed.alike
      have hAl := hA0.keep all (pl.other hne hA0.1)
      have hBk := hB0.like all pl.1 fl.1 fl.2.1 fl.2.2.1
      have hlt : q + i < Bk.slots.size := by rw [fl.2.2.1]; omega
      have c3 : Steps p.tables e below (s₁.setTop (entryFrame m #[.ref b, .int (Int32.ofNat o), .ref d, .int (Int32.ofNat q), .int (Int32.ofNat len)] 7)) (Tl.setTop (mkF m 12 #[.val (.ref b), .val (.int (Int32.ofNat (o + i))), .val (.ref d), .val (.int (Int32.ofNat (q + i))), .val (.int (Int32.ofNat len)), .val (.int (Int32.ofNat i)), z] [.int (Int32.ofNat (o + i)), .ref b])) := cl.trans (by
        refine XS.iload Xl.here hexec rfl (hb hbytes d3) rfl ?_
        refine XS.iload Xl.here hexec rfl (hb hbytes d5) rfl ?_
        refine XS.icmpNo Xl.here hexec rfl (hb hbytes d7) rfl (ii_ge_f (lt32 (by omega) (by omega))) ?_
        refine XS.aloadN Xl.here hexec rfl (hb hbytes d10) rfl rfl ?_
        refine XS.iloadN Xl.here hexec rfl (hb hbytes d11) rfl ?_
        exact Steps.refl _)
      have c4 : Steps p.tables e below (s₁.setTop (entryFrame m #[.ref b, .int (Int32.ofNat o), .ref d, .int (Int32.ofNat q), .int (Int32.ofNat len)] 7)) (Tl.setTop (mkF m 13 #[.val (.ref b), .val (.int (Int32.ofNat (o + i))), .val (.ref d), .val (.int (Int32.ofNat (q + i))), .val (.int (Int32.ofNat len)), .val (.int (Int32.ofNat i)), z] [.int (cv A (o + i))])) := c3.trans (by
        refine Xl.aget hexec hAl rfl (hA.get (i := o + i) (by omega)) rfl rfl (hb hbytes d12) ?_
        exact Steps.refl _)
      have c5 : Steps p.tables e below (s₁.setTop (entryFrame m #[.ref b, .int (Int32.ofNat o), .ref d, .int (Int32.ofNat q), .int (Int32.ofNat len)] 7)) (Tl.setTop (mkF m 15 #[.val (.ref b), .val (.int (Int32.ofNat (o + i))), .val (.ref d), .val (.int (Int32.ofNat (q + i))), .val (.int (Int32.ofNat len)), .val (.int (Int32.ofNat i)), .val (.int (cv A (o + i)))] [])) := c4.trans (by
        refine XS.istoreS Xl.here hexec rfl (hb hbytes d13) rfl rfl hz ?_
        exact Steps.refl _)
      have c6 : Steps p.tables e below (s₁.setTop (entryFrame m #[.ref b, .int (Int32.ofNat o), .ref d, .int (Int32.ofNat q), .int (Int32.ofNat len)] 7)) (Tl.setTop (mkF m 31 #[.val (.ref b), .val (.int (Int32.ofNat (o + i))), .val (.ref d), .val (.int (Int32.ofNat (q + i))), .val (.int (Int32.ofNat len)), .val (.int (Int32.ofNat i)), .val (.int (cv A (o + i)))] [.int (lo8 (cv A (o + i))), .int (Int32.ofNat (q + i)), .ref d])) := c5.trans (by
        refine XS.iload Xl.here hexec rfl (hb hbytes d15) rfl ?_
        refine sipushV Xl.here hexec rfl 255 (hb hbytes d17) (by decide) ?_
        refine XS.icmpYes Xl.here hexec rfl (pc0 := 20) rfl (hb hbytes d20) rfl (ii_le_t (hp i (by omega))) (by decide) rfl ?_
        refine XS.aloadN Xl.here hexec rfl (hb hbytes d26) rfl rfl ?_
        refine XS.iloadN Xl.here hexec rfl (hb hbytes d27) rfl ?_
        refine XS.iload Xl.here hexec rfl (hb hbytes d28) rfl ?_
        refine i2b Xl.here hexec rfl (hb hbytes d30) rfl ?_
        exact Steps.refl _)
      obtain ⟨T7, X7, p7, st7⟩ := Xl.aput hexec hBk rfl hlt rfl (fits_lo8 (cv A (o + i))) (g := (mkF m 31 #[.val (.ref b), .val (.int (Int32.ofNat (o + i))), .val (.ref d), .val (.int (Int32.ofNat (q + i))), .val (.int (Int32.ofNat len)), .val (.int (Int32.ofNat i)), .val (.int (cv A (o + i)))] [.int (lo8 (cv A (o + i))), .int (Int32.ofNat (q + i)), .ref d])) rfl (rest := []) rfl (hb hbytes d31)
      have c8 : Steps p.tables e below (s₁.setTop (entryFrame m #[.ref b, .int (Int32.ofNat o), .ref d, .int (Int32.ofNat q), .int (Int32.ofNat len)] 7)) (T7.setTop (mkF m 32 #[.val (.ref b), .val (.int (Int32.ofNat (o + i))), .val (.ref d), .val (.int (Int32.ofNat (q + i))), .val (.int (Int32.ofNat len)), .val (.int (Int32.ofNat i)), .val (.int (cv A (o + i)))] [])) := c6.trans (st7 _ (Steps.refl _))
      have c9 : Steps p.tables e below (s₁.setTop (entryFrame m #[.ref b, .int (Int32.ofNat o), .ref d, .int (Int32.ofNat q), .int (Int32.ofNat len)] 7)) (T7.setTop (mkF m 3 #[.val (.ref b), .val (.int (Int32.ofNat (o + i) + 1)), .val (.ref d), .val (.int (Int32.ofNat (q + i) + 1)), .val (.int (Int32.ofNat len)), .val (.int (Int32.ofNat i + 1)), .val (.int (cv A (o + i)))] [])) := c8.trans (by
        refine iincV X7.here hexec rfl 1 (hb hbytes d32) (by decide) rfl rfl ?_
        refine iincV X7.here hexec rfl 1 (hb hbytes d35) (by decide) rfl rfl ?_
        refine iincV X7.here hexec rfl 1 (hb hbytes d38) (by decide) rfl rfl ?_
        refine XS.goto X7.here hexec rfl (pc0 := 41) rfl (hb hbytes d41) (by decide) rfl ?_
        exact Steps.refl _)
      have c10 : Steps p.tables e below (s₁.setTop (entryFrame m #[.ref b, .int (Int32.ofNat o), .ref d, .int (Int32.ofNat q), .int (Int32.ofNat len)] 7)) (T7.setTop (mkF m 3 #[.val (.ref b), .val (.int (Int32.ofNat (o + (i + 1)))), .val (.ref d), .val (.int (Int32.ofNat (q + (i + 1)))), .val (.int (Int32.ofNat len)), .val (.int (Int32.ofNat (i + 1))), .val (.int (cv A (o + i)))] [])) := by
        have := c9
        rw [succ32, succ32, succ32] at this
        exact this
      exact ih (i + 1) (by omega) _ (Or.inr ⟨_, rfl, rfl⟩) T7 _ (by rw [copyLocs_step, ← List.append_assoc]; exact X7) (pl.trans p7) (fl.step (by omega) hlt (by simp)) c10
  obtain ⟨T9, B9, z9, X9, p9, f9, g9⟩ := loop len 0 (by omega) .unset (Or.inl rfl) s₁ B (by simpa [copyLocs] using X0) ⟨hB0.1, fun _ _ => rfl, rfl⟩ (Laid.zero _ _ _) c2
  have c11 : Steps p.tables e below (s₁.setTop (entryFrame m #[.ref b, .int (Int32.ofNat o), .ref d, .int (Int32.ofNat q), .int (Int32.ofNat len)] 7)) (T9.setTop (mkF m 46 #[.val (.ref b), .val (.int (Int32.ofNat (o + len))), .val (.ref d), .val (.int (Int32.ofNat (q + len))), .val (.int (Int32.ofNat len)), .val (.int (Int32.ofNat len)), z9] [.int (Int32.ofNat len)])) := g9.trans (by
    refine XS.iload X9.here hexec rfl (hb hbytes d3) rfl ?_
    refine XS.iload X9.here hexec rfl (hb hbytes d5) rfl ?_
    refine XS.icmpYes X9.here hexec rfl (pc0 := 7) rfl (hb hbytes d7) rfl (ii_ge_t (nlt32 (by omega) (Nat.le_refl _))) (by decide) rfl ?_
    refine XS.iload X9.here hexec rfl (hb hbytes d44) rfl ?_
    exact Steps.refl _)
  exact ⟨T9, some (.int (Int32.ofNat len)), _, _, _, X9, by simp, rfl, rfl, (fun h => by cases h), ⟨rfl, B9, p9.from hh0, f9⟩, fun fs hl => c11.trans (X9.ireturnOut hexec hret rfl (Or.inl rfl) (hb hbytes d46) hl)⟩
end Cmp5
namespace Cmp3
def yN : MethodName := ⟨"java/lang/StringUTF16", "compress", "([CII)[B"⟩
abbrev yB : ByteArray := jdk_52_method_16_code
theorem d0 : decode yB 0 = .ok (.iload_n 2, 1) := by decide +kernel
theorem d1 : decode yB 1 = .ok (.newarray .byte, 2) := by decide +kernel
theorem d3 : decode yB 3 = .ok (.astore_n 3, 1) := by decide +kernel
theorem d4 : decode yB 4 = .ok (.aload_n 0, 1) := by decide +kernel
theorem d5 : decode yB 5 = .ok (.iload_n 1, 1) := by decide +kernel
theorem d6 : decode yB 6 = .ok (.aload_n 3, 1) := by decide +kernel
theorem d7 : decode yB 7 = .ok (.iconst 0, 1) := by decide +kernel
theorem d8 : decode yB 8 = .ok (.iload_n 2, 1) := by decide +kernel
theorem d9 : decode yB 9 = .ok (.invokestatic 115, 3) := by decide +kernel
theorem d12 : decode yB 12 = .ok (.istore 4, 2) := by decide +kernel
theorem d14 : decode yB 14 = .ok (.iload 4, 2) := by decide +kernel
theorem d16 : decode yB 16 = .ok (.iload_n 2, 1) := by decide +kernel
theorem d17 : decode yB 17 = .ok (.if_icmp (.eq) 40, 3) := by decide +kernel
theorem d57 : decode yB 57 = .ok (.aload_n 3, 1) := by decide +kernel
theorem d58 : decode yB 58 = .ok (.areturn, 1) := by decide +kernel
def site : List Cond := [.arrayClass .byte, Cmp5.tab] ++ staticW U16 115 Cmp5.yN
def tab : Cond := tabOf yN yB 6 (some (.array .byte)) site
def P (b : Addr) (A : Cell) (o len : Nat) (args : Array Value) (s : State) : Prop := args = #[.ref b, .int (Int32.ofNat o), .int (Int32.ofNat len)] ∧ Ch b A s ∧ o + len ≤ A.slots.size ∧ len ≤ 536870912 ∧ ∀ i, i < len → ¬ 255 < cv A (o + i)
def E (b : Addr) (A : Cell) (o len : Nat) (r : Option Value) (s u : State) : Prop := NewArr .byte "[B" len (fun j => .int (lo8 (cv A (o + j)))) r s u ∧ u.heap.size = s.heap.size + 1
/-- no char of the range above 255: a new byte[] of their low bytes -/
theorem law (l : Launch) (b : Addr) (A : Cell) (o len : Nat) : Law l yN 3 3 1 18 yB 6 (some (.array .byte)) site (P b A o len) (E b A o len) [] 1 len := by
  refine Law.of_walk (plainFor_of_name (by decide +kernel)) (by decide +kernel) (by decide +kernel) (by decide) (fun _ _ h => by rw [h.1]; rfl) (fun _ U U' hal hh h => ⟨h.1, h.2.1.mv hal hh, h.2.2⟩) (fun r U U' V V' h1 hal h2 h => ⟨NewArr.mv r U U' V V' h1 hal h2 h.1, by rw [h1, h2]; exact h.2⟩) ?_
  intro p e s m args below meth c s₁ X0 hexec hbytes hml hret hlk hnm hown hh0 W hP
  obtain ⟨rfl, hA, l1, l2, hp⟩ := hP
  have a31 := hA.1.2.2.2
  have c1 : Steps p.tables e below (s₁.setTop (entryFrame m #[.ref b, .int (Int32.ofNat o), .int (Int32.ofNat len)] 6)) (s₁.setTop (mkF m 0 #[.val (.ref b), .val (.int (Int32.ofNat o)), .val (.int (Int32.ofNat len)), .unset, .unset, .unset] [])) := entry rfl
  have c2 : Steps p.tables e below (s₁.setTop (entryFrame m #[.ref b, .int (Int32.ofNat o), .int (Int32.ofNat len)] 6)) (s₁.setTop (mkF m 1 #[.val (.ref b), .val (.int (Int32.ofNat o)), .val (.int (Int32.ofNat len)), .unset, .unset, .unset] [.int (Int32.ofNat len)])) := c1.trans (by
    refine XS.iloadN X0.here hexec rfl (hb hbytes d0) rfl ?_
    exact Steps.refl _)
  obtain ⟨T3, B3, X3, ba3, bs3, bv3, bh3, bf3, st3⟩ := X0.anew hexec (atype := .byte) (wk W (.arrayClass .byte)) rfl (by show len * 1 ≤ _; omega) (by omega) (g := (mkF m 1 #[.val (.ref b), .val (.int (Int32.ofNat o)), .val (.int (Int32.ofNat len)), .unset, .unset, .unset] [.int (Int32.ofNat len)])) rfl (hb hbytes d1) (rest := []) rfl (Nat.le_refl _) (by show 0 + len ≤ len; omega)
  rw [hh0] at ba3 st3
  have kp3 : XT.Kept s T3 := (XT.Kept.of_eq hh0).push bh3
  have hA3 := hA.keep X3.warmed.alike (kp3 _ _ hA.1.1)
  have hne : b ≠ s.heap.size := hA.1.ne
  have c4 : Steps p.tables e below (s₁.setTop (entryFrame m #[.ref b, .int (Int32.ofNat o), .int (Int32.ofNat len)] 6)) (T3.setTop (mkF m 3 #[.val (.ref b), .val (.int (Int32.ofNat o)), .val (.int (Int32.ofNat len)), .unset, .unset, .unset] [.ref s.heap.size])) := c2.trans (st3 _ (Steps.refl _))
  have c5 : Steps p.tables e below (s₁.setTop (entryFrame m #[.ref b, .int (Int32.ofNat o), .int (Int32.ofNat len)] 6)) (T3.setTop (mkF m 9 #[.val (.ref b), .val (.int (Int32.ofNat o)), .val (.int (Int32.ofNat len)), .val (.ref s.heap.size), .unset, .unset] [.int (Int32.ofNat len), .int 0, .ref s.heap.size, .int (Int32.ofNat o), .ref b])) := c4.trans (by
    refine XS.astoreN X3.here hexec rfl (hb hbytes d3) rfl rfl rfl ?_
    refine XS.aloadN X3.here hexec rfl (hb hbytes d4) rfl rfl ?_
    refine XS.iloadN X3.here hexec rfl (hb hbytes d5) rfl ?_
    refine XS.aloadN X3.here hexec rfl (hb hbytes d6) rfl rfl ?_
    refine iconstV X3.here hexec rfl 0 (hb hbytes d7) (by decide) ?_
    refine XS.iloadN X3.here hexec rfl (hb hbytes d8) rfl ?_
    exact Steps.refl _)
  obtain ⟨v6, T6, X6, E6, g6⟩ := X3.callS hexec (Cmp5.law l b A s.heap.size B3 o 0 len) hown (wks W (staticW U16 115 Cmp5.yN)) (wk W Cmp5.tab) (W := 0) (Nat.le_of_ble_eq_true rfl) (Nat.le_of_ble_eq_true rfl) (Nat.le_refl _) (by show 0 + len + 0 ≤ len; omega) (g := (mkF m 9 #[.val (.ref b), .val (.int (Int32.ofNat o)), .val (.int (Int32.ofNat len)), .val (.ref s.heap.size), .unset, .unset] [.int (Int32.ofNat len), .int (Int32.ofNat 0), .ref s.heap.size, .int (Int32.ofNat o), .ref b])) rfl (by rw [hml]; rfl) c5 (argsL := [.ref b, .int (Int32.ofNat o), .ref s.heap.size, .int (Int32.ofNat 0), .int (Int32.ofNat len)]) (rest := []) rfl rfl (by show 2 * 0 + 0 ≤ _; decide) (hb hbytes d9) (⟨rfl, hA3, ba3, hne, l1, by rw [bs3]; simp, hp⟩)
  obtain ⟨rfl, B6, p6, f6⟩ := E6
  have c7 : Steps p.tables e below (s₁.setTop (entryFrame m #[.ref b, .int (Int32.ofNat o), .int (Int32.ofNat len)] 6)) (T6.setTop (mkF m 12 #[.val (.ref b), .val (.int (Int32.ofNat o)), .val (.int (Int32.ofNat len)), .val (.ref s.heap.size), .unset, .unset] [.int (Int32.ofNat len)])) := g6
  have c8 : Steps p.tables e below (s₁.setTop (entryFrame m #[.ref b, .int (Int32.ofNat o), .int (Int32.ofNat len)] 6)) (T6.setTop (mkF m 58 #[.val (.ref b), .val (.int (Int32.ofNat o)), .val (.int (Int32.ofNat len)), .val (.ref s.heap.size), .val (.int (Int32.ofNat len)), .unset] [.ref s.heap.size])) := c7.trans (by
    refine XS.istore X6.here hexec rfl (hb hbytes d12) rfl rfl ?_
    refine XS.iload X6.here hexec rfl (hb hbytes d14) rfl ?_
    refine XS.iloadN X6.here hexec rfl (hb hbytes d16) rfl ?_
    refine XS.icmpYes X6.here hexec rfl (pc0 := 17) rfl (hb hbytes d17) rfl (ii_eq_t rfl) (by decide) rfl ?_
    refine XS.aloadN X6.here hexec rfl (hb hbytes d57) rfl rfl ?_
    exact Steps.refl _)
  have X8 := X6.wide (L' := []) (cells' := 1) (slots' := len) (fun x hx hlt => by
    simp only [List.nil_append, copyLocs, List.mem_map, List.mem_range] at hx
    obtain ⟨i, -, rfl⟩ := hx
    exact absurd hlt (Nat.lt_irrefl _)) (Nat.le_refl _) (by omega)
  exact ⟨T6, some (.ref s.heap.size), _, _, _, X8, rfl, rfl, rfl, (fun h => by cases h), ⟨⟨rfl, B6, ba3.like (X3.warmed.alike.symm.trans X6.warmed.alike) p6.1 f6.1 f6.2.1 f6.2.2.1, f6.2.1.trans bv3, by rw [X6.warmed.alike.findClass, f6.1]; exact bf3, by rw [f6.2.2.1, bs3]; simp, fun j hj => by rw [f6.2.2.2 j, if_pos (by omega)]; rfl, kp3.put p6 (Nat.le_refl _)⟩, by rw [p6.2.2, bh3, hh0]; simp⟩, fun fs hl => c8.trans (X8.areturnOut hexec rfl hret rfl (hb hbytes d58) hl)⟩
end Cmp3
namespace CodL
def yN : MethodName := ⟨"java/lang/StringUTF16", "coderFromArrayLen", "([BI)B"⟩
abbrev yB : ByteArray := jdk_52_method_15_code
theorem d0 : decode yB 0 = .ok (.iload_n 1, 1) := by decide +kernel
theorem d1 : decode yB 1 = .ok (.aload_n 0, 1) := by decide +kernel
theorem d2 : decode yB 2 = .ok (.arraylength, 1) := by decide +kernel
theorem d3 : decode yB 3 = .ok (.isub, 1) := by decide +kernel
theorem d4 : decode yB 4 = .ok (.bipush 31, 2) := by decide +kernel
theorem d6 : decode yB 6 = .ok (.iushr, 1) := by decide +kernel
theorem d7 : decode yB 7 = .ok (.i2b, 1) := by decide +kernel
theorem d8 : decode yB 8 = .ok (.ireturn, 1) := by decide +kernel
def site : List Cond := []
def tab : Cond := tabOf yN yB 2 (some .byte) site
def P (d : Addr) (B : Cell) (args : Array Value) (s : State) : Prop := args = #[.ref d, .int (Int32.ofNat B.slots.size)] ∧ Arr .byte d B s
def E (r : Option Value) (s u : State) : Prop := XT.PureE (some (.int 0)) r s u
/-- an array as long as the number of chars: LATIN1 -/
theorem law (l : Launch) (d : Addr) (B : Cell) : Law l yN 2 2 0 0 yB 2 (some .byte) site (P d B) E [] 0 0 := by
  refine Law.of_walk (plainFor_of_name (by decide +kernel)) (by decide +kernel) (by decide +kernel) (by decide) (fun _ _ h => by rw [h.1]; rfl) (fun _ U U' hal hh h => ⟨h.1, h.2.mv hal hh⟩) (fun r U U' V V' h1 hal h2 h => XT.PureE.mv r U U' V V' h1 hal h2 h) ?_
  intro p e s m args below meth c s₁ X0 hexec hbytes hml hret hlk hnm hown hh0 W hP
  obtain ⟨rfl, hB⟩ := hP
  have hB0 := hB.mv X0.warmed.alike hh0
  have c1 : Steps p.tables e below (s₁.setTop (entryFrame m #[.ref d, .int (Int32.ofNat B.slots.size)] 2)) (s₁.setTop (mkF m 0 #[.val (.ref d), .val (.int (Int32.ofNat B.slots.size))] [])) := entry rfl
  have c2 : Steps p.tables e below (s₁.setTop (entryFrame m #[.ref d, .int (Int32.ofNat B.slots.size)] 2)) (s₁.setTop (mkF m 2 #[.val (.ref d), .val (.int (Int32.ofNat B.slots.size))] [.ref d, .int (Int32.ofNat B.slots.size)])) := c1.trans (by
    refine XS.iloadN X0.here hexec rfl (hb hbytes d0) rfl ?_
    refine XS.aloadN X0.here hexec rfl (hb hbytes d1) rfl rfl ?_
    exact Steps.refl _)
  have c3 : Steps p.tables e below (s₁.setTop (entryFrame m #[.ref d, .int (Int32.ofNat B.slots.size)] 2)) (s₁.setTop (mkF m 8 #[.val (.ref d), .val (.int (Int32.ofNat B.slots.size))] [.int (lo8 (ushr (Int32.ofNat B.slots.size - Int32.ofNat B.slots.size) 31))])) := c2.trans (by
    refine X0.alen hexec hB0 rfl rfl (hb hbytes d2) ?_
    refine XS.isub X0.here hexec rfl (hb hbytes d3) rfl ?_
    refine bipushV X0.here hexec rfl 31 (hb hbytes d4) (by decide) ?_
    refine iushr X0.here hexec rfl (hb hbytes d6) rfl ?_
    refine i2b X0.here hexec rfl (hb hbytes d7) rfl ?_
    exact Steps.refl _)
  have e0 : lo8 (ushr (Int32.ofNat B.slots.size - Int32.ofNat B.slots.size) 31) = 0 := by rw [Int32.sub_self]; decide
  rw [e0] at c3
  exact ⟨s₁, some (.int 0), _, _, _, X0, rfl, rfl, rfl, (fun h => by cases h), ⟨rfl, hh0⟩, fun fs hl => c3.trans (X0.ireturnOut hexec hret rfl (Or.inr (Or.inr (Or.inl rfl))) (hb hbytes d8) hl)⟩
end CodL
/-- the String at a is Latin-1 over a new byte[] (the heap's one new cell): the low bytes of the len chars of A from o on; every cell but a is kept -/
def Got (a : Addr) (D : Cell) (fV fC : Field) (A : Cell) (o len : Nat) (r : Option Value) (s u : State) : Prop := r = none ∧ ∃ D' V : Cell, Blank "java/lang/String" a D' u ∧ Same D D' [fV.slot, fC.slot] ∧ D'.slots[fV.slot]? = some (.ref s.heap.size) ∧ D'.slots[fC.slot]? = some (.int 0) ∧ Arr .byte s.heap.size V u ∧ V.vm = .none ∧ u.vm.findClass "[B" = some V.cls ∧ V.slots.size = len ∧ (∀ j, j < len → V.slots[j]? = some (.int (lo8 (cv A (o + j))))) ∧ (∀ (y : Addr) (c : Cell), y ≠ a → s.heap[y]? = some c → u.heap[y]? = some c) ∧ u.heap.size = s.heap.size + 1
theorem Got.mv {a : Addr} {D A : Cell} {fV fC : Field} {o len : Nat} : ∀ r (U U' V V' : State), U'.heap = U.heap → V.vm.Alike V'.vm → V'.heap = V.heap → Got a D fV fC A o len r U V → Got a D fV fC A o len r U' V' :=
  fun r U U' V V' h1 hal h2 ⟨e0, D', X, a1, a2, a3, a4, a5, a6, a7, a8, a9, a10, a11⟩ => ⟨e0, D', X, a1.mv hal h2, a2, by rw [h1]; exact a3, a4, by rw [h1]; exact a5.mv hal h2, a6, by rw [hal.findClass]; exact a7, a8, a9, by rw [h1, h2]; exact a10, by rw [h1, h2]; exact a11⟩
namespace New4
def yN : MethodName := ⟨"java/lang/String", "<init>", "([CIILjava/lang/Void;)V"⟩
abbrev yB : ByteArray := jdk_42_method_149_code
theorem d0 : decode yB 0 = .ok (.aload_n 0, 1) := by decide +kernel
theorem d1 : decode yB 1 = .ok (.invokespecial 1, 3) := by decide +kernel
theorem d4 : decode yB 4 = .ok (.iload_n 3, 1) := by decide +kernel
theorem d5 : decode yB 5 = .ok (.ifCond (.ne) 22, 3) := by decide +kernel
theorem d27 : decode yB 27 = .ok (.getstatic 38, 3) := by decide +kernel
theorem d30 : decode yB 30 = .ok (.ifCond (.eq) 28, 3) := by decide +kernel
theorem d33 : decode yB 33 = .ok (.aload_n 1, 1) := by decide +kernel
theorem d34 : decode yB 34 = .ok (.iload_n 2, 1) := by decide +kernel
theorem d35 : decode yB 35 = .ok (.iload_n 3, 1) := by decide +kernel
theorem d36 : decode yB 36 = .ok (.invokestatic 177, 3) := by decide +kernel
theorem d39 : decode yB 39 = .ok (.astore 5, 2) := by decide +kernel
theorem d41 : decode yB 41 = .ok (.aload_n 0, 1) := by decide +kernel
theorem d42 : decode yB 42 = .ok (.aload 5, 2) := by decide +kernel
theorem d44 : decode yB 44 = .ok (.iload_n 3, 1) := by decide +kernel
theorem d45 : decode yB 45 = .ok (.invokestatic 47, 3) := by decide +kernel
theorem d48 : decode yB 48 = .ok (.putfield 15, 3) := by decide +kernel
theorem d51 : decode yB 51 = .ok (.aload_n 0, 1) := by decide +kernel
theorem d52 : decode yB 52 = .ok (.aload 5, 2) := by decide +kernel
theorem d54 : decode yB 54 = .ok (.putfield 9, 3) := by decide +kernel
theorem d57 : decode yB 57 = .ok (.return_, 1) := by decide +kernel
def site : List Cond := [.fieldLink "java/lang/String" 38 "java/lang/String" "COMPACT_STRINGS" "Z", Cmp3.tab, CodL.tab, .laysFinal "java/lang/String" "java/lang/String" "value" "[B", .fieldLink "java/lang/String" 9 "java/lang/String" "value" "[B", .laysFinal "java/lang/String" "java/lang/String" "coder" "B", .fieldLink "java/lang/String" 15 "java/lang/String" "coder" "B"] ++ objW "java/lang/String" 1 ++ staticW "java/lang/String" 177 Cmp3.yN ++ staticW "java/lang/String" 47 CodL.yN
def tab : Cond := tabOf yN yB 6 none site
def P (a : Addr) (D : Cell) (fV fC : Field) (b : Addr) (A : Cell) (z : Int32) (o len : Nat) (args : Array Value) (s : State) : Prop := args = #[.ref a, .ref b, .int (Int32.ofNat o), .int (Int32.ofNat len), .null] ∧ Blank "java/lang/String" a D s ∧ Found "java/lang/String" "value" "[B" fV s ∧ Found "java/lang/String" "coder" "B" fC s ∧ Ch b A s ∧ StaticIs s "java/lang/String" "COMPACT_STRINGS" "Z" (.int z) ∧ ¬ z = 0 ∧ 0 < len ∧ o + len ≤ A.slots.size ∧ len ≤ 536870912 ∧ ∀ i, i < len → ¬ 255 < cv A (o + i)
def E (a : Addr) (D : Cell) (fV fC : Field) (A : Cell) (o len : Nat) (r : Option Value) (s u : State) : Prop := Got a D fV fC A o len r s u
/-- len > 0, no char of the range above 255: a Latin-1 String of their low bytes -/
theorem law (l : Launch) (a : Addr) (D : Cell) (fV fC : Field) (b : Addr) (A : Cell) (z : Int32) (o len : Nat) : Law l yN 5 4 2 35 yB 6 none site (P a D fV fC b A z o len) (E a D fV fC A o len) [⟨a, fC.slot⟩, ⟨a, fV.slot⟩] 1 len := by
  refine Law.of_walk (plainFor_of_name (by decide +kernel)) (by decide +kernel) (by decide +kernel) (by decide) (fun _ _ h => by rw [h.1]; rfl) (fun _ U U' hal hh h => ⟨h.1, h.2.1.mv hal hh, h.2.2.1.al hal, h.2.2.2.1.al hal, h.2.2.2.2.1.mv hal hh, h.2.2.2.2.2.1.there hal hh, h.2.2.2.2.2.2⟩) (fun r U U' V V' h1 hal h2 h => Got.mv r U U' V V' h1 hal h2 h) ?_
  intro p e s m args below meth c s₁ X0 hexec hbytes hml hret hlk hnm hown hh0 W hP
  obtain ⟨rfl, hB, f1, f2, hA, s1, hz, l0, l1, l2, hp⟩ := hP
  have a31 := hA.1.2.2.2
  have c1 : Steps p.tables e below (s₁.setTop (entryFrame m #[.ref a, .ref b, .int (Int32.ofNat o), .int (Int32.ofNat len), .null] 6)) (s₁.setTop (mkF m 0 #[.val (.ref a), .val (.ref b), .val (.int (Int32.ofNat o)), .val (.int (Int32.ofNat len)), .val .null, .unset] [])) := entry rfl
  have c2 : Steps p.tables e below (s₁.setTop (entryFrame m #[.ref a, .ref b, .int (Int32.ofNat o), .int (Int32.ofNat len), .null] 6)) (s₁.setTop (mkF m 1 #[.val (.ref a), .val (.ref b), .val (.int (Int32.ofNat o)), .val (.int (Int32.ofNat len)), .val .null, .unset] [.ref a])) := c1.trans (by
    refine XS.aloadN X0.here hexec rfl (hb hbytes d0) rfl rfl ?_
    exact Steps.refl _)
  obtain ⟨T3, X3, q3, st3⟩ := X0.oinit hexec hown (wks W (objW "java/lang/String" 1)) (g := (mkF m 1 #[.val (.ref a), .val (.ref b), .val (.int (Int32.ofNat o)), .val (.int (Int32.ofNat len)), .val .null, .unset] [.ref a])) rfl (by rw [hml]; rfl) (rest := []) rfl (hb hbytes d1) (W := 0) (by show 2 * 0 + 0 ≤ _; decide) (Nat.le_of_ble_eq_true rfl) (Nat.le_of_ble_eq_true rfl)
  have hh3 := q3.trans hh0
  have c4 : Steps p.tables e below (s₁.setTop (entryFrame m #[.ref a, .ref b, .int (Int32.ofNat o), .int (Int32.ofNat len), .null] 6)) (T3.setTop (mkF m 27 #[.val (.ref a), .val (.ref b), .val (.int (Int32.ofNat o)), .val (.int (Int32.ofNat len)), .val .null, .unset] [])) := (c2.trans (st3 _ (Steps.refl _))).trans (by
    refine XS.iloadN X3.here hexec rfl (hb hbytes d4) rfl ?_
    refine XS.ifYes X3.here hexec rfl (pc0 := 5) rfl (hb hbytes d5) rfl (i0_ne_t (nz32 (by omega) l0)) (by decide) rfl ?_
    exact Steps.refl _)
  obtain ⟨T5, X5, q5, st5⟩ := X3.sget hexec hown (wk W (.fieldLink "java/lang/String" 38 "java/lang/String" "COMPACT_STRINGS" "Z")) s1 (fun _ _ h => by rw [hh3]; exact h) (g := (mkF m 27 #[.val (.ref a), .val (.ref b), .val (.int (Int32.ofNat o)), .val (.int (Int32.ofNat len)), .val .null, .unset] [])) rfl (hb hbytes d27)
  have hh5 := q5.trans hh3
  have c6 : Steps p.tables e below (s₁.setTop (entryFrame m #[.ref a, .ref b, .int (Int32.ofNat o), .int (Int32.ofNat len), .null] 6)) (T5.setTop (mkF m 30 #[.val (.ref a), .val (.ref b), .val (.int (Int32.ofNat o)), .val (.int (Int32.ofNat len)), .val .null, .unset] [.int z])) := c4.trans (st5 _ (Steps.refl _))
  have c7 : Steps p.tables e below (s₁.setTop (entryFrame m #[.ref a, .ref b, .int (Int32.ofNat o), .int (Int32.ofNat len), .null] 6)) (T5.setTop (mkF m 36 #[.val (.ref a), .val (.ref b), .val (.int (Int32.ofNat o)), .val (.int (Int32.ofNat len)), .val .null, .unset] [.int (Int32.ofNat len), .int (Int32.ofNat o), .ref b])) := c6.trans (by
    refine XS.ifNo X5.here hexec rfl (hb hbytes d30) rfl (i0_eq_f hz) ?_
    refine XS.aloadN X5.here hexec rfl (hb hbytes d33) rfl rfl ?_
    refine XS.iloadN X5.here hexec rfl (hb hbytes d34) rfl ?_
    refine XS.iloadN X5.here hexec rfl (hb hbytes d35) rfl ?_
    exact Steps.refl _)
  obtain ⟨v8, T8, X8, E8, g8⟩ := X5.callS hexec (Cmp3.law l b A o len) hown (wks W (staticW "java/lang/String" 177 Cmp3.yN)) (wk W Cmp3.tab) (W := 0) (Nat.le_of_ble_eq_true rfl) (Nat.le_of_ble_eq_true rfl) (Nat.le_refl _) (by show 0 + len ≤ len; omega) (g := (mkF m 36 #[.val (.ref a), .val (.ref b), .val (.int (Int32.ofNat o)), .val (.int (Int32.ofNat len)), .val .null, .unset] [.int (Int32.ofNat len), .int (Int32.ofNat o), .ref b])) rfl (by rw [hml]; rfl) c7 (argsL := [.ref b, .int (Int32.ofNat o), .int (Int32.ofNat len)]) (rest := []) rfl rfl (by show 2 * 0 + 0 ≤ _; decide) (hb hbytes d36) (⟨rfl, hA.mv X5.warmed.alike hh5, l1, l2, hp⟩)
  obtain ⟨e8, z8⟩ := E8
  obtain ⟨rfl, N, n1, n2, n3, n4, n5, n6⟩ := NewArr.mv _ T5 s _ _ hh5.symm (Vm.Alike.refl _) rfl e8
  rw [hh5] at z8
  have hB1 := hB.keep X8.warmed.alike (n6 _ _ hB.1)
  have hne : s.heap.size ≠ a := (Nat.ne_of_lt (Array.getElem?_eq_some_iff.mp hB.1).1).symm
  have c9 : Steps p.tables e below (s₁.setTop (entryFrame m #[.ref a, .ref b, .int (Int32.ofNat o), .int (Int32.ofNat len), .null] 6)) (T8.setTop (mkF m 39 #[.val (.ref a), .val (.ref b), .val (.int (Int32.ofNat o)), .val (.int (Int32.ofNat len)), .val .null, .unset] [.ref s.heap.size])) := g8
  have c10 : Steps p.tables e below (s₁.setTop (entryFrame m #[.ref a, .ref b, .int (Int32.ofNat o), .int (Int32.ofNat len), .null] 6)) (T8.setTop (mkF m 45 #[.val (.ref a), .val (.ref b), .val (.int (Int32.ofNat o)), .val (.int (Int32.ofNat len)), .val .null, .val (.ref s.heap.size)] [.int (Int32.ofNat N.slots.size), .ref s.heap.size, .ref a])) := by
    have hc : Steps p.tables e below (s₁.setTop (entryFrame m #[.ref a, .ref b, .int (Int32.ofNat o), .int (Int32.ofNat len), .null] 6)) (T8.setTop (mkF m 45 #[.val (.ref a), .val (.ref b), .val (.int (Int32.ofNat o)), .val (.int (Int32.ofNat len)), .val .null, .val (.ref s.heap.size)] [.int (Int32.ofNat len), .ref s.heap.size, .ref a])) := c9.trans (by
      refine XS.astore X8.here hexec rfl (hb hbytes d39) rfl rfl rfl ?_
      refine XS.aloadN X8.here hexec rfl (hb hbytes d41) rfl rfl ?_
      refine XS.aload X8.here hexec rfl (hb hbytes d42) rfl rfl ?_
      refine XS.iloadN X8.here hexec rfl (hb hbytes d44) rfl ?_
      exact Steps.refl _)
    rw [n4]; exact hc
  obtain ⟨v11, T11, X11, E11, g11⟩ := X8.callS hexec (CodL.law l s.heap.size N) hown (wks W (staticW "java/lang/String" 47 CodL.yN)) (wk W CodL.tab) (W := 1) (Nat.le_of_ble_eq_true rfl) (Nat.le_of_ble_eq_true rfl) (Nat.le_refl _) (by show 0 + len + 0 ≤ len; omega) (g := (mkF m 45 #[.val (.ref a), .val (.ref b), .val (.int (Int32.ofNat o)), .val (.int (Int32.ofNat len)), .val .null, .val (.ref s.heap.size)] [.int (Int32.ofNat N.slots.size), .ref s.heap.size, .ref a])) rfl (by rw [hml]; rfl) c10 (argsL := [.ref s.heap.size, .int (Int32.ofNat N.slots.size)]) (rest := [.ref a]) rfl rfl (by show 2 * 0 + (1 + 0) ≤ _; decide) (hb hbytes d45) (⟨rfl, n1⟩)
  obtain ⟨rfl, q11⟩ := E11
  have hB11 := hB1.mv (X8.warmed.alike.symm.trans X11.warmed.alike) q11
  have c12 : Steps p.tables e below (s₁.setTop (entryFrame m #[.ref a, .ref b, .int (Int32.ofNat o), .int (Int32.ofNat len), .null] 6)) (T11.setTop (mkF m 48 #[.val (.ref a), .val (.ref b), .val (.int (Int32.ofNat o)), .val (.int (Int32.ofNat len)), .val .null, .val (.ref s.heap.size)] [.int 0, .ref a])) := g11
  obtain ⟨T13, X13, p13, bl13, sl13, st13⟩ := X11.finit hexec hown (wk W (.fieldLink "java/lang/String" 15 "java/lang/String" "coder" "B")) (Or.inr ⟨_, (wk W (.laysFinal "java/lang/String" "java/lang/String" "coder" "B"))⟩) (Or.inl ⟨rfl, hnm⟩) f2 (Or.inl rfl) hB11 (t := .byte) (by decide +kernel) rfl (g := (mkF m 48 #[.val (.ref a), .val (.ref b), .val (.int (Int32.ofNat o)), .val (.int (Int32.ofNat len)), .val .null, .val (.ref s.heap.size)] [.int 0, .ref a])) rfl (rest := []) rfl (hb hbytes d48)
  have c14 : Steps p.tables e below (s₁.setTop (entryFrame m #[.ref a, .ref b, .int (Int32.ofNat o), .int (Int32.ofNat len), .null] 6)) (T13.setTop (mkF m 54 #[.val (.ref a), .val (.ref b), .val (.int (Int32.ofNat o)), .val (.int (Int32.ofNat len)), .val .null, .val (.ref s.heap.size)] [.ref s.heap.size, .ref a])) := (c12.trans (st13 _ (Steps.refl _))).trans (by
    refine XS.aloadN X13.here hexec rfl (hb hbytes d51) rfl rfl ?_
    refine XS.aload X13.here hexec rfl (hb hbytes d52) rfl rfl ?_
    exact Steps.refl _)
  obtain ⟨T15, X15, p15, bl15, sl15, st15⟩ := X13.finit hexec hown (wk W (.fieldLink "java/lang/String" 9 "java/lang/String" "value" "[B")) (Or.inr ⟨_, (wk W (.laysFinal "java/lang/String" "java/lang/String" "value" "[B"))⟩) (Or.inl ⟨rfl, hnm⟩) f1 (Or.inl rfl) bl13 (t := (.array .byte)) (by decide +kernel) rfl (g := (mkF m 54 #[.val (.ref a), .val (.ref b), .val (.int (Int32.ofNat o)), .val (.int (Int32.ofNat len)), .val .null, .val (.ref s.heap.size)] [.ref s.heap.size, .ref a])) rfl (rest := []) rfl (hb hbytes d54)
  have c16 : Steps p.tables e below (s₁.setTop (entryFrame m #[.ref a, .ref b, .int (Int32.ofNat o), .int (Int32.ofNat len), .null] 6)) (T15.setTop (mkF m 57 #[.val (.ref a), .val (.ref b), .val (.int (Int32.ofNat o)), .val (.int (Int32.ofNat len)), .val .null, .val (.ref s.heap.size)] [])) := c14.trans (st15 _ (Steps.refl _))
  have ap := apart (Or.inr ⟨_, (wk W (.laysFinal "java/lang/String" "java/lang/String" "value" "[B"))⟩) (Or.inr ⟨_, (wk W (.laysFinal "java/lang/String" "java/lang/String" "coder" "B"))⟩) f1 f2 (t₁ := .array .byte) (t₂ := .byte) (by decide +kernel) (by decide +kernel) (by decide)
  have al := X8.warmed.alike.symm.trans X15.warmed.alike
  have n7 : T11.heap[s.heap.size]? = some N := by rw [q11]; exact n1.1
  exact ⟨T15, none, _, _, _, X15, by simp, rfl, by omega, (fun _ => rfl), ⟨rfl, _, N, bl15, ((Same.refl D _).set _ (by simp)).set _ (by simp), sl15, (Cell.slots_setSlot_ne _ ap).trans sl13, n1.keep al (p15.other hne (p13.other hne n7)), n2, by rw [al.findClass]; exact n3, n4, n5, fun y c h1 h2 => p15.other h1 (p13.other h1 (by rw [q11]; exact n6 y c h2)), by rw [p15.2.2, p13.2.2, q11]; exact z8⟩, fun fs hl => c16.trans (X15.returnOut hexec hret (hb hbytes d57) hl)⟩
end New4
namespace New1
def yN : MethodName := ⟨"java/lang/String", "<init>", "([C)V"⟩
abbrev yB : ByteArray := jdk_42_method_3_code
theorem d0 : decode yB 0 = .ok (.aload_n 0, 1) := by decide +kernel
theorem d1 : decode yB 1 = .ok (.aload_n 1, 1) := by decide +kernel
theorem d2 : decode yB 2 = .ok (.iconst 0, 1) := by decide +kernel
theorem d3 : decode yB 3 = .ok (.aload_n 1, 1) := by decide +kernel
theorem d4 : decode yB 4 = .ok (.arraylength, 1) := by decide +kernel
theorem d5 : decode yB 5 = .ok (.aconst_null, 1) := by decide +kernel
theorem d6 : decode yB 6 = .ok (.invokespecial 27, 3) := by decide +kernel
theorem d9 : decode yB 9 = .ok (.return_, 1) := by decide +kernel
def site : List Cond := [New4.tab] ++ initW "java/lang/String" 27 New4.yN
def tab : Cond := tabOf yN yB 2 none site
def P (a : Addr) (D : Cell) (fV fC : Field) (b : Addr) (A : Cell) (z : Int32) (args : Array Value) (s : State) : Prop := args = #[.ref a, .ref b] ∧ Blank "java/lang/String" a D s ∧ Found "java/lang/String" "value" "[B" fV s ∧ Found "java/lang/String" "coder" "B" fC s ∧ Ch b A s ∧ StaticIs s "java/lang/String" "COMPACT_STRINGS" "Z" (.int z) ∧ ¬ z = 0 ∧ 0 < A.slots.size ∧ A.slots.size ≤ 536870912 ∧ ∀ i, i < A.slots.size → ¬ 255 < cv A i
def E (a : Addr) (D : Cell) (fV fC : Field) (A : Cell) (r : Option Value) (s u : State) : Prop := Got a D fV fC A 0 A.slots.size r s u
/-- new String(chars), not empty, no char above 255: a Latin-1 String of their low bytes -/
theorem law (l : Launch) (a : Addr) (D : Cell) (fV fC : Field) (b : Addr) (A : Cell) (z : Int32) : Law l yN 2 1 3 52 yB 2 none site (P a D fV fC b A z) (E a D fV fC A) [⟨a, fC.slot⟩, ⟨a, fV.slot⟩] 1 A.slots.size := by
  refine Law.of_walk (plainFor_of_name (by decide +kernel)) (by decide +kernel) (by decide +kernel) (by decide) (fun _ _ h => by rw [h.1]; rfl) (fun _ U U' hal hh h => ⟨h.1, h.2.1.mv hal hh, h.2.2.1.al hal, h.2.2.2.1.al hal, h.2.2.2.2.1.mv hal hh, h.2.2.2.2.2.1.there hal hh, h.2.2.2.2.2.2⟩) (fun r U U' V V' h1 hal h2 h => Got.mv r U U' V V' h1 hal h2 h) ?_
  intro p e s m args below meth c s₁ X0 hexec hbytes hml hret hlk hnm hown hh0 W hP
  obtain ⟨rfl, hB, f1, f2, hA, s1, hz, l0, l2, hp⟩ := hP
  have c1 : Steps p.tables e below (s₁.setTop (entryFrame m #[.ref a, .ref b] 2)) (s₁.setTop (mkF m 0 #[.val (.ref a), .val (.ref b)] [])) := entry rfl
  have c2 : Steps p.tables e below (s₁.setTop (entryFrame m #[.ref a, .ref b] 2)) (s₁.setTop (mkF m 6 #[.val (.ref a), .val (.ref b)] [.null, .int (Int32.ofNat A.slots.size), .int 0, .ref b, .ref a])) := c1.trans (by
    refine XS.aloadN X0.here hexec rfl (hb hbytes d0) rfl rfl ?_
    refine XS.aloadN X0.here hexec rfl (hb hbytes d1) rfl rfl ?_
    refine iconstV X0.here hexec rfl 0 (hb hbytes d2) (by decide) ?_
    refine XS.aloadN X0.here hexec rfl (hb hbytes d3) rfl rfl ?_
    refine X0.alen hexec (hA.1.mv X0.warmed.alike hh0) rfl rfl (hb hbytes d4) ?_
    refine XS.aconstNull X0.here hexec rfl (hb hbytes d5) ?_
    exact Steps.refl _)
  obtain ⟨v3, T3, X3, E3, g3⟩ := X0.callN hexec (New4.law l a D fV fC b A z 0 A.slots.size) rfl hown (wks W (initW "java/lang/String" 27 New4.yN)) (W New4.tab (by simp only [site, List.mem_cons, List.mem_append, true_or, or_true])) (W := 0) (Nat.le_of_ble_eq_true rfl) (Nat.le_of_ble_eq_true rfl) (Nat.le_refl _) (by show 0 + A.slots.size ≤ A.slots.size; omega) (g := (mkF m 6 #[.val (.ref a), .val (.ref b)] [.null, .int (Int32.ofNat A.slots.size), .int (Int32.ofNat 0), .ref b, .ref a])) rfl (by rw [hml]; rfl) c2 (argsL := [.ref b, .int (Int32.ofNat 0), .int (Int32.ofNat A.slots.size), .null]) (rest := []) rfl rfl (by show 2 * 0 + 0 ≤ _; decide) (hb hbytes d6) (⟨rfl, hB.mv X0.warmed.alike hh0, f1.al X0.warmed.alike, f2.al X0.warmed.alike, hA.mv X0.warmed.alike hh0, s1.there X0.warmed.alike hh0, hz, l0, by omega, l2, fun i hi => by rw [Nat.zero_add]; exact hp i hi⟩)
  have e0 := Got.mv _ s₁ s _ _ hh0.symm (Vm.Alike.refl _) rfl E3
  obtain rfl := e0.1
  have c4 : Steps p.tables e below (s₁.setTop (entryFrame m #[.ref a, .ref b] 2)) (T3.setTop (mkF m 9 #[.val (.ref a), .val (.ref b)] [])) := g3
  exact ⟨T3, none, _, _, _, X3, by simp, rfl, by omega, (fun _ => rfl), e0, fun fs hl => c4.trans (X3.returnOut hexec hret (hb hbytes d9) hl)⟩
theorem pays {l : Launch} {R : Room} {p : Program} {e : Env} {below : List Frame} {s : State} {sargs : Array Value} {len W : Nat} (a : Addr) (D : Cell) (fV fC : Field) (b : Addr) (A : Cell) (z : Int32) (htab : tab.before sargs s = true) (hfr : 4 ≤ R.frames) (hlo : W + 65 ≤ R.locals) :
    Back l R p e below s sargs yN len W (fun A₁ a₁ => A₁.cells + 1 ≤ R.cells ∧ A₁.slots + A.slots.size ≤ R.slots ∧ P a D fV fC b A z a₁ A₁.U) (fun A₁ _ v₁ B₁ => E a D fV fC A v₁ A₁.U B₁.U ∧ B₁.locs = A₁.locs ++ [⟨a, fC.slot⟩, ⟨a, fV.slot⟩] ∧ B₁.cells = A₁.cells + 1 ∧ B₁.slots = A₁.slots + A.slots.size) :=
  (law l a D fV fC b A z).pays htab hfr (by omega)
end New1
/-- the byte, read back as charAt reads it, is the char -/
theorem lo8_mask {x : Int32} (h0 : ¬ x < 0) (h1 : ¬ 255 < x) : lo8 x &&& 255 = x := by
  have t : ∀ k : Fin 256, lo8 (Int32.ofNat k.val) &&& 255 = Int32.ofNat k.val := by decide +kernel
  rw [Int32.lt_iff_toInt_lt] at h0 h1
  have e0 : (0 : Int32).toInt = 0 := rfl
  have e1 : (255 : Int32).toInt = 255 := rfl
  obtain ⟨k, hk⟩ : ∃ k : Nat, x.toInt = k := ⟨x.toInt.toNat, by omega⟩
  have hx : x = Int32.ofNat k := Int32.toInt_inj.mp (by rw [hk, Int32.toInt_ofNat_small (by omega)])
  rw [hx]
  exact t ⟨k, by omega⟩
end StrChars
namespace StrChars.Road
open Jvm Sem ClassFile Op Lib Jvm.Stand Jvm.Free Jvm.Free.XT
open Jvm.Lib.Cold (StaticIs)
abbrev ST : String := "java/lang/String"
/-- every table word that New1's law asks, flat -/
abbrev words : List Jvm.Cond := [.code New1.yN New1.yB 2 none, .initialized ST, .methodLink ST 27 New4.yN, .instanceMethod New4.yN,
  .code New4.yN New4.yB 6 none, .fieldLink ST 38 ST "COMPACT_STRINGS" "Z", .laysFinal ST ST "value" "[B", .fieldLink ST 9 ST "value" "[B", .laysFinal ST ST "coder" "B", .fieldLink ST 15 ST "coder" "B",
  .methodLink ST 1 Lib.objectInit, .instanceMethod Lib.objectInit, .code Lib.objectInit ⟨#[0xb1]⟩ 1 none, .methodLink ST 177 Cmp3.yN, .static Cmp3.yN, .methodLink ST 47 CodL.yN, .static CodL.yN,
  .code Cmp3.yN Cmp3.yB 6 (some (.array .byte)), .initialized U16, .arrayClass .byte, .methodLink U16 115 Cmp5.yN, .static Cmp5.yN, .code Cmp5.yN Cmp5.yB 7 (some .int), .code CodL.yN CodL.yB 2 (some .byte)]
theorem tab_of {a : Array Value} {s : State} (h : ∀ w ∈ words, w.before a s = true) : New1.tab.before a s = true := by
  have h5 : Cmp5.tab.before a s = true := unparts (wk h (.code Cmp5.yN Cmp5.yB 7 (some .int))) (wks h (.initialized Cmp5.yN.cls :: Cmp5.site))
  have hc : CodL.tab.before a s = true := unparts (wk h (.code CodL.yN CodL.yB 2 (some .byte))) (wks h (.initialized CodL.yN.cls :: CodL.site))
  have q5 : ∀ w ∈ Cmp5.tab :: words, w.before a s = true := fun w hw => (List.mem_cons.mp hw).elim (fun e => e ▸ h5) (h w)
  have h3 : Cmp3.tab.before a s = true := unparts (wk q5 (.code Cmp3.yN Cmp3.yB 6 (some (.array .byte)))) (wks q5 (.initialized Cmp3.yN.cls :: Cmp3.site))
  have q3 : ∀ w ∈ Cmp3.tab :: CodL.tab :: words, w.before a s = true := fun w hw => (List.mem_cons.mp hw).elim (fun e => e ▸ h3) fun hw => (List.mem_cons.mp hw).elim (fun e => e ▸ hc) (h w)
  have h4 : New4.tab.before a s = true := unparts (wk q3 (.code New4.yN New4.yB 6 none)) (wks q3 (.initialized New4.yN.cls :: New4.site))
  have q4 : ∀ w ∈ New4.tab :: words, w.before a s = true := fun w hw => (List.mem_cons.mp hw).elim (fun e => e ▸ h4) (h w)
  exact unparts (wk q4 (.code New1.yN New1.yB 2 none)) (wks q4 (.initialized New1.yN.cls :: New1.site))
/-- the words ride from the start Z to the walk's own state -/
theorem moved {Z s : State} {a0 args : Array Value} (hZ : Z.Warmed39 s.vm) (hw : ∀ d ∈ words, d.before a0 Z = true) : ∀ d ∈ words, d.before args s = true := fun d hd => by
  have q := hw d hd
  have t : ∀ d ∈ words, d = .arrayClass .byte ∨ (d.onTables && d.keepsFace) = true := by decide +kernel
  rcases t d hd with rfl | t
  · exact RoadKit.mvA hZ q
  · exact RoadKit.mv hZ q t
/-- WHAT COMES BACK, over the tables of the start Z: h the heap at the call, h' behind it -/
def Q (Z : State) (x : Addr) (A : Cell) (h : Heap) (v : Option Value) (h' : Heap) (L : List Loc) : Prop := v = none ∧ (∀ y ∈ L, y.base = x) ∧ RoadKit.Keep h h' [x] ∧ h'.size = h.size + 1 ∧ RoadKit.Exa Z h' x ST ∧ RoadKit.Fld Z h' x ST "value" "[B" (.ref h.size) ∧ RoadKit.Fld Z h' x ST "coder" "B" (.int 0) ∧
  (∃ V : Cell, RoadKit.Arr Z h' h.size V .byte ∧ V.vm = .none ∧ Z.vm.findClass "[B" = some V.cls ∧ V.slots.size = A.slots.size ∧ ∀ j, j < A.slots.size → V.slots[j]? = some (.int (lo8 (cv A j)))) ∧
  ∀ (O n d : String) (w : Value), RoadKit.Fld Z h x O n d w → RoadKit.slotOf Z O n d ≠ RoadKit.slotOf Z ST "value" "[B" → RoadKit.slotOf Z O n d ≠ RoadKit.slotOf Z ST "coder" "B" → RoadKit.Fld Z h' x O n d w
/-- **new String(chars) AT A CALL, IN THE ROAD'S FORM**: for specialBack behind newO: x the fresh String, b the char[] with the cell A -/
theorem back {p : Program} {l : Launch} {e : Env} {R : Room} {s : State} {args : Array Value} {below : List Frame} {len W : Nat} {Z : State} {a0 : Array Value} {h : Heap} (hZ : Z.Warmed39 s.vm) (hw : ∀ d ∈ words, d.before a0 Z = true) {kI : Nat} (wi : (Jvm.Cond.instantiable ST kI).before a0 Z = true)
    {x b : Addr} {A : Cell} {z : Int32} {v0 c0 : Value} (E : RoadKit.Exa Z h x ST) (V : RoadKit.Fld Z h x ST "value" "[B" v0) (C : RoadKit.Fld Z h x ST "coder" "B" c0) (K : RoadKit.Arr Z h b A .char) (hty : Typed .char A) (S : RoadKit.Sta Z h ST "COMPACT_STRINGS" "Z" (.int z)) (hz : ¬ z = 0)
    (l0 : 0 < A.slots.size) (l2 : A.slots.size ≤ 536870912) (hp : ∀ i, i < A.slots.size → ¬ 255 < cv A i) (hfr : 4 ≤ R.frames) (hlo : W + 65 ≤ R.locals) :
    Back l R p e below s args New1.yN len W (fun P a => a = #[.ref x, .ref b] ∧ P.U.heap = h ∧ P.cells + 1 ≤ R.cells ∧ P.slots + A.slots.size ≤ R.slots)
      (fun P _ v B => ∃ L, Q Z x A h v B.U.heap L ∧ B.locs = P.locs ++ L ∧ B.cells = P.cells + 1 ∧ B.slots = P.slots + A.slots.size) := by
  intro m meth c P g ig mk a X hg hsize hdg hW hn hp'
  obtain ⟨rfl, rfl, r1, r2⟩ := hp'
  have al : Z.vm.Alike P.U.vm := hZ.alike.trans X.warmed.alike
  obtain ⟨D, cfV, kV, iV, fV, hD, gV, stV, knV, obV, asV, slV⟩ := id V
  obtain ⟨D', cfC, kC, iC, fC, hD', gC, stC, -, -, asC, slC⟩ := id C
  cases hD.symm.trans hD'
  obtain ⟨D2, kD, e1, e2, e3, e4, e5⟩ := id E
  cases hD.symm.trans e1
  obtain ⟨c2, k2, i1, i2, i3, -⟩ := Cond.instantiable_spec wi
  cases e2.symm.trans i1
  cases e3.symm.trans i2
  obtain ⟨kU, u1, u2⟩ := al.2.2 _ _ e3
  have hB : Blank ST x D P.U := ⟨hD, ⟨knV, fun q hq => by rw [hq] at obV; cases obV⟩, by rw [al.findClass]; exact e2, kU, u1, by rw [u2]; exact i3, by rw [u2]; exact e5 i3⟩
  have F1 : Found ST "value" "[B" fV P.U := ⟨SBG.found_only al ⟨cfV, kV, iV, gV⟩, stV⟩
  have F2 : Found ST "coder" "B" fC P.U := ⟨SBG.found_only al ⟨cfC, kC, iC, gC⟩, stC⟩
  have hA : Ch b A P.U := ⟨⟨K.1, State.isArrayOf_alike al K.2.1, K.2.2, by omega⟩, hty⟩
  have hS : StaticIs P.U ST "COMPACT_STRINGS" "Z" (.int z) := by
    obtain ⟨cfS, iS, kS, fS, st, cS, t1, t2, t3, t4, t5, t6, t7⟩ := S
    exact StaticIs.there (s := { Z with heap := P.U.heap }) ⟨cfS, iS, kS, fS, st, cS, t1, t2, t3, t4, t5, (fun q => by rw [q] at t6; cases t6), t7⟩ al rfl
  obtain ⟨v, B, X', ⟨⟨hv, E', V', q1, q2, q3, q4, q5, q6, q7, q8, q9, q10, q11⟩, hl, hc, hs⟩, st⟩ := New1.pays x D fV fC b A z (tab_of (moved hZ hw)) hfr hlo m meth c P g ig mk _ X hg hsize hdg hW hn ⟨r1, r2, rfl, hB, F1, F2, hA, hS, hz, l0, l2, hp⟩
  have al' : Z.vm.Alike B.U.vm := hZ.alike.trans X'.warmed.alike
  have hsz : E'.slots.size = D.slots.size := by
    obtain ⟨-, -, -, kB, w1, w2, w3⟩ := q1
    obtain ⟨kB', y1, y2⟩ := al'.2.2 _ _ e3
    rw [q2.2.1] at w1
    cases w1.symm.trans y1
    rw [w3, e5 i3, y2]
  refine ⟨v, B, X', ⟨_, ⟨hv, ?_, ⟨by omega, fun y cy hy hn' => q10 y cy (by simpa using hn') hy, fun y cy hy => ?_⟩, q11, ⟨E', _, q1.1, by rw [q2.2.1]; exact e2, by rw [q2.2.1]; exact e3, by rw [q2.1]; exact obV, fun _ => by rw [hsz]; exact e5 i3⟩,
    ⟨E', cfV, kV, iV, fV, q1.1, gV, stV, by rw [q2.1]; exact knV, by rw [q2.1]; exact obV, by rw [q2.2.1]; exact asV, q3⟩, ⟨E', cfC, kC, iC, fC, q1.1, gC, stC, by rw [q2.1]; exact knV, by rw [q2.1]; exact obV, by rw [q2.2.1]; exact asC, q4⟩,
    ⟨V', ⟨q5.1, State.isArrayOf_alike al'.symm q5.2.1, q5.2.2.1⟩, q6, by rw [← al'.findClass]; exact q7, q8, fun j hj => by have := q9 j hj; rwa [Nat.zero_add] at this⟩, fun O n d w F n1 n2 => ?_⟩, hl, hc, hs⟩, st⟩
  · intro y hy
    simp only [List.mem_cons, List.not_mem_nil, or_false] at hy
    rcases hy with rfl | rfl <;> rfl
  · by_cases q : y = x
    · subst q
      cases hD.symm.trans hy
      exact ⟨E', q1.1, q2.2.1, q2.1, hsz⟩
    · exact ⟨cy, q10 y cy q hy, rfl, rfl, rfl⟩
  · obtain ⟨D3, cf, k, i, f, g1, g2, g3, g4, g5, g6, g7⟩ := F
    cases hD.symm.trans g1
    simp only [RoadKit.slotOf, g2, gV, gC, Option.map_some, Option.getD_some] at n1 n2
    exact ⟨E', cf, k, i, f, q1.1, g2, g3, by rw [q2.1]; exact g4, by rw [q2.1]; exact g5, by rw [q2.2.1]; exact g6, by rw [q2.2.2 f.slot (by simp [n1, n2])]; exact g7⟩
end StrChars.Road
namespace StrChars.Road
open Jvm Sem ClassFile Op Lib Jvm.Stand Jvm.Free Jvm.Free.XT
/-- WHAT COMES BACK, the byte[] as a list of values -/
def QA (Z : State) (x : Addr) (zn : Int32) (cs : List Int32) (h : Heap) (v : Option Value) (h' : Heap) (L : List Loc) : Prop := v = none ∧ (∀ y ∈ L, y.base = x) ∧ RoadKit.Keep h h' [x] ∧ h'.size = h.size + 1 ∧ RoadKit.Exa Z h' x ST ∧ RoadKit.Fld Z h' x ST "value" "[B" (.ref h.size) ∧ RoadKit.Fld Z h' x ST "coder" "B" (.int 0) ∧
  (∃ kb, Z.vm.findClass "[B" = some kb ∧ RoadKit.Arv Z h' h.size kb .byte zn (cs.map fun c => .int (lo8 c)) (.int 0)) ∧
  ∀ (O n d : String) (w : Value), RoadKit.Fld Z h x O n d w → RoadKit.slotOf Z O n d ≠ RoadKit.slotOf Z ST "value" "[B" → RoadKit.slotOf Z O n d ≠ RoadKit.slotOf Z ST "coder" "B" → RoadKit.Fld Z h' x O n d w
/-- **new String(chars) AT A CALL, THE ARRAYS AS LISTS**: the char[] at b holds cs, not empty, no char above 255 -/
theorem backArv {p : Program} {l : Launch} {e : Env} {R : Room} {s : State} {args : Array Value} {below : List Frame} {len W : Nat} {Z : State} {a0 : Array Value} {h : Heap} (hZ : Z.Warmed39 s.vm) (hw : ∀ d ∈ words, d.before a0 Z = true) {kI : Nat} (wi : (Jvm.Cond.instantiable ST kI).before a0 Z = true)
    {x b : Addr} {k : ClassId} {zn z : Int32} {cs : List Int32} {dv v0 c0 : Value} (E : RoadKit.Exa Z h x ST) (V : RoadKit.Fld Z h x ST "value" "[B" v0) (C : RoadKit.Fld Z h x ST "coder" "B" c0) (K : RoadKit.Arv Z h b k .char zn (cs.map Value.int) dv) (S : RoadKit.Sta Z h ST "COMPACT_STRINGS" "Z" (.int z)) (hz : ¬ z = 0)
    (hlen : zn.toNatClampNeg = cs.length) (h0 : 0 < cs.length) (hbig : cs.length ≤ 536870912) (hall : ∀ c ∈ cs, ¬ 255 < c) (hfr : 4 ≤ R.frames) (hlo : W + 65 ≤ R.locals) :
    Back l R p e below s args New1.yN len W (fun P a => a = #[.ref x, .ref b] ∧ P.U.heap = h ∧ P.cells + 1 ≤ R.cells ∧ P.slots + cs.length ≤ R.slots)
      (fun P _ v B => ∃ L, QA Z x zn cs h v B.U.heap L ∧ B.locs = P.locs ++ L ∧ B.cells = P.cells + 1 ∧ B.slots = P.slots + cs.length) := by
  obtain ⟨A, K1, K2, K3, K4, K5, K6⟩ := K
  have e : A.slots.size = cs.length := K3.trans hlen
  have hat : ∀ (i : Nat) (hi : i < cs.length), A.slots[i]? = some (.int cs[i]) := fun i hi => by rw [K5 i (by omega)]; simp [List.getD_eq_getElem?_getD, hi]
  have hcv : ∀ (i : Nat) (hi : i < cs.length), cv A i = cs[i] := fun i hi => by unfold cv; rw [hat i hi]
  have hty : Typed .char A := fun i v hv => by
    have hi : i < A.slots.size := (Array.getElem?_eq_some_iff.mp hv).1
    have q := K5 i hi
    rw [hv] at q
    rw [Option.some.inj q]
    exact K6 i hi
  refine Back.mono (back hZ hw wi E V C K1 hty S hz (by omega) (by omega) (fun i hi => by rw [hcv i (by omega)]; exact hall _ (List.getElem_mem _)) hfr hlo) (fun P a hp => ⟨hp.1, hp.2.1, hp.2.2.1, by rw [e]; exact hp.2.2.2⟩) (fun P a v B hp hq => ?_)
  obtain ⟨L, ⟨q1, q2, q3, q4, q5, q6, q7, ⟨V', v1, v2, v3, v4, v5⟩, q9⟩, hl, hc, hs⟩ := hq
  refine ⟨L, ⟨q1, q2, q3, q4, q5, q6, q7, ⟨V'.cls, v3, V', v1, rfl, by rw [v4, e, hlen], K4, fun i hi => ?_, fun i hi => ?_⟩, q9⟩, hl, hc, by rw [hs, e]⟩
  · have hi' : i < cs.length := by omega
    rw [v5 i (by omega), hcv i hi']; simp [List.getD_eq_getElem?_getD, hi']
  · have hi' : i < cs.length := by omega
    simp only [List.getD_eq_getElem?_getD, List.getElem?_map, List.getElem?_eq_getElem hi', Option.map_some, Option.getD_some]
    exact fits_lo8 _
end StrChars.Road
namespace StrChars.Road
open Jvm Sem ClassFile Op Lib Jvm.Stand Jvm.Free Jvm.Free.XT
/-- WHAT COMES BACK, in the writer's own shape -/
def QV (Z : State) (x : Addr) (N : Int32) (bs : List Int32) (h : Heap) (n0 : Nat) (v : Option Value) (h' : Heap) (L : List Loc) : Prop := v = none ∧ RoadKit.Fr n0 L ∧ RoadKit.Keep h h' [x] ∧ RoadKit.Exa Z h' x ST ∧ RoadKit.Fld Z h' x ST "coder" "B" (.int 0) ∧
  ∃ (t : Addr) (kb : ClassId), n0 ≤ t ∧ h.size ≤ t ∧ ¬ t = x ∧ RoadKit.Fld Z h' x ST "value" "[B" (.ref t) ∧ RoadKit.Arv Z h' t kb .byte N (bs.map Value.int) (.int 0)
/-- **new String(chars) AT A CALL, FOR THE WRITER**: a char[] of n known ints, each 0 to 255 -/
theorem backV {p : Program} {l : Launch} {e : Env} {R : Room} {s : State} {args : Array Value} {below : List Frame} {len W : Nat} {Z : State} {a0 : Array Value} {h : Heap} (hZ : Z.Warmed39 s.vm) (hw : ∀ d ∈ words, d.before a0 Z = true) {kI : Nat} (wi : (Jvm.Cond.instantiable ST kI).before a0 Z = true)
    {x b : Addr} {kC : ClassId} {cs bs : List Int32} {d v0 c0 : Value} {z N : Int32} {n n0 : Nat} (hx0 : n0 ≤ x) (hh0 : n0 ≤ h.size) (E : RoadKit.Exa Z h x ST) (V : RoadKit.Fld Z h x ST "value" "[B" v0) (C : RoadKit.Fld Z h x ST "coder" "B" c0) (K : RoadKit.Arv Z h b kC .char N (cs.map Value.int) d) (S : RoadKit.Sta Z h ST "COMPACT_STRINGS" "Z" (.int z)) (hz : ¬ z = 0)
    (hn : cs.length = n) (hN : N = Int32.ofNat n) (l0 : 0 < n) (l2 : n ≤ 4000) (hp : ∀ c ∈ cs, ¬ c < 0 ∧ ¬ (255 : Int32) < c) (hb : bs = cs.map (fun c => c.toInt8.toInt32)) (hfr : 4 ≤ R.frames) (hlo : W + 65 ≤ R.locals) :
    Back l R p e below s args (⟨"java/lang/String", "<init>", "([C)V"⟩ : MethodName) len W (fun P a => a = #[.ref x, .ref b] ∧ P.U.heap = h ∧ P.cells + 1 ≤ R.cells ∧ P.slots + n ≤ R.slots)
      (fun P _ v B => ∃ L, QV Z x N bs h n0 v B.U.heap L ∧ B.locs = P.locs ++ L ∧ B.cells = P.cells + 1 ∧ B.slots = P.slots + n) := by
  subst hn hN hb
  refine Back.mono (backArv hZ hw wi E V C K S hz (n32 (by omega)) l0 (by omega) (fun c hc => (hp c hc).2) hfr hlo) (fun P a hp => hp) (fun P a v B hp hq => ?_)
  obtain ⟨L, ⟨q1, q2, q3, q4, q5, q6, q7, ⟨kb, v1, v2⟩, q9⟩, hl, hc, hs⟩ := hq
  exact ⟨L, ⟨q1, fun y hy => by rw [q2 y hy]; exact hx0, q3, q5, q7, h.size, kb, hh0, Nat.le_refl _, Nat.ne_of_gt E.lt, q6, by rw [List.map_map]; exact v2⟩, hl, hc, hs⟩
end StrChars.Road
namespace StrChars
open Jvm Sem ClassFile Op Lib Jvm.Stand Jvm.Free.XT Jvm.Free.ALB Jvm.Free.JM Jvm.Free
open Jvm.Lib.Cold (StaticIs)
def hi8 (x : Int32) : Int32 := lo8 (x >>> ((8 : Int32) &&& 31))
/-- what StringUTF16.getChar makes of two bytes -/
def pairCh (u v : Int32) : Int32 := (((u &&& 255) <<< ((0 : Int32) &&& 31)) ||| ((v &&& 255) <<< ((8 : Int32) &&& 31))).toUInt32.toUInt16.toUInt32.toInt32
theorem shr0 (c : Int32) : c >>> ((0 : Int32) &&& 31) = c := by
  have e : ((0 : Int32) &&& 31) = 0 := by decide
  rw [e]
  apply Int32.toBitVec_inj.mp
  rw [Int32.toBitVec_shiftRight]
  have e1 : ((0 : Int32).toBitVec.smod 32) = 0#32 := by decide
  rw [e1, BitVec.sshiftRight_eq']
  exact BitVec.sshiftRight_zero
theorem lo8_and (x : Int32) : (lo8 x &&& 255).toBitVec.toNat = x.toBitVec.toNat % 256 := by
  have h : (lo8 x).toBitVec = (x.toBitVec.signExtend 8).signExtend 32 := by rw [lo8, Int8.toBitVec_toInt32, Int32.toBitVec_toInt8]
  rw [Int32.toBitVec_and, BitVec.toNat_and, h]
  have e : ((x.toBitVec.signExtend 8).signExtend 32).toNat % 256 = x.toBitVec.toNat % 256 := by
    rw [BitVec.toNat_signExtend]
    have hlt := x.toBitVec.isLt
    simp only [BitVec.toNat_setWidth, BitVec.toNat_signExtend]
    split <;> split <;> omega
  rw [← e]
  exact Nat.and_two_pow_sub_one_eq_mod _ 8
theorem pair_says {c : Int32} (h0 : ¬ c < 0) (h1 : ¬ 65535 < c) : pairCh (lo8 c) (hi8 c) = c := by
  rw [Int32.lt_iff_toInt_lt] at h0 h1
  have e0 : (0 : Int32).toInt = 0 := rfl
  have e1 : (65535 : Int32).toInt = 65535 := rfl
  have hc : c.toInt = c.toBitVec.toNat := by
    have := c.toBitVec.isLt
    have e : c.toInt = c.toBitVec.toInt := rfl
    rw [e] at h0 h1
    rw [e]
    rw [BitVec.toInt_eq_toNat_cond] at h0 h1 ⊢
    split at h0 <;> split <;> omega
  have hn : c.toBitVec.toNat < 65536 := by omega
  have a1 := lo8_and c
  have a2 : (hi8 c &&& 255).toBitVec.toNat = c.toBitVec.toNat / 256 := by
    rw [hi8, lo8_and]
    have e : ((8 : Int32) &&& 31) = 8 := by decide
    rw [e, Int32.toBitVec_shiftRight]
    have e2 : ((8 : Int32).toBitVec.smod 32) = 8#32 := by decide
    rw [e2, BitVec.sshiftRight_eq', BitVec.toNat_sshiftRight_of_msb_false (by rw [BitVec.msb_eq_false_iff_two_mul_lt]; omega)]
    show c.toBitVec.toNat >>> 8 % 256 = _
    rw [Nat.shiftRight_eq_div_pow]
    omega
  unfold pairCh
  apply Int32.toBitVec_inj.mp
  apply BitVec.eq_of_toNat_eq
  have f0 : ((0 : Int32) &&& 31) = 0 := by decide
  have f8 : ((8 : Int32) &&& 31) = 8 := by decide
  rw [f0, f8]
  have g : (((lo8 c &&& 255) <<< (0 : Int32)) ||| ((hi8 c &&& 255) <<< (8 : Int32))).toBitVec.toNat = c.toBitVec.toNat := by
    rw [Int32.toBitVec_or, Int32.toBitVec_shiftLeft, Int32.toBitVec_shiftLeft]
    have s0 : ((0 : Int32).toBitVec.smod 32) = 0#32 := by decide
    have s8 : ((8 : Int32).toBitVec.smod 32) = 8#32 := by decide
    rw [s0, s8, BitVec.toNat_or]
    simp only [BitVec.shiftLeft_eq', BitVec.toNat_shiftLeft, a1, a2]
    show (c.toBitVec.toNat % 256) <<< 0 % 2 ^ 32 ||| (c.toBitVec.toNat / 256) <<< 8 % 2 ^ 32 = _
    rw [Nat.shiftLeft_zero, Nat.mod_eq_of_lt (show c.toBitVec.toNat % 256 < 2 ^ 32 by omega), Nat.mod_eq_of_lt (show (c.toBitVec.toNat / 256) <<< 8 < 2 ^ 32 by rw [Nat.shiftLeft_eq]; omega), Nat.or_comm, ← Nat.shiftLeft_add_eq_or_of_lt (by omega), Nat.shiftLeft_eq]
    omega
  show BitVec.toNat (((((lo8 c &&& 255) <<< (0 : Int32)) ||| ((hi8 c &&& 255) <<< (8 : Int32))).toBitVec.setWidth 16).setWidth 32) = _
  rw [BitVec.toNat_setWidth, BitVec.toNat_setWidth, g]
  omega
end StrChars
namespace StrChars
open Jvm Sem ClassFile Op Lib Jvm.Stand Jvm.Free.XT Jvm.Free.ALB Jvm.Free.JM Jvm.Free
open Jvm.Lib.Cold (StaticIs)
theorem shr1 {n : Nat} (h : 2 * n < 2 ^ 31) : Int32.ofNat (2 * n) >>> ((1 : Int32) &&& 31) = Int32.ofNat n := by
  have e : ((1 : Int32) &&& 31) = 1 := by decide
  rw [e]
  apply Int32.toBitVec_inj.mp
  rw [Int32.toBitVec_shiftRight]
  have e1 : ((1 : Int32).toBitVec.smod 32) = 1#32 := by decide
  have hm : (BitVec.ofNat 32 (2 * n)).toNat = 2 * n := by rw [BitVec.toNat_ofNat, Nat.mod_eq_of_lt (by omega)]
  rw [e1, BitVec.sshiftRight_eq']
  apply BitVec.eq_of_toNat_eq
  show ((BitVec.ofNat 32 (2 * n)).sshiftRight 1).toNat = (BitVec.ofNat 32 n).toNat
  rw [BitVec.toNat_sshiftRight_of_msb_false (by rw [BitVec.msb_eq_false_iff_two_mul_lt, hm]; omega), hm, BitVec.toNat_ofNat, Nat.shiftRight_eq_div_pow]
  omega
/-- charAt's cast of a byte read back -/
def chr8 (u : Int32) : Int32 := (u &&& 255).toUInt32.toUInt16.toUInt32.toInt32
theorem chr8_lo8 {c : Int32} (h0 : ¬ c < 0) (h1 : ¬ 255 < c) : chr8 (lo8 c) = c := by
  have t : ∀ k : Fin 256, (Int32.ofNat k.val).toUInt32.toUInt16.toUInt32.toInt32 = Int32.ofNat k.val := by decide +kernel
  unfold chr8
  rw [lo8_mask h0 h1]
  rw [Int32.lt_iff_toInt_lt] at h0 h1
  have e0 : (0 : Int32).toInt = 0 := rfl
  have e1 : (255 : Int32).toInt = 255 := rfl
  obtain ⟨k, hk⟩ : ∃ k : Nat, c.toInt = k := ⟨c.toInt.toNat, by omega⟩
  have hx : c = Int32.ofNat k := Int32.toInt_inj.mp (by rw [hk, Int32.toInt_ofNat_small (by omega)])
  rw [hx]
  exact t ⟨k, by omega⟩
theorem narrow_ch {c : Int32} (h0 : ¬ c < 0) (h1 : ¬ 65535 < c) : narrow .char (.int c) = .int c := by
  have q : narrow .char (.int (pairCh (lo8 c) (hi8 c))) = .int (pairCh (lo8 c) (hi8 c)) := narrow_c _
  rwa [pair_says h0 h1] at q
/-- the array's cell V codes the n chars f 0 .. f (n - 1) by the coder cd, as the JDK does: coder 1 just where some char is above 255 -/
def Cod (cd : Int32) (n : Nat) (f : Nat → Int32) (V : Cell) : Prop := (cd = 0 ∧ V.slots.size = n ∧ ∀ j, j < n → V.slots[j]? = some (.int (lo8 (f j))) ∧ ¬ 255 < f j) ∨ (cd = 1 ∧ V.slots.size = 2 * n ∧ (∀ j, j < n → V.slots[2 * j]? = some (.int (lo8 (f j))) ∧ V.slots[2 * j + 1]? = some (.int (hi8 (f j)))) ∧ ∃ j, j < n ∧ 255 < f j)
theorem Cod.cd {cd : Int32} {n : Nat} {f : Nat → Int32} {V : Cell} (h : Cod cd n f V) : cd = 0 ∨ cd = 1 := h.imp (fun q => q.1) fun q => q.1
theorem Cod.len {cd : Int32} {n : Nat} {f : Nat → Int32} {V : Cell} (h : Cod cd n f V) (hs : V.slots.size < 2 ^ 31) : Int32.ofNat V.slots.size >>> (cd &&& 31) = Int32.ofNat n := by
  rcases h with ⟨rfl, h, -⟩ | ⟨rfl, h, -⟩
  · rw [shr0, h]
  · rw [h, shr1 (by omega)]
/-- **x is a String of the n chars f 0 .. f (n - 1)**, Latin-1 or UTF-16; its array at t has the cell V -/
def Txt (x t : Addr) (V : Cell) (cd : Int32) (n : Nat) (f : Nat → Int32) (U : State) : Prop := Exact "java/lang/String" x U ∧ Has x "java/lang/String" "value" "[B" (.ref t) U ∧ Has x "java/lang/String" "coder" "B" (.int cd) U ∧ XT.Arr .byte t V U ∧ Cod cd n f V ∧ ∀ j, j < n → ¬ f j < 0 ∧ ¬ 65535 < f j
theorem Txt.mv {x t : Addr} {V : Cell} {cd : Int32} {n : Nat} {f : Nat → Int32} {U U' : State} (h : Txt x t V cd n f U) (hal : U.vm.Alike U'.vm) (hh : U'.heap = U.heap) : Txt x t V cd n f U' := ⟨h.1.mv hal hh, h.2.1.mv hal hh, h.2.2.1.mv hal hh, h.2.2.2.1.mv hal hh, h.2.2.2.2⟩
namespace Cdr
def yN : MethodName := ⟨"java/lang/String", "coder", "()B"⟩
abbrev yB : ByteArray := jdk_42_method_152_code
theorem d0 : decode yB 0 = .ok (.getstatic 38, 3) := by decide +kernel
theorem d3 : decode yB 3 = .ok (.ifCond (.eq) 10, 3) := by decide +kernel
theorem d6 : decode yB 6 = .ok (.aload_n 0, 1) := by decide +kernel
theorem d7 : decode yB 7 = .ok (.getfield 15, 3) := by decide +kernel
theorem d10 : decode yB 10 = .ok (.goto 4, 3) := by decide +kernel
theorem d14 : decode yB 14 = .ok (.ireturn, 1) := by decide +kernel
def site : List Cond := [.fieldLink "java/lang/String" 38 "java/lang/String" "COMPACT_STRINGS" "Z", .fieldLink "java/lang/String" 15 "java/lang/String" "coder" "B"]
def tab : Cond := tabOf yN yB 1 (some .byte) site
def P (x : Addr) (cd z : Int32) (args : Array Value) (s : State) : Prop := args = #[.ref x] ∧ Has x "java/lang/String" "coder" "B" (.int cd) s ∧ (cd = 0 ∨ cd = 1) ∧ StaticIs s "java/lang/String" "COMPACT_STRINGS" "Z" (.int z) ∧ ¬ z = 0
def E (cd : Int32) (r : Option Value) (s u : State) : Prop := XT.PureE (some (.int cd)) r s u
theorem law (l : Launch) (x : Addr) (cd z : Int32) : Law l yN 1 0 0 0 yB 1 (some .byte) site (P x cd z) (E cd) [] 0 0 := by
  refine Law.of_walk (plainFor_of_name (by decide +kernel)) (by decide +kernel) (by decide +kernel) (by decide) (fun _ _ h => by rw [h.1]; rfl) (fun _ U U' hal hh h => ⟨h.1, h.2.1.mv hal hh, h.2.2.1, h.2.2.2.1.there hal hh, h.2.2.2.2⟩) (fun r U U' V V' h1 hal h2 h => XT.PureE.mv r U U' V V' h1 hal h2 h) ?_
  intro p e s m args below meth c s₁ X0 hexec hbytes hml hret hlk hnm hown hh0 W hP
  obtain ⟨rfl, hx, hc, s1, hz⟩ := hP
  have c1 : Steps p.tables e below (s₁.setTop (entryFrame m #[.ref x] 1)) (s₁.setTop (mkF m 0 #[.val (.ref x)] [])) := entry rfl
  obtain ⟨T2, X2, q2, st2⟩ := X0.sget hexec hown (wk W (.fieldLink "java/lang/String" 38 "java/lang/String" "COMPACT_STRINGS" "Z")) s1 (fun _ _ h => by rw [hh0]; exact h) (g := (mkF m 0 #[.val (.ref x)] [])) rfl (hb hbytes d0)
  have hh2 := q2.trans hh0
  have c3 : Steps p.tables e below (s₁.setTop (entryFrame m #[.ref x] 1)) (T2.setTop (mkF m 7 #[.val (.ref x)] [.ref x])) := (c1.trans (st2 _ (Steps.refl _))).trans (by
    refine XS.ifNo X2.here hexec rfl (hb hbytes d3) rfl (i0_eq_f hz) ?_
    refine XS.aloadN X2.here hexec rfl (hb hbytes d6) rfl rfl ?_
    exact Steps.refl _)
  obtain ⟨T4, X4, q4, st4⟩ := X2.hget hexec hown (wk W (.fieldLink "java/lang/String" 15 "java/lang/String" "coder" "B")) (hx.mv X2.warmed.alike hh2) (g := (mkF m 7 #[.val (.ref x)] [.ref x])) rfl (rest := []) rfl (hb hbytes d7)
  have c5 : Steps p.tables e below (s₁.setTop (entryFrame m #[.ref x] 1)) (T4.setTop (mkF m 14 #[.val (.ref x)] [.int cd])) := (c3.trans (st4 _ (Steps.refl _))).trans (by
    refine XS.goto X4.here hexec rfl (pc0 := 10) rfl (hb hbytes d10) (by decide) rfl ?_
    exact Steps.refl _)
  exact ⟨T4, some (.int cd), _, _, _, X4, rfl, rfl, rfl, (fun h => by cases h), ⟨rfl, q4.trans hh2⟩, fun fs hl => c5.trans (X4.ireturnOut hexec hret (by rcases hc with rfl | rfl <;> rfl) (Or.inr (Or.inr (Or.inl rfl))) (hb hbytes d14) hl)⟩
end Cdr
namespace Len
def yN : MethodName := ⟨"java/lang/String", "length", "()I"⟩
abbrev yB : ByteArray := jdk_42_method_54_code
theorem d0 : decode yB 0 = .ok (.aload_n 0, 1) := by decide +kernel
theorem d1 : decode yB 1 = .ok (.getfield 9, 3) := by decide +kernel
theorem d4 : decode yB 4 = .ok (.arraylength, 1) := by decide +kernel
theorem d5 : decode yB 5 = .ok (.aload_n 0, 1) := by decide +kernel
theorem d6 : decode yB 6 = .ok (.invokevirtual 335, 3) := by decide +kernel
theorem d9 : decode yB 9 = .ok (.ishr, 1) := by decide +kernel
theorem d10 : decode yB 10 = .ok (.ireturn, 1) := by decide +kernel
def site : List Cond := [.fieldLink "java/lang/String" 9 "java/lang/String" "value" "[B", Cdr.tab] ++ virtW "java/lang/String" 335 "java/lang/String" Cdr.yN Cdr.yN
def tab : Cond := tabOf yN yB 1 (some .int) site
def P (x t : Addr) (V : Cell) (cd : Int32) (n : Nat) (f : Nat → Int32) (z : Int32) (args : Array Value) (s : State) : Prop := args = #[.ref x] ∧ Txt x t V cd n f s ∧ StaticIs s "java/lang/String" "COMPACT_STRINGS" "Z" (.int z) ∧ ¬ z = 0
def E (n : Nat) (r : Option Value) (s u : State) : Prop := XT.PureE (some (.int (Int32.ofNat n))) r s u
/-- length() of a String of n chars, in either coding -/
theorem law (l : Launch) (x t : Addr) (V : Cell) (cd : Int32) (n : Nat) (f : Nat → Int32) (z : Int32) : Law l yN 1 0 1 13 yB 1 (some .int) site (P x t V cd n f z) (E n) [] 0 0 := by
  refine Law.of_walk (plainFor_of_name (by decide +kernel)) (by decide +kernel) (by decide +kernel) (by decide) (fun _ _ h => by rw [h.1]; rfl) (fun _ U U' hal hh h => ⟨h.1, h.2.1.mv hal hh, h.2.2.1.there hal hh, h.2.2.2⟩) (fun r U U' V V' h1 hal h2 h => XT.PureE.mv r U U' V V' h1 hal h2 h) ?_
  intro p e s m args below meth c s₁ X0 hexec hbytes hml hret hlk hnm hown hh0 W hP
  obtain ⟨rfl, hx, s1, hz⟩ := hP
  have v31 := hx.2.2.2.1.2.2.2
  have c1 : Steps p.tables e below (s₁.setTop (entryFrame m #[.ref x] 1)) (s₁.setTop (mkF m 1 #[.val (.ref x)] [.ref x])) := Steps.trans (entry rfl) (by
    show Steps p.tables e below (s₁.setTop (mkF m 0 #[.val (.ref x)] [])) _
    refine XS.aloadN X0.here hexec rfl (hb hbytes d0) rfl rfl ?_
    exact Steps.refl _)
  obtain ⟨T2, X2, q2, st2⟩ := X0.hget hexec hown (wk W (.fieldLink "java/lang/String" 9 "java/lang/String" "value" "[B")) (hx.mv X0.warmed.alike hh0).2.1 (g := (mkF m 1 #[.val (.ref x)] [.ref x])) rfl (rest := []) rfl (hb hbytes d1)
  have hh2 := q2.trans hh0
  have hx2 := hx.mv X2.warmed.alike hh2
  have c3 : Steps p.tables e below (s₁.setTop (entryFrame m #[.ref x] 1)) (T2.setTop (mkF m 6 #[.val (.ref x)] [.ref x, .int (Int32.ofNat V.slots.size)])) := (c1.trans (st2 _ (Steps.refl _))).trans (by
    refine X2.alen hexec hx2.2.2.2.1 rfl rfl (hb hbytes d4) ?_
    refine XS.aloadN X2.here hexec rfl (hb hbytes d5) rfl rfl ?_
    exact Steps.refl _)
  obtain ⟨v4, T4, X4, E4, g4⟩ := X2.callV hexec (Cdr.law l x cd z) hown (wks W (virtW "java/lang/String" 335 "java/lang/String" Cdr.yN Cdr.yN)) rfl (by decide) (wk W Cdr.tab) (W := 1) (Nat.le_of_ble_eq_true rfl) (Nat.le_of_ble_eq_true rfl) (Nat.le_refl _) (Nat.le_refl _) (hx2.1.fc X2.warmed.alike) hx2.1.is (g := (mkF m 6 #[.val (.ref x)] [.ref x, .int (Int32.ofNat V.slots.size)])) rfl (by rw [hml]; rfl) c3 (argsL := []) (rest := [.int (Int32.ofNat V.slots.size)]) rfl rfl (by show 2 * 0 + (1 + 0) ≤ _; decide) (hb hbytes d6) (⟨rfl, hx2.2.2.1, hx.2.2.2.2.1.cd, s1.there X2.warmed.alike hh2, hz⟩)
  obtain ⟨rfl, q4⟩ := E4
  have c5 : Steps p.tables e below (s₁.setTop (entryFrame m #[.ref x] 1)) (T4.setTop (mkF m 10 #[.val (.ref x)] [.int (Int32.ofNat V.slots.size >>> (cd &&& 31))])) := Steps.trans g4 (by
    refine ishr X4.here hexec rfl (hb hbytes d9) rfl ?_
    exact Steps.refl _)
  rw [hx.2.2.2.2.1.len v31] at c5
  exact ⟨T4, some (.int (Int32.ofNat n)), _, _, _, X4, rfl, rfl, rfl, (fun h => by cases h), ⟨rfl, q4.trans hh2⟩, fun fs hl => c5.trans (X4.ireturnOut hexec hret rfl (Or.inl rfl) (hb hbytes d10) hl)⟩
theorem pays {l : Launch} {R : Room} {p : Program} {e : Env} {below : List Frame} {s : State} {sargs : Array Value} {len W : Nat} (x t : Addr) (V : Cell) (cd : Int32) (n : Nat) (f : Nat → Int32) (z : Int32) (htab : tab.before sargs s = true) (hfr : 2 ≤ R.frames) (hlo : W + 25 ≤ R.locals) :
    Back l R p e below s sargs yN len W (fun A₁ a₁ => A₁.cells + 0 ≤ R.cells ∧ A₁.slots + 0 ≤ R.slots ∧ P x t V cd n f z a₁ A₁.U) (fun A₁ _ v₁ B₁ => E n v₁ A₁.U B₁.U ∧ B₁.locs = A₁.locs ++ [] ∧ B₁.cells = A₁.cells + 0 ∧ B₁.slots = A₁.slots + 0) :=
  (law l x t V cd n f z).pays htab hfr (by omega)
end Len
namespace IsL
def yN : MethodName := ⟨"java/lang/String", "isLatin1", "()Z"⟩
abbrev yB : ByteArray := jdk_42_method_154_code
theorem d0 : decode yB 0 = .ok (.getstatic 38, 3) := by decide +kernel
theorem d3 : decode yB 3 = .ok (.ifCond (.eq) 14, 3) := by decide +kernel
theorem d6 : decode yB 6 = .ok (.aload_n 0, 1) := by decide +kernel
theorem d7 : decode yB 7 = .ok (.getfield 15, 3) := by decide +kernel
theorem d10 : decode yB 10 = .ok (.ifCond (.ne) 7, 3) := by decide +kernel
theorem d13 : decode yB 13 = .ok (.iconst 1, 1) := by decide +kernel
theorem d14 : decode yB 14 = .ok (.goto 4, 3) := by decide +kernel
theorem d17 : decode yB 17 = .ok (.iconst 0, 1) := by decide +kernel
theorem d18 : decode yB 18 = .ok (.ireturn, 1) := by decide +kernel
def site : List Cond := [.fieldLink "java/lang/String" 38 "java/lang/String" "COMPACT_STRINGS" "Z", .fieldLink "java/lang/String" 15 "java/lang/String" "coder" "B"]
def tab : Cond := tabOf yN yB 1 (some .boolean) site
def P (x : Addr) (cd z : Int32) (args : Array Value) (s : State) : Prop := args = #[.ref x] ∧ Has x "java/lang/String" "coder" "B" (.int cd) s ∧ (cd = 0 ∨ cd = 1) ∧ StaticIs s "java/lang/String" "COMPACT_STRINGS" "Z" (.int z) ∧ ¬ z = 0
def E (cd : Int32) (r : Option Value) (s u : State) : Prop := XT.PureE (some (.int (1 - cd))) r s u
theorem law (l : Launch) (x : Addr) (cd z : Int32) : Law l yN 1 0 0 0 yB 1 (some .boolean) site (P x cd z) (E cd) [] 0 0 := by
  refine Law.of_walk (plainFor_of_name (by decide +kernel)) (by decide +kernel) (by decide +kernel) (by decide) (fun _ _ h => by rw [h.1]; rfl) (fun _ U U' hal hh h => ⟨h.1, h.2.1.mv hal hh, h.2.2.1, h.2.2.2.1.there hal hh, h.2.2.2.2⟩) (fun r U U' V V' h1 hal h2 h => XT.PureE.mv r U U' V V' h1 hal h2 h) ?_
  intro p e s m args below meth c s₁ X0 hexec hbytes hml hret hlk hnm hown hh0 W hP
  obtain ⟨rfl, hx, hc, s1, hz⟩ := hP
  have c1 : Steps p.tables e below (s₁.setTop (entryFrame m #[.ref x] 1)) (s₁.setTop (mkF m 0 #[.val (.ref x)] [])) := entry rfl
  obtain ⟨T2, X2, q2, st2⟩ := X0.sget hexec hown (wk W (.fieldLink "java/lang/String" 38 "java/lang/String" "COMPACT_STRINGS" "Z")) s1 (fun _ _ h => by rw [hh0]; exact h) (g := (mkF m 0 #[.val (.ref x)] [])) rfl (hb hbytes d0)
  have hh2 := q2.trans hh0
  have c3 : Steps p.tables e below (s₁.setTop (entryFrame m #[.ref x] 1)) (T2.setTop (mkF m 7 #[.val (.ref x)] [.ref x])) := (c1.trans (st2 _ (Steps.refl _))).trans (by
    refine XS.ifNo X2.here hexec rfl (hb hbytes d3) rfl (i0_eq_f hz) ?_
    refine XS.aloadN X2.here hexec rfl (hb hbytes d6) rfl rfl ?_
    exact Steps.refl _)
  obtain ⟨T4, X4, q4, st4⟩ := X2.hget hexec hown (wk W (.fieldLink "java/lang/String" 15 "java/lang/String" "coder" "B")) (hx.mv X2.warmed.alike hh2) (g := (mkF m 7 #[.val (.ref x)] [.ref x])) rfl (rest := []) rfl (hb hbytes d7)
  have c5 : Steps p.tables e below (s₁.setTop (entryFrame m #[.ref x] 1)) (T4.setTop (mkF m 10 #[.val (.ref x)] [.int cd])) := c3.trans (st4 _ (Steps.refl _))
  have c6 : Steps p.tables e below (s₁.setTop (entryFrame m #[.ref x] 1)) (T4.setTop (mkF m 18 #[.val (.ref x)] [.int (1 - cd)])) := by
    rcases hc with rfl | rfl
    · exact c5.trans (by
        refine XS.ifNo X4.here hexec rfl (hb hbytes d10) rfl (i0_ne_f rfl) ?_
        refine iconstV X4.here hexec rfl 1 (hb hbytes d13) (by decide) ?_
        refine XS.goto X4.here hexec rfl (pc0 := 14) rfl (hb hbytes d14) (by decide) rfl ?_
        exact Steps.refl _)
    · exact c5.trans (by
        refine XS.ifYes X4.here hexec rfl (pc0 := 10) rfl (hb hbytes d10) rfl (i0_ne_t (by decide)) (by decide) rfl ?_
        refine iconstV X4.here hexec rfl 0 (hb hbytes d17) (by decide) ?_
        exact Steps.refl _)
  exact ⟨T4, some (.int (1 - cd)), _, _, _, X4, rfl, rfl, rfl, (fun h => by cases h), ⟨rfl, q4.trans hh2⟩, fun fs hl => c6.trans (X4.ireturnOut hexec hret (by rcases hc with rfl | rfl <;> rfl) (Or.inr (Or.inl rfl)) (hb hbytes d18) hl)⟩
end IsL
namespace LChA
def yN : MethodName := ⟨"java/lang/StringLatin1", "charAt", "([BI)C"⟩
abbrev yB : ByteArray := jdk_43_method_2_code
theorem d0 : decode yB 0 = .ok (.iload_n 1, 1) := by decide +kernel
theorem d1 : decode yB 1 = .ok (.aload_n 0, 1) := by decide +kernel
theorem d2 : decode yB 2 = .ok (.arraylength, 1) := by decide +kernel
theorem d3 : decode yB 3 = .ok (.invokestatic 9, 3) := by decide +kernel
theorem d6 : decode yB 6 = .ok (.aload_n 0, 1) := by decide +kernel
theorem d7 : decode yB 7 = .ok (.iload_n 1, 1) := by decide +kernel
theorem d8 : decode yB 8 = .ok (.baload, 1) := by decide +kernel
theorem d9 : decode yB 9 = .ok (.sipush 255, 3) := by decide +kernel
theorem d12 : decode yB 12 = .ok (.iand, 1) := by decide +kernel
theorem d13 : decode yB 13 = .ok (.i2c, 1) := by decide +kernel
theorem d14 : decode yB 14 = .ok (.ireturn, 1) := by decide +kernel
def site : List Cond := [JO.Str_checkIndex.tab] ++ staticW "java/lang/StringLatin1" 9 JO.Str_checkIndex.yN
def tab : Cond := tabOf yN yB 2 (some .char) site
def P (t : Addr) (V : Cell) (i : Nat) (u : Int32) (fm : Value) (args : Array Value) (s : State) : Prop := args = #[.ref t, .int (Int32.ofNat i)] ∧ XT.Arr .byte t V s ∧ V.slots[i]? = some (.int u) ∧ (StaticIs s "jdk/internal/util/Preconditions" "SIOOBE_FORMATTER" "Ljava/util/function/BiFunction;" fm ∧ fm.isRef = true)
def E (u : Int32) (r : Option Value) (s w : State) : Prop := XT.PureE (some (.int (chr8 u))) r s w
theorem law (l : Launch) (t : Addr) (V : Cell) (i : Nat) (u : Int32) (fm : Value) : Law l yN 2 2 2 27 yB 2 (some .char) site (P t V i u fm) (E u) [] 0 0 := by
  refine Law.of_walk (plainFor_of_name (by decide +kernel)) (by decide +kernel) (by decide +kernel) (by decide) (fun _ _ h => by rw [h.1]; rfl) (fun _ U U' hal hh h => ⟨h.1, h.2.1.mv hal hh, h.2.2.1, h.2.2.2.1.there hal hh, h.2.2.2.2⟩) (fun r U U' V V' h1 hal h2 h => XT.PureE.mv r U U' V V' h1 hal h2 h) ?_
  intro p e s m args below meth c s₁ X0 hexec hbytes hml hret hlk hnm hown hh0 W hP
  obtain ⟨rfl, hV, hu, s1, rf⟩ := hP
  have v31 := hV.2.2.2
  have hi : i < V.slots.size := (Array.getElem?_eq_some_iff.mp hu).1
  have c1 : Steps p.tables e below (s₁.setTop (entryFrame m #[.ref t, .int (Int32.ofNat i)] 2)) (s₁.setTop (mkF m 0 #[.val (.ref t), .val (.int (Int32.ofNat i))] [])) := entry rfl
  have c2 : Steps p.tables e below (s₁.setTop (entryFrame m #[.ref t, .int (Int32.ofNat i)] 2)) (s₁.setTop (mkF m 3 #[.val (.ref t), .val (.int (Int32.ofNat i))] [.int (Int32.ofNat V.slots.size), .int (Int32.ofNat i)])) := c1.trans (by
    refine XS.iloadN X0.here hexec rfl (hb hbytes d0) rfl ?_
    refine XS.aloadN X0.here hexec rfl (hb hbytes d1) rfl rfl ?_
    refine X0.alen hexec (hV.mv X0.warmed.alike hh0) rfl rfl (hb hbytes d2) ?_
    exact Steps.refl _)
  obtain ⟨v3, T3, X3, E3, g3⟩ := X0.callS hexec (JO.Str_checkIndex.law l (Int32.ofNat i) (Int32.ofNat V.slots.size) fm) hown (wks W (staticW "java/lang/StringLatin1" 9 JO.Str_checkIndex.yN)) (wk W JO.Str_checkIndex.tab) (W := 0) (Nat.le_of_ble_eq_true rfl) (Nat.le_of_ble_eq_true rfl) (Nat.le_refl _) (Nat.le_refl _) (g := (mkF m 3 #[.val (.ref t), .val (.int (Int32.ofNat i))] [.int (Int32.ofNat V.slots.size), .int (Int32.ofNat i)])) rfl (by rw [hml]; rfl) c2 (argsL := [.int (Int32.ofNat i), .int (Int32.ofNat V.slots.size)]) (rest := []) rfl rfl (by show 2 * 0 + 0 ≤ _; decide) (hb hbytes d3) (⟨rfl, rf, s1.there X0.warmed.alike hh0, Int32.ofNat_not_neg (by omega), lt32 v31 hi⟩)
  obtain ⟨rfl, q3⟩ := E3
  have hh3 := q3.trans hh0
  have c4 : Steps p.tables e below (s₁.setTop (entryFrame m #[.ref t, .int (Int32.ofNat i)] 2)) (T3.setTop (mkF m 14 #[.val (.ref t), .val (.int (Int32.ofNat i))] [.int (chr8 u)])) := Steps.trans g3 (by
    refine XS.aloadN X3.here hexec rfl (hb hbytes d6) rfl rfl ?_
    refine XS.iloadN X3.here hexec rfl (hb hbytes d7) rfl ?_
    refine X3.aget hexec (hV.mv X3.warmed.alike hh3) rfl hu rfl rfl (hb hbytes d8) ?_
    refine sipushV X3.here hexec rfl 255 (hb hbytes d9) (by decide) ?_
    refine XS.iand X3.here hexec rfl (hb hbytes d12) rfl ?_
    refine i2c X3.here hexec rfl (hb hbytes d13) rfl ?_
    exact Steps.refl _)
  exact ⟨T3, some (.int (chr8 u)), _, _, _, X3, rfl, rfl, rfl, (fun h => by cases h), ⟨rfl, hh3⟩, fun fs hl => c4.trans (X3.ireturnOut hexec hret (narrow_c _) (Or.inr (Or.inr (Or.inr (Or.inl rfl)))) (hb hbytes d14) hl)⟩
end LChA
end StrChars
namespace StrChars.Road
open Jvm Sem ClassFile Op Lib Jvm.Stand Jvm.Free Jvm.Free.XT
open Jvm.Lib.Cold (StaticIs)
theorem consq {a : Array Value} {s : State} {c : Jvm.Cond} {L : List Jvm.Cond} (h0 : c.before a s = true) (h : ∀ w ∈ L, w.before a s = true) : ∀ w ∈ c :: L, w.before a s = true := fun w hw => (List.mem_cons.mp hw).elim (fun e => e ▸ h0) (h w)
/-- the words of String.length(), either coding -/
abbrev wordsLen : List Jvm.Cond := [.code Len.yN Len.yB 1 (some .int), .initialized ST, .fieldLink ST 9 ST "value" "[B", .fieldLink ST 38 ST "COMPACT_STRINGS" "Z", .fieldLink ST 15 ST "coder" "B", .code Cdr.yN Cdr.yB 1 (some .byte), .methodLink ST 335 Cdr.yN, .declares Cdr.yN, .selects ST Cdr.yN Cdr.yN, .instanceMethod Cdr.yN]
theorem tabLen_of {a : Array Value} {s : State} (h : ∀ w ∈ wordsLen, w.before a s = true) : Len.tab.before a s = true := by
  have hc : Cdr.tab.before a s = true := unparts (wk h (.code Cdr.yN Cdr.yB 1 (some .byte))) (wks h (.initialized Cdr.yN.cls :: Cdr.site))
  have q := consq hc h
  exact unparts (wk q (.code Len.yN Len.yB 1 (some .int))) (wks q (.initialized Len.yN.cls :: Len.site))
theorem movedLen {Z s : State} {a0 args : Array Value} (hZ : Z.Warmed39 s.vm) (hw : ∀ d ∈ wordsLen, d.before a0 Z = true) : ∀ d ∈ wordsLen, d.before args s = true := fun d hd => by
  have q := hw d hd
  have t : ∀ d ∈ wordsLen, d = .arrayClass .byte ∨ (d.onTables && d.keepsFace) = true := by decide +kernel
  rcases t d hd with rfl | t
  · exact RoadKit.mvA hZ q
  · exact RoadKit.mv hZ q t
/-- the bytes of the chars cs, low before high -/
def wideBytes : List Int32 → List Value
  | [] => []
  | c :: cs => .int (lo8 c) :: .int (hi8 c) :: wideBytes cs
theorem wide_lo (d : Value) : ∀ (cs : List Int32) (j : Nat), j < cs.length → (wideBytes cs).getD (2 * j) d = .int (lo8 (cs.getD j 0))
  | [], j, h => absurd h (Nat.not_lt_zero j)
  | c :: cs, 0, _ => rfl
  | c :: cs, j + 1, h => by
    have q := wide_lo d cs j (by simpa using h)
    rw [show 2 * (j + 1) = 2 * j + 1 + 1 from by omega]
    simpa [wideBytes] using q
theorem wide_hi (d : Value) : ∀ (cs : List Int32) (j : Nat), j < cs.length → (wideBytes cs).getD (2 * j + 1) d = .int (hi8 (cs.getD j 0))
  | [], j, h => absurd h (Nat.not_lt_zero j)
  | c :: cs, 0, _ => rfl
  | c :: cs, j + 1, h => by
    have q := wide_hi d cs j (by simpa using h)
    rw [show 2 * (j + 1) + 1 = 2 * j + 1 + 1 + 1 from by omega]
    simpa [wideBytes] using q
theorem low_at (d : Value) (cs : List Int32) (j : Nat) (h : j < cs.length) : (cs.map fun c => Value.int (lo8 c)).getD j d = .int (lo8 (cs.getD j 0)) := by
  simp [List.getD_eq_getElem?_getD, h]
/-- an array of N2 bytes vs codes the chars cs by the coder cd -/
def CodA (cs : List Int32) (cd N2 : Int32) (vs : List Value) : Prop := (cd = 0 ∧ N2 = Int32.ofNat cs.length ∧ vs = (cs.map fun c => Value.int (lo8 c)) ∧ ∀ c ∈ cs, ¬ 255 < c) ∨ (cd = 1 ∧ N2 = Int32.ofNat (2 * cs.length) ∧ vs = wideBytes cs ∧ ∃ c ∈ cs, 255 < c)
theorem CodA.cod {cs : List Int32} {cd N2 : Int32} {vs : List Value} {V : Cell} (h : CodA cs cd N2 vs) (hn : 2 * cs.length < 2 ^ 31) (hs : V.slots.size = N2.toNatClampNeg) (hv : RoadKit.Has V vs (.int 0)) : Cod cd cs.length (fun j => cs.getD j 0) V := by
  rcases h with ⟨rfl, rfl, rfl, h⟩ | ⟨rfl, rfl, rfl, c, hc, hw⟩
  · rw [n32 (by omega)] at hs
    exact Or.inl ⟨rfl, hs, fun j hj => ⟨by rw [hv j (by omega), low_at _ _ _ hj], by
      have e : cs.getD j 0 = cs[j] := by simp [List.getD_eq_getElem?_getD, hj]
      show ¬ 255 < cs.getD j 0
      rw [e]; exact h _ (List.getElem_mem _)⟩⟩
  · rw [n32 (by omega)] at hs
    obtain ⟨j, hj, rfl⟩ := List.getElem_of_mem hc
    exact Or.inr ⟨rfl, hs, fun j hj => ⟨by rw [hv _ (by omega), wide_lo _ _ _ hj], by rw [hv _ (by omega), wide_hi _ _ _ hj]⟩, j, hj, by
      have e : cs.getD j 0 = cs[j] := by simp [List.getD_eq_getElem?_getD, hj]
      show 255 < cs.getD j 0
      rw [e]; exact hw⟩
/-- an object of exactly java/lang/String, its two fields found: as the laws ask it -/
theorem strObj {Z U : State} {a0 : Array Value} {kI : Nat} (wi : (Jvm.Cond.instantiable ST kI).before a0 Z = true) (al : Z.vm.Alike U.vm) {x : Addr} {v0 c0 : Value} (E : RoadKit.Exa Z U.heap x ST) (V : RoadKit.Fld Z U.heap x ST "value" "[B" v0) (C : RoadKit.Fld Z U.heap x ST "coder" "B" c0) :
    ∃ (D : Cell) (fV fC : Field), Blank ST x D U ∧ Found ST "value" "[B" fV U ∧ Found ST "coder" "B" fC U ∧ D.slots[fV.slot]? = some v0 ∧ D.slots[fC.slot]? = some c0 ∧ RoadKit.slotOf Z ST "value" "[B" = fV.slot ∧ RoadKit.slotOf Z ST "coder" "B" = fC.slot := by
  obtain ⟨D, cfV, kV, iV, fV, hD, gV, stV, knV, obV, asV, slV⟩ := V
  obtain ⟨D', cfC, kC, iC, fC, hD', gC, stC, -, -, asC, slC⟩ := C
  cases hD.symm.trans hD'
  obtain ⟨D2, kD, e1, e2, e3, e4, e5⟩ := E
  cases hD.symm.trans e1
  obtain ⟨c2, k2, i1, i2, i3, -⟩ := Cond.instantiable_spec wi
  cases e2.symm.trans i1
  cases e3.symm.trans i2
  obtain ⟨kU, u1, u2⟩ := al.2.2 _ _ e3
  exact ⟨D, fV, fC, ⟨hD, ⟨knV, fun q hq => by rw [hq] at obV; cases obV⟩, by rw [al.findClass]; exact e2, kU, u1, by rw [u2]; exact i3, by rw [u2]; exact e5 i3⟩, ⟨SBG.found_only al ⟨cfV, kV, iV, gV⟩, stV⟩, ⟨SBG.found_only al ⟨cfC, kC, iC, gC⟩, stC⟩, slV, slC, by simp [RoadKit.slotOf, gV], by simp [RoadKit.slotOf, gC]⟩
theorem sta_is {Z U : State} (al : Z.vm.Alike U.vm) {C n d : String} {v : Value} (S : RoadKit.Sta Z U.heap C n d v) : StaticIs U C n d v := by
  obtain ⟨cfS, iS, kS, fS, st, cS, t1, t2, t3, t4, t5, t6, t7⟩ := S
  exact StaticIs.there (s := { Z with heap := U.heap }) ⟨cfS, iS, kS, fS, st, cS, t1, t2, t3, t4, t5, (fun q => by rw [q] at t6; cases t6), t7⟩ al rfl
/-- **length() OF SUCH A STRING** -/
theorem lenW {p : Program} {l : Launch} {e : Env} {R : Room} {s : State} {args : Array Value} {below : List Frame} {len W : Nat} {Z : State} {a0 : Array Value} {h : Heap} (hZ : Z.Warmed39 s.vm) (hw : ∀ d ∈ wordsLen, d.before a0 Z = true) {kI : Nat} (wi : (Jvm.Cond.instantiable ST kI).before a0 Z = true)
    {x t : Addr} {kb : ClassId} {cs : List Int32} {cd N2 z : Int32} {vs : List Value} (E : RoadKit.Exa Z h x ST) (V : RoadKit.Fld Z h x ST "value" "[B" (.ref t)) (C : RoadKit.Fld Z h x ST "coder" "B" (.int cd)) (K : RoadKit.Arv Z h t kb .byte N2 vs (.int 0)) (hc : CodA cs cd N2 vs) (hb : ∀ c ∈ cs, ¬ c < 0 ∧ ¬ (65535 : Int32) < c)
    (S : RoadKit.Sta Z h ST "COMPACT_STRINGS" "Z" (.int z)) (hz : ¬ z = 0) (l2 : cs.length ≤ 4000) (hfr : 2 ≤ R.frames) (hlo : W + 25 ≤ R.locals) :
    Back l R p e below s args (⟨"java/lang/String", "length", "()I"⟩ : MethodName) len W (fun P a => a = #[.ref x] ∧ P.U.heap = h ∧ P.cells + 0 ≤ R.cells ∧ P.slots + 0 ≤ R.slots)
      (fun P _ v B => ∃ L, (v = some (.int (Int32.ofNat cs.length)) ∧ L = [] ∧ B.U.heap = h) ∧ B.locs = P.locs ++ L ∧ B.cells = P.cells + 0 ∧ B.slots = P.slots + 0) := by
  obtain ⟨A, K1, K2, K3, K4, K5, K6⟩ := K
  have hcod := hc.cod (by omega) K3 K5
  intro m meth c P g ig mk a X hg hsize hdg hW hn hp'
  obtain ⟨rfl, rfl, r1, r2⟩ := hp'
  have al : Z.vm.Alike P.U.vm := hZ.alike.trans X.warmed.alike
  obtain ⟨D, fV, fC, hB, F1, F2, g1, g2, -, -⟩ := strObj wi al E V C
  have hx : Txt x t A cd cs.length (fun j => cs.getD j 0) P.U := ⟨⟨_, hB.2.2.1, D, hB.1, rfl, by cases q : D.vm <;> first | rfl | exact absurd q (hB.2.1.2 _)⟩, Has.of hB F1 g1, Has.of hB F2 g2, ⟨K1.1, State.isArrayOf_alike al K1.2.1, K1.2.2, by rcases hcod with ⟨-, q, -⟩ | ⟨-, q, -⟩ <;> omega⟩, hcod, fun j hj => by
    have e : cs.getD j 0 = cs[j] := by simp [List.getD_eq_getElem?_getD, hj]
    show ¬ cs.getD j 0 < 0 ∧ ¬ 65535 < cs.getD j 0
    rw [e]; exact hb _ (List.getElem_mem _)⟩
  obtain ⟨v, B, X', ⟨⟨hv, hh⟩, hl, hk, hs⟩, st⟩ := Len.pays x t A cd cs.length (fun j => cs.getD j 0) z (tabLen_of (movedLen hZ hw)) hfr hlo m meth c P g ig mk _ X hg hsize hdg hW hn ⟨r1, r2, rfl, hx, sta_is al S, hz⟩
  exact ⟨v, B, X', ⟨[], ⟨hv, rfl, hh⟩, hl, hk, hs⟩, st⟩
end StrChars.Road
namespace StrChars.Road
open Jvm Sem ClassFile Op Lib Jvm.Stand Jvm.Free Jvm.Free.XT
open Jvm.Lib.Cold (StaticIs)
/-- the road's facts of a String, as the laws ask it -/
theorem txt_of {Z U : State} {a0 : Array Value} {kI : Nat} (wi : (Jvm.Cond.instantiable ST kI).before a0 Z = true) (al : Z.vm.Alike U.vm) {x t : Addr} {kb : ClassId} {cs : List Int32} {cd N2 : Int32} {vs : List Value} (E : RoadKit.Exa Z U.heap x ST) (V : RoadKit.Fld Z U.heap x ST "value" "[B" (.ref t)) (C : RoadKit.Fld Z U.heap x ST "coder" "B" (.int cd)) (K : RoadKit.Arv Z U.heap t kb .byte N2 vs (.int 0)) (hc : CodA cs cd N2 vs) (hb : ∀ c ∈ cs, ¬ c < 0 ∧ ¬ (65535 : Int32) < c) (l2 : cs.length ≤ 4000) :
    ∃ A, Txt x t A cd cs.length (fun j => cs.getD j 0) U := by
  obtain ⟨A, K1, K2, K3, K4, K5, K6⟩ := K
  have hcod := hc.cod (by omega) K3 K5
  obtain ⟨D, fV, fC, hB, F1, F2, g1, g2, -, -⟩ := strObj wi al E V C
  exact ⟨A, ⟨_, hB.2.2.1, D, hB.1, rfl, by cases q : D.vm <;> first | rfl | exact absurd q (hB.2.1.2 _)⟩, Has.of hB F1 g1, Has.of hB F2 g2, ⟨K1.1, State.isArrayOf_alike al K1.2.1, K1.2.2, by rcases hcod with ⟨-, q, -⟩ | ⟨-, q, -⟩ <;> omega⟩, hcod, fun j hj => by
    have e : cs.getD j 0 = cs[j] := by simp [List.getD_eq_getElem?_getD, hj]
    show ¬ cs.getD j 0 < 0 ∧ ¬ 65535 < cs.getD j 0
    rw [e]; exact hb _ (List.getElem_mem _)⟩
end StrChars.Road
namespace StrChars
open Jvm Sem ClassFile Op Lib Jvm.Stand Jvm.Free.XT Jvm.Free.ALB Jvm.Free.JM Jvm.Free
open Jvm.Lib.Cold (StaticIs)
namespace ChN
def yN : MethodName := ⟨"java/lang/String", "charAt", "(I)C"⟩
abbrev yB : ByteArray := jdk_42_method_56_code
theorem d0 : decode yB 0 = .ok (.aload_n 0, 1) := by decide +kernel
theorem d1 : decode yB 1 = .ok (.invokevirtual 492, 3) := by decide +kernel
theorem d4 : decode yB 4 = .ok (.ifCond (.eq) 12, 3) := by decide +kernel
theorem d7 : decode yB 7 = .ok (.aload_n 0, 1) := by decide +kernel
theorem d8 : decode yB 8 = .ok (.getfield 9, 3) := by decide +kernel
theorem d11 : decode yB 11 = .ok (.iload_n 1, 1) := by decide +kernel
theorem d12 : decode yB 12 = .ok (.invokestatic 495, 3) := by decide +kernel
theorem d15 : decode yB 15 = .ok (.ireturn, 1) := by decide +kernel
def site : List Cond := [.fieldLink "java/lang/String" 9 "java/lang/String" "value" "[B", IsL.tab, LChA.tab] ++ virtW "java/lang/String" 492 "java/lang/String" IsL.yN IsL.yN ++ staticW "java/lang/String" 495 LChA.yN
def tab : Cond := tabOf yN yB 2 (some .char) site
def P (x t : Addr) (V : Cell) (n : Nat) (f : Nat → Int32) (z : Int32) (fm : Value) (i : Nat) (args : Array Value) (s : State) : Prop := args = #[.ref x, .int (Int32.ofNat i)] ∧ Txt x t V 0 n f s ∧ i < n ∧ StaticIs s "java/lang/String" "COMPACT_STRINGS" "Z" (.int z) ∧ ¬ z = 0 ∧ StaticIs s "jdk/internal/util/Preconditions" "SIOOBE_FORMATTER" "Ljava/util/function/BiFunction;" fm ∧ fm.isRef = true
def E (f : Nat → Int32) (i : Nat) (r : Option Value) (s u : State) : Prop := XT.PureE (some (.int (f i))) r s u
/-- charAt(i) of a Latin-1 String of n chars, i < n: f i -/
theorem law (l : Launch) (x t : Addr) (V : Cell) (n : Nat) (f : Nat → Int32) (z : Int32) (fm : Value) (i : Nat) : Law l yN 2 1 3 40 yB 2 (some .char) site (P x t V n f z fm i) (E f i) [] 0 0 := by
  refine Law.of_walk (plainFor_of_name (by decide +kernel)) (by decide +kernel) (by decide +kernel) (by decide) (fun _ _ h => by rw [h.1]; rfl) (fun _ U U' hal hh h => ⟨h.1, h.2.1.mv hal hh, h.2.2.1, h.2.2.2.1.there hal hh, h.2.2.2.2.1, h.2.2.2.2.2.1.there hal hh, h.2.2.2.2.2.2⟩) (fun r U U' V V' h1 hal h2 h => XT.PureE.mv r U U' V V' h1 hal h2 h) ?_
  intro p e s m args below meth c s₁ X0 hexec hbytes hml hret hlk hnm hown hh0 W hP
  obtain ⟨rfl, hx, hi, s1, hz, s3, rf⟩ := hP
  have v31 := hx.2.2.2.1.2.2.2
  have hr := hx.2.2.2.2.2 i hi
  have hx0 := hx.mv X0.warmed.alike hh0
  have c1 : Steps p.tables e below (s₁.setTop (entryFrame m #[.ref x, .int (Int32.ofNat i)] 2)) (s₁.setTop (mkF m 1 #[.val (.ref x), .val (.int (Int32.ofNat i))] [.ref x])) := Steps.trans (entry rfl) (by
    show Steps p.tables e below (s₁.setTop (mkF m 0 #[.val (.ref x), .val (.int (Int32.ofNat i))] [])) _
    refine XS.aloadN X0.here hexec rfl (hb hbytes d0) rfl rfl ?_
    exact Steps.refl _)
  obtain ⟨v2, T2, X2, E2, g2⟩ := X0.callV hexec (IsL.law l x 0 z) hown (wks W (virtW "java/lang/String" 492 "java/lang/String" IsL.yN IsL.yN)) rfl (by decide) (wk W IsL.tab) (W := 0) (Nat.le_of_ble_eq_true rfl) (Nat.le_of_ble_eq_true rfl) (Nat.le_refl _) (Nat.le_refl _) (hx0.1.fc X0.warmed.alike) hx0.1.is (g := (mkF m 1 #[.val (.ref x), .val (.int (Int32.ofNat i))] [.ref x])) rfl (by rw [hml]; rfl) c1 (argsL := []) (rest := []) rfl rfl (by show 2 * 0 + 0 ≤ _; decide) (hb hbytes d1) (⟨rfl, hx0.2.2.1, hx.2.2.2.2.1.cd, s1.there X0.warmed.alike hh0, hz⟩)
  obtain ⟨rfl, q2⟩ := E2
  have hh2 := q2.trans hh0
  have hx2 := hx.mv X2.warmed.alike hh2
  obtain ⟨-, k1, k2⟩ | ⟨k0, -⟩ := hx.2.2.2.2.1
  · have c3 : Steps p.tables e below (s₁.setTop (entryFrame m #[.ref x, .int (Int32.ofNat i)] 2)) (T2.setTop (mkF m 8 #[.val (.ref x), .val (.int (Int32.ofNat i))] [.ref x])) := Steps.trans g2 (by
      refine XS.ifNo X2.here hexec rfl (hb hbytes d4) rfl (i0_eq_f (by decide)) ?_
      refine XS.aloadN X2.here hexec rfl (hb hbytes d7) rfl rfl ?_
      exact Steps.refl _)
    obtain ⟨T4, X4, q4, st4⟩ := X2.hget hexec hown (wk W (.fieldLink "java/lang/String" 9 "java/lang/String" "value" "[B")) hx2.2.1 (g := (mkF m 8 #[.val (.ref x), .val (.int (Int32.ofNat i))] [.ref x])) rfl (rest := []) rfl (hb hbytes d8)
    have hh4 := q4.trans hh2
    have c5 : Steps p.tables e below (s₁.setTop (entryFrame m #[.ref x, .int (Int32.ofNat i)] 2)) (T4.setTop (mkF m 12 #[.val (.ref x), .val (.int (Int32.ofNat i))] [.int (Int32.ofNat i), .ref t])) := (c3.trans (st4 _ (Steps.refl _))).trans (by
      refine XS.iloadN X4.here hexec rfl (hb hbytes d11) rfl ?_
      exact Steps.refl _)
    obtain ⟨v6, T6, X6, E6, g6⟩ := X4.callS hexec (LChA.law l t V i (lo8 (f i)) fm) hown (wks W (staticW "java/lang/String" 495 LChA.yN)) (wk W LChA.tab) (W := 0) (Nat.le_of_ble_eq_true rfl) (Nat.le_of_ble_eq_true rfl) (Nat.le_refl _) (Nat.le_refl _) (g := (mkF m 12 #[.val (.ref x), .val (.int (Int32.ofNat i))] [.int (Int32.ofNat i), .ref t])) rfl (by rw [hml]; rfl) c5 (argsL := [.ref t, .int (Int32.ofNat i)]) (rest := []) rfl rfl (by show 2 * 0 + 0 ≤ _; decide) (hb hbytes d12) (⟨rfl, hx.2.2.2.1.mv X4.warmed.alike hh4, (k2 i hi).1, s3.there X4.warmed.alike hh4, rf⟩)
    obtain ⟨rfl, q6⟩ := E6
    rw [chr8_lo8 hr.1 (k2 i hi).2] at g6
    exact ⟨T6, some (.int (f i)), _, _, _, X6, rfl, rfl, rfl, (fun h => by cases h), ⟨rfl, q6.trans hh4⟩, fun fs hl => Steps.trans g6 (X6.ireturnOut hexec hret (narrow_ch hr.1 hr.2) (Or.inr (Or.inr (Or.inr (Or.inl rfl)))) (hb hbytes d15) hl)⟩
  · exact absurd k0 (by decide)
theorem pays {l : Launch} {R : Room} {p : Program} {e : Env} {below : List Frame} {s : State} {sargs : Array Value} {len W : Nat} (x t : Addr) (V : Cell) (n : Nat) (f : Nat → Int32) (z : Int32) (fm : Value) (i : Nat) (htab : tab.before sargs s = true) (hfr : 4 ≤ R.frames) (hlo : W + 53 ≤ R.locals) :
    Back l R p e below s sargs yN len W (fun A₁ a₁ => A₁.cells + 0 ≤ R.cells ∧ A₁.slots + 0 ≤ R.slots ∧ P x t V n f z fm i a₁ A₁.U) (fun A₁ _ v₁ B₁ => E f i v₁ A₁.U B₁.U ∧ B₁.locs = A₁.locs ++ [] ∧ B₁.cells = A₁.cells + 0 ∧ B₁.slots = A₁.slots + 0) :=
  (law l x t V n f z fm i).pays htab hfr (by omega)
end ChN
end StrChars
namespace StrChars.Road
open Jvm Sem ClassFile Op Lib Jvm.Stand Jvm.Free Jvm.Free.XT
open Jvm.Lib.Cold (StaticIs)
/-- the words of String.charAt(int), the Latin-1 road alone -/
abbrev wordsChN : List Jvm.Cond := [.code ChN.yN ChN.yB 2 (some .char), .initialized ST, .fieldLink ST 9 ST "value" "[B", .fieldLink ST 38 ST "COMPACT_STRINGS" "Z", .fieldLink ST 15 ST "coder" "B", .code IsL.yN IsL.yB 1 (some .boolean), .methodLink ST 492 IsL.yN, .declares IsL.yN, .selects ST IsL.yN IsL.yN, .instanceMethod IsL.yN,
  .methodLink ST 495 LChA.yN, .static LChA.yN, .code LChA.yN LChA.yB 2 (some .char), .initialized "java/lang/StringLatin1", .methodLink "java/lang/StringLatin1" 9 JO.Str_checkIndex.yN, .static JO.Str_checkIndex.yN, .code JO.Str_checkIndex.yN JO.Str_checkIndex.yB 2 none,
  .fieldLink ST 1053 "jdk/internal/util/Preconditions" "SIOOBE_FORMATTER" "Ljava/util/function/BiFunction;", .methodLink ST 1059 JC.PreCheck.yN, .static JC.PreCheck.yN, .code JC.PreCheck.yN JC.PreCheck.yB 3 (some .int), .initialized "jdk/internal/util/Preconditions"]
theorem tabChN_of {a : Array Value} {s : State} (h : ∀ w ∈ wordsChN, w.before a s = true) : ChN.tab.before a s = true := by
  have hp : JC.PreCheck.tab.before a s = true := unparts (wk h (.code JC.PreCheck.yN JC.PreCheck.yB 3 (some .int))) (wks h (.initialized JC.PreCheck.yN.cls :: JC.PreCheck.site))
  have qk := consq hp h
  have hk : JO.Str_checkIndex.tab.before a s = true := unparts (wk qk (.code JO.Str_checkIndex.yN JO.Str_checkIndex.yB 2 none)) (wks qk (.initialized JO.Str_checkIndex.yN.cls :: JO.Str_checkIndex.site))
  have ql := consq hk h
  have hl : LChA.tab.before a s = true := unparts (wk ql (.code LChA.yN LChA.yB 2 (some .char))) (wks ql (.initialized LChA.yN.cls :: LChA.site))
  have hi : IsL.tab.before a s = true := unparts (wk h (.code IsL.yN IsL.yB 1 (some .boolean))) (wks h (.initialized IsL.yN.cls :: IsL.site))
  have q := consq hi (consq hl h)
  exact unparts (wk q (.code ChN.yN ChN.yB 2 (some .char))) (wks q (.initialized ChN.yN.cls :: ChN.site))
theorem movedChN {Z s : State} {a0 args : Array Value} (hZ : Z.Warmed39 s.vm) (hw : ∀ d ∈ wordsChN, d.before a0 Z = true) : ∀ d ∈ wordsChN, d.before args s = true := fun d hd => by
  have t : ∀ d ∈ wordsChN, (d.onTables && d.keepsFace) = true := by decide +kernel
  exact RoadKit.mv hZ (hw d hd) (t d hd)
/-- **charAt(i) OF A LATIN-1 STRING**, i < n: the char -/
theorem chN {p : Program} {l : Launch} {e : Env} {R : Room} {s : State} {args : Array Value} {below : List Frame} {len W : Nat} {Z : State} {a0 : Array Value} {h : Heap} (hZ : Z.Warmed39 s.vm) (hw : ∀ d ∈ wordsChN, d.before a0 Z = true) {kI : Nat} (wi : (Jvm.Cond.instantiable ST kI).before a0 Z = true)
    {x t : Addr} {kb : ClassId} {cs : List Int32} {N2 z : Int32} {vs : List Value} {fm : Value} {i : Nat} {j : Int32} (E : RoadKit.Exa Z h x ST) (V : RoadKit.Fld Z h x ST "value" "[B" (.ref t)) (C : RoadKit.Fld Z h x ST "coder" "B" (.int 0)) (K : RoadKit.Arv Z h t kb .byte N2 vs (.int 0)) (hc : CodA cs 0 N2 vs) (hb : ∀ c ∈ cs, ¬ c < 0 ∧ ¬ (65535 : Int32) < c)
    (S : RoadKit.Sta Z h ST "COMPACT_STRINGS" "Z" (.int z)) (hz : ¬ z = 0) (F : RoadKit.Sta Z h "jdk/internal/util/Preconditions" "SIOOBE_FORMATTER" "Ljava/util/function/BiFunction;" fm) (rf : fm.isRef = true) (l2 : cs.length ≤ 4000) (hi : i < cs.length) (hj : j = Int32.ofNat i) (hfr : 4 ≤ R.frames) (hlo : W + 53 ≤ R.locals) :
    Back l R p e below s args (⟨"java/lang/String", "charAt", "(I)C"⟩ : MethodName) len W (fun P a => a = #[.ref x, .int j] ∧ P.U.heap = h ∧ P.cells + 0 ≤ R.cells ∧ P.slots + 0 ≤ R.slots)
      (fun P _ v B => ∃ L, (v = some (.int (cs.getD i 0)) ∧ L = [] ∧ B.U.heap = h) ∧ B.locs = P.locs ++ L ∧ B.cells = P.cells + 0 ∧ B.slots = P.slots + 0) := by
  subst hj
  intro m meth c P g ig mk a X hg hsize hdg hW hn hp'
  obtain ⟨rfl, rfl, r1, r2⟩ := hp'
  have al : Z.vm.Alike P.U.vm := hZ.alike.trans X.warmed.alike
  obtain ⟨A, hx⟩ := txt_of wi al E V C K hc hb l2
  obtain ⟨v, B, X', ⟨⟨hv, hh⟩, hl, hk, hs⟩, st⟩ := ChN.pays x t A cs.length (fun j => cs.getD j 0) z fm i (tabChN_of (movedChN hZ hw)) hfr hlo m meth c P g ig mk _ X hg hsize hdg hW hn ⟨r1, r2, rfl, hx, hi, sta_is al S, hz, sta_is al F, rf⟩
  exact ⟨v, B, X', ⟨[], ⟨hv, rfl, hh⟩, hl, hk, hs⟩, st⟩
/-- what backV says of its String, as the contracts of this text ask it: cs's low bytes, coder 0 -/
theorem codOf {cs : List Int32} {n : Nat} (hn : cs.length = n) (hb : ∀ c ∈ cs, ¬ 255 < c) : CodA cs 0 (Int32.ofNat n) ((cs.map lo8).map Value.int) := Or.inl ⟨rfl, by rw [hn], by simp [List.map_map, Function.comp_def], hb⟩
end StrChars.Road
end Jvm.Pilot.@@N@@
namespace Jvm.Pilot.@@N@@
open Jvm Jvm.ClassFile Sem Op Lib Jvm.Free Jvm.Stand Jvm.LawKit Jvm.RoadKit Bundle Jvm.Pilot.@@N@@.Jvm.D
theorem own_hide {p : Program} {l : Launch} {e : Env} {R : Room} {s : State} {m : MethodId} {args : Array Value} {below : List Frame} {meth : Method} {c : Code} {T : State} {locs : List Loc} {cells slots n0 C S : Nat} (X : Stand p l e R s m args below meth c T locs cells slots) (N : Fr n0 locs) (h1 : cells ≤ C) (h2 : slots ≤ S) :
    ∃ locs', Stand p l e R s m args below meth c T locs' C S ∧ Fr n0 locs' := ⟨locs, X.more h1 h2, N⟩
def own_dg (x s : Int32) : Int32 := ((((x.toUInt32 >>> (s &&& 31).toUInt32).toInt32) &&& (15 : Int32)) - (((x.toUInt32 >>> (s &&& 31).toUInt32).toInt32) &&& (15 : Int32)) / (10 : Int32) * (10 : Int32))
def own_d9 (p : Int32) : Prop := 0 ≤ p.toInt ∧ p.toInt ≤ 9
def own_c255 (c : Int32) : Prop := ¬ c < 0 ∧ ¬ (255 : Int32) < c
def own_p10 (n : Int32) : Int32 := if n = (0 : Int32) then (1 : Int32) else if n = (1 : Int32) then (10 : Int32) else if n = (2 : Int32) then (100 : Int32) else if n = (3 : Int32) then (1000 : Int32) else if n = (4 : Int32) then (10000 : Int32) else if n = (5 : Int32) then (100000 : Int32) else if n = (6 : Int32) then (1000000 : Int32) else (1 : Int32)
def own_take (n p q r s : Int32) : List Int32 := if n = (1 : Int32) then [p] else if n = (2 : Int32) then [p, q] else if n = (3 : Int32) then [p, q, r] else [p, q, r, s]
def own_str (Z : State) (h : Heap) (x : Addr) (cs : List Int32) : Prop := ∃ (t : Addr) (kb : ClassId), Exa Z h x "java/lang/String" ∧ Fld Z h x "java/lang/String" "coder" "B" (.int (0 : Int32)) ∧ Fld Z h x "java/lang/String" "value" "[B" (.ref t) ∧ Arv Z h t kb .byte (Int32.ofNat cs.length) ((cs.map fun c => c.toInt8.toInt32).map Value.int) (.int (0 : Int32))
theorem own_of9 {p : Int32} (h : own_d9 p) : ∃ k : Fin 10, p = Int32.ofNat k.val := by
  unfold own_d9 at h
  refine ⟨⟨p.toInt.toNat, by omega⟩, ?_⟩
  apply Int32.toInt_inj.mp
  rw [Int32.toInt_ofNat_of_lt (by simp only; omega)]
  simp only; omega
theorem own_ch9f : ∀ k : Fin 10, nar .char (((48 : Int32) + Int32.ofNat k.val).toUInt32.toUInt16.toUInt32.toInt32) = (48 : Int32) + Int32.ofNat k.val := by decide +kernel
theorem own_ch9 {p : Int32} (h : own_d9 p) : nar .char (((48 : Int32) + p).toUInt32.toUInt16.toUInt32.toInt32) = (48 : Int32) + p := by
  obtain ⟨k, rfl⟩ := own_of9 h
  exact own_ch9f k
theorem own_b8 (p : Int32) : nar .byte (p.toInt8.toInt32) = p.toInt8.toInt32 := by
  show (p.toInt8.toInt32).toInt8.toInt32 = p.toInt8.toInt32
  rw [Int8.toInt8_toInt32]
theorem own_of255 {p : Int32} (h : own_c255 p) : ∃ k : Fin 256, p = Int32.ofNat k.val := by
  unfold own_c255 at h
  rw [Int32.lt_iff_toInt_lt, Int32.lt_iff_toInt_lt] at h
  have z : (0 : Int32).toInt = 0 := rfl
  have y : (255 : Int32).toInt = 255 := rfl
  refine ⟨⟨p.toInt.toNat, by omega⟩, ?_⟩
  apply Int32.toInt_inj.mp
  rw [Int32.toInt_ofNat_of_lt (by simp only; omega)]
  simp only; omega
theorem own_c16f : ∀ k : Fin 256, nar .char (Int32.ofNat k.val) = Int32.ofNat k.val := by decide +kernel
theorem own_c16 {p : Int32} (h : own_c255 p) : nar .char p = p := by
  obtain ⟨k, rfl⟩ := own_of255 h
  exact own_c16f k
theorem hws (a0 : Array Value) (Z : State) (hw : ∀ d ∈ tables_1, d.before a0 Z = true) : ∀ d ∈ StrChars.Road.words, d.before a0 Z = true := fun d hd => hw d ((by decide +kernel : ∀ d ∈ StrChars.Road.words, d ∈ tables_1) d hd)
theorem hwsL (a0 : Array Value) (Z : State) (hw : ∀ d ∈ tables_1, d.before a0 Z = true) : ∀ d ∈ StrChars.Road.wordsLen, d.before a0 Z = true := fun d hd => hw d ((by decide +kernel : ∀ d ∈ StrChars.Road.wordsLen, d ∈ tables_1) d hd)
theorem hwsC (a0 : Array Value) (Z : State) (hw : ∀ d ∈ tables_1, d.before a0 Z = true) : ∀ d ∈ StrChars.Road.wordsChN, d.before a0 Z = true := fun d hd => hw d ((by decide +kernel : ∀ d ∈ StrChars.Road.wordsChN, d ∈ tables_1) d hd)
theorem own_up {cs : List Int32} (hp : ∀ c ∈ cs, own_c255 c) : ∀ c ∈ cs, ¬ c < 0 ∧ ¬ (65535 : Int32) < c := fun c hc => by
  have h := hp c hc
  unfold own_c255 at h
  rw [Int32.lt_iff_toInt_lt, Int32.lt_iff_toInt_lt] at h ⊢
  have z : (0 : Int32).toInt = 0 := rfl
  have y : (255 : Int32).toInt = 255 := rfl
  have x : (65535 : Int32).toInt = 65535 := rfl
  omega
abbrev own_S : Type := Int32 × Int32 × Int32 × Int32 × Int32 × Int64 × Int64 × Int64
abbrev own_S.fr (s : own_S) : Int32 := s.1
abbrev own_S.ex (s : own_S) : Int32 := s.2.1
abbrev own_S.ng (s : own_S) : Int32 := s.2.2.1
abbrev own_S.ne (s : own_S) : Int32 := s.2.2.2.1
abbrev own_S.nz (s : own_S) : Int32 := s.2.2.2.2.1
abbrev own_S.tz (s : own_S) : Int64 := s.2.2.2.2.2.1
abbrev own_S.fd (s : own_S) : Int64 := s.2.2.2.2.2.2.1
abbrev own_S.xp (s : own_S) : Int64 := s.2.2.2.2.2.2.2
abbrev own_mk (fr ex ng ne nz : Int32) (tz fd xp : Int64) : own_S := (fr, ex, ng, ne, nz, tz, fd, xp)
def own_step (s : own_S) (c : Int32) : own_S :=
  if s.ex = (0 : Int32) then
    (if c = (46 : Int32) then (own_mk (1) s.ex s.ng s.ne s.nz s.tz s.fd s.xp) else if c = (101 : Int32) then (own_mk s.fr (1) s.ng s.ne s.nz s.tz s.fd s.xp) else if c = (69 : Int32) then (own_mk s.fr (1) s.ng s.ne s.nz s.tz s.fd s.xp) else if c = (45 : Int32) then (own_mk s.fr s.ex (1) s.ne s.nz s.tz s.fd s.xp)
     else if c = (48 : Int32) then (if s.fr = (0 : Int32) then (own_mk s.fr s.ex s.ng s.ne s.nz (s.tz + 1) s.fd s.xp) else (own_mk s.fr s.ex s.ng s.ne s.nz (s.tz + 1) (s.fd + 1) s.xp))
     else if s.fr = (0 : Int32) then (own_mk s.fr s.ex s.ng s.ne (1) (0) s.fd s.xp) else (own_mk s.fr s.ex s.ng s.ne (1) (0) (s.fd + 1) s.xp))
  else (if c = (45 : Int32) then (own_mk s.fr s.ex s.ng (1) s.nz s.tz s.fd s.xp) else if c = (43 : Int32) then s else if s.xp < (115292150460684697 : Int64) then (own_mk s.fr s.ex s.ng s.ne s.nz s.tz s.fd (s.xp * (10 : Int64) + (c - (48 : Int32)).toInt64)) else (own_mk s.fr s.ex s.ng s.ne s.nz s.tz s.fd ((1152921504606846976 : Int64))))
def own_IG : String := "com/example/reed/reed/engine/Integrality"
def own_F (Z : State) (h : Heap) (a : Addr) (s : own_S) : Prop :=
  Exa Z h a "com/example/reed/reed/engine/Integrality" ∧ Fld Z h a "com/example/reed/reed/engine/Integrality" "significand" "Lcom/example/reed/reed/engine/Digits;" .null ∧ Fld Z h a "com/example/reed/reed/engine/Integrality" "exponentDigits" "Lcom/example/reed/reed/engine/Digits;" .null ∧
  Fld Z h a "com/example/reed/reed/engine/Integrality" "inFraction" "Z" (.int s.fr) ∧ Fld Z h a "com/example/reed/reed/engine/Integrality" "inExponent" "Z" (.int s.ex) ∧ Fld Z h a "com/example/reed/reed/engine/Integrality" "negative" "Z" (.int s.ng) ∧ Fld Z h a "com/example/reed/reed/engine/Integrality" "negativeExponent" "Z" (.int s.ne) ∧
  Fld Z h a "com/example/reed/reed/engine/Integrality" "nonZero" "Z" (.int s.nz) ∧ Fld Z h a "com/example/reed/reed/engine/Integrality" "trailingZeros" "J" (.long s.tz) ∧ Fld Z h a "com/example/reed/reed/engine/Integrality" "fractionDigits" "J" (.long s.fd) ∧ Fld Z h a "com/example/reed/reed/engine/Integrality" "exponent" "J" (.long s.xp)
theorem own_strK {Z : State} {h h' : Heap} {x a1 : Addr} {cs : List Int32} {a0 : Array Value} (hw : ∀ d ∈ tables_1, d.before a0 Z = true) (S : own_str Z h x cs) (E : Exa Z h a1 "com/example/reed/reed/engine/Integrality") (K : Keep h h' [a1]) (w : (Cond.instantiable "com/example/reed/reed/engine/Integrality" 10).before a0 Z = true) : own_str Z h' x cs := by
  obtain ⟨t, kb, e, c, v, a⟩ := S
  have n1 : x ≠ a1 := e.ne E (by decide)
  have n2 : t ≠ a1 := Ne.symm (E.neArv a w)
  exact ⟨t, kb, e.keep K, c.keep K (ninS n1 nin0), v.keep K (ninS n1 nin0), a.keep K (ninS n2 nin0)⟩
theorem own_strE {Z : State} {h h' : Heap} {x : Addr} {cs : List Int32} (S : own_str Z h x cs) (E : Ext h h') : own_str Z h' x cs := by
  obtain ⟨t, kb, e, c, v, a⟩ := S
  exact ⟨t, kb, e.ext E, c.ext E, v.ext E, a.ext E⟩
theorem own_strP {Z : State} {h h' : Heap} {x : Addr} {cs : List Int32} (S : own_str Z h x cs) (K : Keep h h' []) : own_str Z h' x cs := by
  obtain ⟨t, kb, e, c, v, a⟩ := S
  exact ⟨t, kb, e.keep K, c.keep K nin0, v.keep K nin0, a.keep K nin0⟩
theorem own_i32 (i : Nat) : Int32.ofNat i + 1 = Int32.ofNat (i + 1) := by
  rw [Int32.ofNat_add]; rfl
def own_sc (s : own_S) : Int64 := if s.ne = (0 : Int32) then s.xp else (-s.xp)
def own_is (s : own_S) : Int32 := if s.nz = (0 : Int32) then (1 : Int32) else if ((own_sc s - s.fd) + s.tz) < (0 : Int64) then (0 : Int32) else (1 : Int32)
def own_st0 : own_S := own_mk 0 0 0 0 0 0 0 0
def own_fold (c1 c2 c3 c4 c5 : List Int32) : own_S := c5.foldl own_step (c4.foldl own_step (c3.foldl own_step (c2.foldl own_step (c1.foldl own_step own_st0))))
def own_iv (il i0 i1 i2 : Int32) : Int32 := if il = (1 : Int32) then i0 else if il = (2 : Int32) then ((i0 * (10 : Int32)) + i1) else (((i0 * (100 : Int32)) + (i1 * (10 : Int32))) + i2)
def own_fv (fl f0 f1 f2 : Int32) : Int32 := if fl = (0 : Int32) then (0 : Int32) else if fl = (1 : Int32) then f0 else if fl = (2 : Int32) then ((f0 * (10 : Int32)) + f1) else (((f0 * (100 : Int32)) + (f1 * (10 : Int32))) + f2)
def own_ev (el e0 e1 : Int32) : Int32 := if el = (0 : Int32) then (0 : Int32) else if el = (1 : Int32) then e0 else ((e0 * (10 : Int32)) + e1)
def own_e (es ev : Int32) : Int32 := if es = (2 : Int32) then (-ev) else ev
def own_wt (d k : Int32) : Int32 := if (0 : Int32) < k then (if d = (0 : Int32) then (1 : Int32) else if k < (7 : Int32) then (if (d - d / (own_p10 k) * (own_p10 k)) = (0 : Int32) then (1 : Int32) else (0 : Int32)) else (0 : Int32)) else (1 : Int32)
def own_want (il fl el es i0 i1 i2 f0 f1 f2 e0 e1 : Int32) : Int32 := own_wt ((own_iv il i0 i1 i2 * (own_p10 fl)) + own_fv fl f0 f1 f2) (fl - own_e es (own_ev el e0 e1))
theorem own_p10nz (n : Int32) : own_p10 n ≠ 0 := by
  unfold own_p10
  repeat' split
  all_goals decide
theorem own_and (y m : Int32) (hm : m.toBitVec.toNat < 2147483648) : 0 ≤ (y &&& m).toInt ∧ (y &&& m).toInt ≤ m.toBitVec.toNat := by
  have h : ((y &&& m).toBitVec).toNat ≤ m.toBitVec.toNat := by
    rw [Int32.toBitVec_and, BitVec.toNat_and]; exact Nat.and_le_right
  have h2 : (y &&& m).toInt = ((y &&& m).toBitVec).toInt := rfl
  rw [h2, BitVec.toInt_eq_toNat_of_lt (by omega)]; omega
theorem own_fin {p : Int32} {n : Nat} (hn : n ≤ 1000) (h : 0 ≤ p.toInt ∧ p.toInt < n) : ∃ k : Fin n, p = Int32.ofNat k.val := by
  refine ⟨⟨p.toInt.toNat, by omega⟩, ?_⟩
  apply Int32.toInt_inj.mp
  rw [Int32.toInt_ofNat_of_lt (by simp only; omega)]
  simp only; omega
theorem own_dg9f : ∀ k : Fin 16, 0 ≤ (Int32.ofNat k.val - Int32.ofNat k.val / 10 * 10).toInt ∧ (Int32.ofNat k.val - Int32.ofNat k.val / 10 * 10).toInt ≤ 9 := by decide +kernel
theorem own_dg9 (x s : Int32) : own_d9 (own_dg x s) := by
  unfold own_dg own_d9
  generalize ((x.toUInt32 >>> (s &&& 31).toUInt32).toInt32) = y
  have h := own_and y 15 (by decide)
  obtain ⟨k, hk⟩ := own_fin (p := y &&& 15) (n := 16) (by decide) (by have e : ((15 : Int32).toBitVec.toNat : Int) = 15 := rfl; rw [e] at h; omega)
  rw [hk]
  exact own_dg9f k
theorem own_m3f : ∀ k : Fin 4, 0 ≤ (Int32.ofNat k.val - Int32.ofNat k.val / 3 * 3).toInt ∧ (Int32.ofNat k.val - Int32.ofNat k.val / 3 * 3).toInt < (3 : Nat) := by decide +kernel
theorem own_and3 (y : Int32) : ∃ k : Fin 4, y &&& 3 = Int32.ofNat k.val := by
  have h := own_and y 3 (by decide)
  exact own_fin (p := y &&& 3) (n := 4) (by decide) (by have e : ((3 : Int32).toBitVec.toNat : Int) = 3 := rfl; rw [e] at h; omega)
theorem own_m3 (y : Int32) : ∃ k : Fin 3, ((y &&& (3 : Int32)) - (y &&& (3 : Int32)) / (3 : Int32) * (3 : Int32)) = Int32.ofNat k.val := by
  obtain ⟨k, hk⟩ := own_and3 y
  rw [hk]
  exact own_fin (by decide) (own_m3f k)
theorem own_c48f : ∀ k : Fin 10, ¬ ((48 : Int32) + Int32.ofNat k.val) < 0 ∧ ¬ (255 : Int32) < ((48 : Int32) + Int32.ofNat k.val) := by decide +kernel
theorem own_c48 {p : Int32} (h : own_d9 p) : own_c255 ((48 : Int32) + p) := by
  obtain ⟨k, rfl⟩ := own_of9 h
  exact own_c48f k
theorem own_takeC {n p q r s : Int32} (hp : own_c255 p) (hq : own_c255 q) (hr : own_c255 r) (hs : own_c255 s) : ∀ c ∈ own_take n p q r s, own_c255 c := by
  intro c hc
  unfold own_take at hc
  repeat' split at hc
  all_goals simp only [List.mem_cons, List.not_mem_nil, or_false] at hc
  · exact hc ▸ hp
  · rcases hc with rfl | rfl <;> assumption
  · rcases hc with rfl | rfl | rfl <;> assumption
  · rcases hc with rfl | rfl | rfl | rfl <;> assumption
theorem own_takeL (n p q r s : Int32) : (own_take n p q r s).length ≤ 4000 := by
  unfold own_take
  repeat' split
  all_goals (simp only [List.length_cons, List.length_nil]; decide)
theorem own_l48 : own_c255 (48 : Int32) := ⟨by decide, by decide⟩
theorem own_l46 : own_c255 (46 : Int32) := ⟨by decide, by decide⟩
theorem own_lm0 : ∀ c ∈ ([] : List Int32), own_c255 c := fun _ h => nomatch h
theorem own_lm45 : ∀ c ∈ ([45] : List Int32), own_c255 c := fun c h => by
  obtain rfl := List.mem_singleton.mp h
  exact ⟨by decide, by decide⟩
theorem own_ht0 : (∀ c ∈ "".toList, c.toNat < 256) ∧ "".toList.map (fun c => Value.int (Jvm.Lit.byteI c.toNat.toUInt16)) = [] := ⟨by simp, by simp⟩
theorem own_ht1 : (∀ c ∈ "-".toList, c.toNat < 256) ∧ "-".toList.map (fun c => Value.int (Jvm.Lit.byteI c.toNat.toUInt16)) = [.int 45] := by
  have e : "-".toList = ['-'] := by simp
  rw [e]
  exact ⟨by simp, by rfl⟩
theorem own_hn0 : 4 * "".toList.length ≤ 0 := by simp
theorem own_hn1 : 4 * "-".toList.length ≤ 4 := by
  have e : "-".toList = ['-'] := by simp
  rw [e]; decide
def own_R (s : own_S) (fr : Int32) (n f D : Nat) : Prop := s.ex = (0 : Int32) ∧ s.ne = (0 : Int32) ∧ s.xp = (0 : Int64) ∧ s.fr = fr ∧ s.fd = Int64.ofNat f ∧ ∃ t : Nat, s.tz = Int64.ofNat t ∧ t ≤ n ∧ ((s.nz = (0 : Int32) ∧ D = 0) ∨ (s.nz = (1 : Int32) ∧ D ≠ 0 ∧ 10 ^ t ∣ D ∧ ¬ 10 ^ (t + 1) ∣ D))
theorem own_R0 : own_R own_st0 0 0 0 0 := ⟨rfl, rfl, rfl, rfl, rfl, 0, rfl, Nat.le_refl _, Or.inl ⟨rfl, rfl⟩⟩
theorem own_Rs {s : own_S} {fr : Int32} {n f D : Nat} (h : own_R s fr n f D) : own_R (own_step s (45 : Int32)) fr n f D := by
  obtain ⟨e1, e2, e3, e4, e5, t, e6, e7, e8⟩ := h
  unfold own_step
  rw [if_pos e1, if_neg (by decide), if_neg (by decide), if_neg (by decide), if_pos rfl]
  exact ⟨e1, e2, e3, e4, e5, t, e6, e7, e8⟩
theorem own_Rp {s : own_S} {fr : Int32} {n f D : Nat} (h : own_R s fr n f D) : own_R (own_step s (46 : Int32)) 1 n f D := by
  obtain ⟨e1, e2, e3, e4, e5, t, e6, e7, e8⟩ := h
  unfold own_step
  rw [if_pos e1, if_pos rfl]
  exact ⟨e1, e2, e3, rfl, e5, t, e6, e7, e8⟩
theorem own_cne : ∀ k : Fin 10, ((48 : Int32) + Int32.ofNat k.val) ≠ 46 ∧ ((48 : Int32) + Int32.ofNat k.val) ≠ 101 ∧ ((48 : Int32) + Int32.ofNat k.val) ≠ 69 ∧ ((48 : Int32) + Int32.ofNat k.val) ≠ 45 ∧ ((48 : Int32) + Int32.ofNat k.val) ≠ 43 ∧ (((48 : Int32) + Int32.ofNat k.val) = 48 ↔ k.val = 0) := by decide +kernel
theorem own_Rd {s : own_S} {fr : Int32} {n f D : Nat} (k : Fin 10) (h : own_R s fr n f D) : own_R (own_step s ((48 : Int32) + Int32.ofNat k.val)) fr (n + 1) (if fr = (0 : Int32) then f else f + 1) (D * 10 + k.val) := by
  obtain ⟨c1, c2, c3, c4, -, c6⟩ := own_cne k
  obtain ⟨e1, e2, e3, e4, e5, t, e6, e7, e8⟩ := h
  unfold own_step
  rw [if_pos e1, if_neg c1, if_neg c2, if_neg c3, if_neg c4, e4]
  have a1 : Int64.ofNat t + 1 = Int64.ofNat (t + 1) := (Int64.ofNat_add t 1).symm
  have a2 : Int64.ofNat f + 1 = Int64.ofNat (f + 1) := (Int64.ofNat_add f 1).symm
  by_cases hk : k.val = 0
  · rw [if_pos (c6.mpr hk), hk]
    have e9 : ((s.nz = (0 : Int32) ∧ D * 10 + 0 = 0) ∨ (s.nz = (1 : Int32) ∧ D * 10 + 0 ≠ 0 ∧ 10 ^ (t + 1) ∣ D * 10 + 0 ∧ ¬ 10 ^ (t + 1 + 1) ∣ D * 10 + 0)) := by
      rcases e8 with ⟨q1, q2⟩ | ⟨q1, q2, q3, q4⟩
      · exact Or.inl ⟨q1, by omega⟩
      · refine Or.inr ⟨q1, by omega, ?_, fun q => q4 ?_⟩
        · rw [Nat.add_zero, Nat.pow_succ]; exact Nat.mul_dvd_mul_right q3 10
        · rw [Nat.add_zero, Nat.pow_succ] at q; exact Nat.dvd_of_mul_dvd_mul_right (by decide) q
    by_cases hf : fr = (0 : Int32)
    · rw [if_pos hf, if_pos hf]
      exact ⟨e1, e2, e3, rfl, e5, t + 1, by rw [← a1, ← e6], by omega, e9⟩
    · rw [if_neg hf, if_neg hf]
      exact ⟨e1, e2, e3, rfl, by rw [← a2, ← e5], t + 1, by rw [← a1, ← e6], by omega, e9⟩
  · rw [if_neg (fun q => hk (c6.mp q))]
    have hb := k.isLt
    have e9 : D * 10 + k.val ≠ 0 ∧ 10 ^ 0 ∣ D * 10 + k.val ∧ ¬ 10 ^ (0 + 1) ∣ D * 10 + k.val := by
      refine ⟨by omega, by simp, ?_⟩
      rw [show 10 ^ (0 + 1) = 10 from rfl]; omega
    by_cases hf : fr = (0 : Int32)
    · rw [if_pos hf, if_pos hf]
      exact ⟨e1, e2, e3, rfl, e5, 0, rfl, by omega, Or.inr ⟨rfl, e9⟩⟩
    · rw [if_neg hf, if_neg hf]
      exact ⟨e1, e2, e3, rfl, by rw [← a2, ← e5], 0, rfl, by omega, Or.inr ⟨rfl, e9⟩⟩
theorem own_rem32 (x y : Int32) : x - x / y * y = x % y := by
  apply Int32.toInt_inj.mp
  have h1 := Int32.le_toInt (x % y)
  have h2 := Int32.toInt_lt (x % y)
  rw [Int32.toInt_sub, Int32.toInt_mul, Int32.toInt_div, Int.bmod_mul_bmod, Int.sub_bmod_bmod, Int.mul_comm (x.toInt.tdiv y.toInt), ← Int.tmod_def, ← Int32.toInt_mod]
  exact Int.bmod_eq_of_le_mul_two (by omega) (by omega)
theorem own_f3 : ∀ j : Fin 3, j = 0 ∨ j = 1 ∨ j = 2 := by decide
/-- the whole number part -/
theorem own_A {il i0 i1 i2 : Int32} {s : own_S} (kil : ∃ k : Fin 3, il = (1 : Int32) + Int32.ofNat k.val) (a0 : own_d9 i0) (a1 : own_d9 i1) (a2 : own_d9 i2) (h : own_R s 0 0 0 0) :
    ∃ D n : Nat, n ≤ 3 ∧ D < 1000 ∧ own_iv il i0 i1 i2 = Int32.ofNat D ∧ own_R ((own_take il ((48 : Int32) + i0) ((48 : Int32) + i1) ((48 : Int32) + i2) (48 : Int32)).foldl own_step s) 0 n 0 D := by
  obtain ⟨j, rfl⟩ := kil
  obtain ⟨k0, rfl⟩ := own_of9 a0
  obtain ⟨k1, rfl⟩ := own_of9 a1
  obtain ⟨k2, rfl⟩ := own_of9 a2
  have b0 := k0.isLt
  have b1 := k1.isLt
  have b2 := k2.isLt
  have r1 := own_Rd k0 h
  rw [if_pos rfl] at r1
  have r2 := own_Rd k1 r1
  rw [if_pos rfl] at r2
  have r3 := own_Rd k2 r2
  rw [if_pos rfl] at r3
  match j with
  | ⟨0, _⟩ => exact ⟨_, _, by omega, by omega, by simp only [own_iv]; rw [if_pos (by decide)]; congr 1; omega, r1⟩
  | ⟨1, _⟩ => exact ⟨_, _, by omega, by omega, by
      simp only [own_iv]; rw [if_neg (by decide), if_pos (by decide), show (10 : Int32) = Int32.ofNat 10 from rfl, ← Int32.ofNat_mul, ← Int32.ofNat_add]; congr 1; omega, r2⟩
  | ⟨2, _⟩ => exact ⟨_, _, by omega, by omega, by
      simp only [own_iv]; rw [if_neg (by decide), if_neg (by decide), show (10 : Int32) = Int32.ofNat 10 from rfl, show (100 : Int32) = Int32.ofNat 100 from rfl, ← Int32.ofNat_mul, ← Int32.ofNat_mul, ← Int32.ofNat_add, ← Int32.ofNat_add]; congr 1; omega, r3⟩
/-- and the fraction -/
theorem own_B {fl f0 f1 f2 iv : Int32} {D0 n0 : Nat} {s : own_S} {cs3 : List Int32} (kfl : ∃ k : Fin 4, fl = Int32.ofNat k.val) (a0 : own_d9 f0) (a1 : own_d9 f1) (a2 : own_d9 f2) (hn : n0 ≤ 3) (hD : D0 < 1000) (hiv : iv = Int32.ofNat D0) (h : own_R s 0 n0 0 D0)
    (h3 : cs3 = if fl = (0 : Int32) then [] else own_take ((1 : Int32) + fl) (46 : Int32) ((48 : Int32) + f0) ((48 : Int32) + f1) ((48 : Int32) + f2)) :
    ∃ (D n f : Nat) (fr : Int32), n ≤ 6 ∧ D < 1000000 ∧ f ≤ 3 ∧ fl = Int32.ofNat f ∧ (iv * own_p10 fl + own_fv fl f0 f1 f2) = Int32.ofNat D ∧ own_R (cs3.foldl own_step s) fr n f D := by
  obtain ⟨j, rfl⟩ := kfl
  obtain ⟨k0, rfl⟩ := own_of9 a0
  obtain ⟨k1, rfl⟩ := own_of9 a1
  obtain ⟨k2, rfl⟩ := own_of9 a2
  subst hiv h3
  have b0 := k0.isLt
  have b1 := k1.isLt
  have b2 := k2.isLt
  have r0 := own_Rp h
  have r1 := own_Rd k0 r0
  rw [if_neg (by decide)] at r1
  have r2 := own_Rd k1 r1
  rw [if_neg (by decide)] at r2
  have r3 := own_Rd k2 r2
  rw [if_neg (by decide)] at r3
  match j with
  | ⟨0, _⟩ => exact ⟨D0, _, 0, 0, by omega, by omega, by omega, rfl, by
      simp only [own_fv]; rw [if_pos (by decide), show own_p10 (Int32.ofNat 0) = Int32.ofNat 1 from rfl, show (0 : Int32) = Int32.ofNat 0 from rfl, ← Int32.ofNat_mul, ← Int32.ofNat_add]; congr 1; omega, h⟩
  | ⟨1, _⟩ => exact ⟨_, _, 1, 1, by omega, by omega, by omega, rfl, by
      simp only [own_fv]; rw [if_neg (by decide), if_pos (by decide), show own_p10 (Int32.ofNat 1) = Int32.ofNat 10 from rfl, ← Int32.ofNat_mul, ← Int32.ofNat_add], r1⟩
  | ⟨2, _⟩ => exact ⟨_, _, 2, 1, by omega, by omega, by omega, rfl, by
      simp only [own_fv]; rw [if_neg (by decide), if_neg (by decide), if_pos (by decide), show own_p10 (Int32.ofNat 2) = Int32.ofNat 100 from rfl, show (10 : Int32) = Int32.ofNat 10 from rfl, ← Int32.ofNat_mul, ← Int32.ofNat_mul, ← Int32.ofNat_add, ← Int32.ofNat_add]; congr 1; omega, r2⟩
  | ⟨3, _⟩ => exact ⟨_, _, 3, 1, by omega, by omega, by omega, rfl, by
      simp only [own_fv]; rw [if_neg (by decide), if_neg (by decide), if_neg (by decide), show own_p10 (Int32.ofNat 3) = Int32.ofNat 1000 from rfl, show (10 : Int32) = Int32.ofNat 10 from rfl, show (100 : Int32) = Int32.ofNat 100 from rfl, ← Int32.ofNat_mul, ← Int32.ofNat_mul, ← Int32.ofNat_mul, ← Int32.ofNat_add, ← Int32.ofNat_add, ← Int32.ofNat_add]; congr 1; omega, r3⟩
/-- the exponent -/
theorem own_Xu {s : own_S} {up : Int32} (h : s.ex = (0 : Int32)) (hup : up = (69 : Int32) ∨ up = (101 : Int32)) : own_step s up = (own_mk s.fr (1) s.ng s.ne s.nz s.tz s.fd s.xp) := by
  unfold own_step
  rcases hup with rfl | rfl
  · rw [if_pos h, if_neg (by decide), if_neg (by decide), if_pos rfl]
  · rw [if_pos h, if_neg (by decide), if_pos rfl]
theorem own_Xm {s : own_S} (h : s.ex = (1 : Int32)) : own_step s (45 : Int32) = (own_mk s.fr s.ex s.ng (1) s.nz s.tz s.fd s.xp) := by
  unfold own_step
  rw [if_neg (by rw [h]; decide), if_pos rfl]
theorem own_Xp {s : own_S} (h : s.ex = (1 : Int32)) : own_step s (43 : Int32) = s := by
  unfold own_step
  rw [if_neg (by rw [h]; decide), if_neg (by decide), if_pos rfl]
theorem own_k64 : ∀ k : Fin 10, ((48 : Int32) + Int32.ofNat k.val - (48 : Int32)).toInt64 = Int64.ofNat k.val := by decide +kernel
theorem own_Xd {s : own_S} (k : Fin 10) (h : s.ex = (1 : Int32)) (hx : s.xp < (115292150460684697 : Int64)) : own_step s ((48 : Int32) + Int32.ofNat k.val) = (own_mk s.fr s.ex s.ng s.ne s.nz s.tz s.fd (s.xp * (10 : Int64) + Int64.ofNat k.val)) := by
  obtain ⟨-, -, -, c4, c5, -⟩ := own_cne k
  unfold own_step
  rw [if_neg (by rw [h]; decide), if_neg c4, if_neg c5, if_pos hx, own_k64]
theorem own_x1 : ∀ k : Fin 10, ((0 : Int64) * 10 + Int64.ofNat k.val) < (115292150460684697 : Int64) := by decide +kernel
theorem own_g1 : ∀ (j : Fin 3) (k : Fin 10), (if Int32.ofNat j.val = (2 : Int32) then -((0 : Int64) * 10 + Int64.ofNat k.val) else ((0 : Int64) * 10 + Int64.ofNat k.val)) = Int64.ofInt (own_e (Int32.ofNat j.val) (own_ev 1 (Int32.ofNat k.val) 0)).toInt ∧ -99 ≤ (own_e (Int32.ofNat j.val) (own_ev 1 (Int32.ofNat k.val) 0)).toInt ∧ (own_e (Int32.ofNat j.val) (own_ev 1 (Int32.ofNat k.val) 0)).toInt ≤ 99 := by decide +kernel
theorem own_g2 : ∀ (j : Fin 3) (k q : Fin 10), (if Int32.ofNat j.val = (2 : Int32) then -(((0 : Int64) * 10 + Int64.ofNat k.val) * 10 + Int64.ofNat q.val) else (((0 : Int64) * 10 + Int64.ofNat k.val) * 10 + Int64.ofNat q.val)) = Int64.ofInt (own_e (Int32.ofNat j.val) (own_ev 2 (Int32.ofNat k.val) (Int32.ofNat q.val))).toInt ∧ -99 ≤ (own_e (Int32.ofNat j.val) (own_ev 2 (Int32.ofNat k.val) (Int32.ofNat q.val))).toInt ∧ (own_e (Int32.ofNat j.val) (own_ev 2 (Int32.ofNat k.val) (Int32.ofNat q.val))).toInt ≤ 99 := by decide +kernel
theorem own_g0 : ∀ (j : Fin 3), own_e (Int32.ofNat j.val) (0 : Int32) = (0 : Int32) := by decide +kernel
/-- head of the exponent: behind it ex = 1, ne says the sign -/
theorem own_H {s : own_S} {es up sc : Int32} (j : Fin 3) (he : es = Int32.ofNat j.val) (h1 : s.ex = (0 : Int32)) (h2 : s.ne = (0 : Int32)) (hup : up = (69 : Int32) ∨ up = (101 : Int32)) (hsc : sc = if es = (1 : Int32) then (43 : Int32) else (45 : Int32)) :
    (own_take (if es = (0 : Int32) then (1 : Int32) else (2 : Int32)) up sc (48 : Int32) (48 : Int32)).foldl own_step s = (own_mk s.fr (1) s.ng (if es = (2 : Int32) then 1 else 0) s.nz s.tz s.fd s.xp) := by
  subst he hsc
  rcases own_f3 j with rfl | rfl | rfl
  · show own_step s up = _
    rw [own_Xu h1 hup, if_neg (by decide), ← h2]
  · show own_step (own_step s up) 43 = _
    rw [own_Xu h1 hup, own_Xp rfl, if_neg (by decide), ← h2]
  · show own_step (own_step s up) 45 = _
    rw [own_Xu h1 hup, own_Xm rfl, if_pos (by decide)]
theorem own_C {el es up sc y0 y1 : Int32} {s : own_S} {cs4 cs5 : List Int32} (kel : ∃ k : Fin 3, el = Int32.ofNat k.val) (kes : ∃ k : Fin 3, es = Int32.ofNat k.val) (a0 : own_d9 y0) (a1 : own_d9 y1) (h1 : s.ex = (0 : Int32)) (h2 : s.ne = (0 : Int32)) (h3 : s.xp = (0 : Int64)) (hup : up = (69 : Int32) ∨ up = (101 : Int32)) (hsc : sc = if es = (1 : Int32) then (43 : Int32) else (45 : Int32))
    (h4 : cs4 = if el = (0 : Int32) then [] else own_take (if es = (0 : Int32) then (1 : Int32) else (2 : Int32)) up sc (48 : Int32) (48 : Int32)) (h5 : cs5 = if el = (0 : Int32) then [] else own_take el ((48 : Int32) + y0) ((48 : Int32) + y1) (48 : Int32) (48 : Int32)) :
    ∃ s' : own_S, cs5.foldl own_step (cs4.foldl own_step s) = s' ∧ s'.nz = s.nz ∧ s'.tz = s.tz ∧ s'.fd = s.fd ∧ own_sc s' = Int64.ofInt (own_e es (own_ev el y0 y1)).toInt ∧ -99 ≤ (own_e es (own_ev el y0 y1)).toInt ∧ (own_e es (own_ev el y0 y1)).toInt ≤ 99 := by
  obtain ⟨i, rfl⟩ := kel
  obtain ⟨j, hj⟩ := kes
  obtain ⟨k0, rfl⟩ := own_of9 a0
  obtain ⟨k1, rfl⟩ := own_of9 a1
  have hH := own_H j hj h1 h2 hup hsc
  subst h4 h5
  have hs2 : ∀ v : Int64, own_sc (own_mk s.fr (1) s.ng (if es = (2 : Int32) then 1 else 0) s.nz s.tz s.fd (v)) = if es = (2 : Int32) then -v else v := fun v => by
    show (if (if es = (2 : Int32) then (1 : Int32) else (0 : Int32)) = (0 : Int32) then v else -v) = if es = (2 : Int32) then -v else v
    by_cases q : es = (2 : Int32)
    · rw [if_pos q, if_pos q, if_neg (by decide)]
    · rw [if_neg q, if_neg q, if_pos rfl]
  rcases own_f3 i with rfl | rfl | rfl
  · have n1 : Int32.ofNat ((0 : Fin 3).val) = (0 : Int32) := rfl
    rw [if_pos n1, if_pos n1]
    refine ⟨_, rfl, rfl, rfl, rfl, ?_⟩
    have e1 : own_ev (Int32.ofNat 0) (Int32.ofNat k0.val) (Int32.ofNat k1.val) = 0 := by unfold own_ev; rw [if_pos (by rfl)]
    show own_sc s = Int64.ofInt (own_e es (own_ev (Int32.ofNat 0) (Int32.ofNat k0.val) (Int32.ofNat k1.val))).toInt ∧ -99 ≤ (own_e es (own_ev (Int32.ofNat 0) (Int32.ofNat k0.val) (Int32.ofNat k1.val))).toInt ∧ (own_e es (own_ev (Int32.ofNat 0) (Int32.ofNat k0.val) (Int32.ofNat k1.val))).toInt ≤ 99
    rw [e1, hj, own_g0]
    unfold own_sc
    rw [if_pos h2, h3]
    exact ⟨rfl, by decide, by decide⟩
  · have n1 : ¬ Int32.ofNat ((1 : Fin 3).val) = (0 : Int32) := by decide
    rw [if_neg n1, if_neg n1, hH]
    have q := own_g1 j k0
    have e1 : own_ev (Int32.ofNat ((1 : Fin 3).val)) (Int32.ofNat k0.val) (Int32.ofNat k1.val) = own_ev 1 (Int32.ofNat k0.val) 0 := rfl
    have e2 : own_take (Int32.ofNat ((1 : Fin 3).val)) ((48 : Int32) + Int32.ofNat k0.val) ((48 : Int32) + Int32.ofNat k1.val) (48 : Int32) (48 : Int32) = [(48 : Int32) + Int32.ofNat k0.val] := rfl
    rw [e2, List.foldl_cons, List.foldl_nil, own_Xd k0 rfl (by show s.xp < _; rw [h3]; decide), e1]
    refine ⟨_, rfl, rfl, rfl, rfl, ?_⟩
    rw [hs2]
    simp only [h3]
    rw [hj]
    exact q
  · have n1 : ¬ Int32.ofNat ((2 : Fin 3).val) = (0 : Int32) := by decide
    rw [if_neg n1, if_neg n1, hH]
    have q := own_g2 j k0 k1
    have e1 : own_ev (Int32.ofNat 2) (Int32.ofNat k0.val) (Int32.ofNat k1.val) = own_ev 2 (Int32.ofNat k0.val) (Int32.ofNat k1.val) := rfl
    refine ⟨_, rfl, ?_⟩
    show (own_step (own_step _ _) _).nz = _ ∧ (own_step (own_step _ _) _).tz = _ ∧ (own_step (own_step _ _) _).fd = _ ∧ own_sc (own_step (own_step _ _) _) = Int64.ofInt (own_e es (own_ev (Int32.ofNat 2) (Int32.ofNat k0.val) (Int32.ofNat k1.val))).toInt ∧ -99 ≤ (own_e es (own_ev (Int32.ofNat 2) (Int32.ofNat k0.val) (Int32.ofNat k1.val))).toInt ∧ (own_e es (own_ev (Int32.ofNat 2) (Int32.ofNat k0.val) (Int32.ofNat k1.val))).toInt ≤ 99
    rw [own_Xd k0 rfl (by show s.xp < _; rw [h3]; decide), own_Xd k1 rfl (by show s.xp * 10 + _ < _; rw [h3]; exact own_x1 k0), hs2, e1]
    refine ⟨rfl, rfl, rfl, ?_⟩
    simp only [h3]
    rw [hj]
    exact q
theorem own_p10f : ∀ k : Fin 7, own_p10 (Int32.ofNat k.val) = Int32.ofNat (10 ^ k.val) := by decide +kernel
/-- the end -/
theorem own_D {s : own_S} {d k : Int32} {D f t : Nat} {e : Int} (hs : own_sc s = Int64.ofInt e) (he1 : -99 ≤ e) (he2 : e ≤ 99) (hf : f ≤ 3) (ht : t ≤ 6) (hD : D < 1000000) (hd : d = Int32.ofNat D) (hk : k.toInt = f - e) (hfd : s.fd = Int64.ofNat f) (htz : s.tz = Int64.ofNat t)
    (h : (s.nz = (0 : Int32) ∧ D = 0) ∨ (s.nz = (1 : Int32) ∧ D ≠ 0 ∧ 10 ^ t ∣ D ∧ ¬ 10 ^ (t + 1) ∣ D)) : own_is s = own_wt d k := by
  have hdi : d.toInt = D := by rw [hd, Int32.toInt_ofNat_of_lt (by omega)]
  have z0 : (0 : Int32).toInt = 0 := rfl
  have z7 : (7 : Int32).toInt = 7 := rfl
  unfold own_is own_wt
  rcases h with ⟨q1, q2⟩ | ⟨q1, q2, q3, q4⟩
  · rw [if_pos q1]
    have hd0 : d = 0 := by rw [hd, q2]; rfl
    rw [if_pos hd0]
    split <;> rfl
  · rw [if_neg (by rw [q1]; decide)]
    have hd0 : ¬ d = 0 := fun q => by rw [q, z0] at hdi; omega
    rw [if_neg hd0]
    have es : (own_sc s - s.fd) + s.tz = Int64.ofInt (e - f + t) := by
      rw [hs, hfd, htz, ← Int64.ofInt_eq_ofNat, ← Int64.ofInt_eq_ofNat, ← Int64.ofInt_sub, ← Int64.ofInt_add]
    have el : ((own_sc s - s.fd) + s.tz < (0 : Int64)) ↔ e - f + t < 0 := by
      rw [es, Int64.lt_iff_toInt_lt, Int64.toInt_ofInt_of_le (by omega) (by omega)]
      exact Iff.rfl
    have k0 : ((0 : Int32) < k) ↔ e < f := by rw [Int32.lt_iff_toInt_lt, hk, z0]; omega
    have k7 : (k < (7 : Int32)) ↔ f - e < 7 := by rw [Int32.lt_iff_toInt_lt, hk, z7]
    by_cases g0 : e < f
    · rw [if_pos (k0.mpr g0)]
      by_cases g7 : (f : Int) - e < 7
      · rw [if_pos (k7.mpr g7)]
        obtain ⟨K, hK⟩ : ∃ K : Nat, (K : Int) = f - e := ⟨(f - e).toNat, by omega⟩
        have hkK : k = Int32.ofNat K := by
          apply Int32.toInt_inj.mp
          rw [hk, Int32.toInt_ofNat_of_lt (by omega), hK]
        have hp : own_p10 k = Int32.ofNat (10 ^ K) := by rw [hkK]; exact own_p10f ⟨K, by omega⟩
        have hP : 10 ^ K ≤ 1000000 := Nat.le_trans (Nat.pow_le_pow_right (by decide) (show K ≤ 6 by omega)) (by decide)
        have hP0 : 0 < 10 ^ K := Nat.pow_pos (by decide)
        have hr : (d - d / own_p10 k * own_p10 k = (0 : Int32)) ↔ 10 ^ K ∣ D := by
          rw [own_rem32, hp, ← Int32.toInt_inj, Int32.toInt_mod, hdi, Int32.toInt_ofNat_of_lt (by omega), z0]
          rw [Int.tmod_eq_emod_of_nonneg (by omega)]
          constructor
          · intro q
            exact Nat.dvd_of_mod_eq_zero (by have q2 : ((D % 10 ^ K : Nat) : Int) = 0 := by rw [Int.natCast_emod]; exact q
                                             exact Int.ofNat.inj q2)
          · intro q
            rw [← Int.natCast_emod, Nat.mod_eq_zero_of_dvd q]; rfl
        by_cases gt : K ≤ t
        · rw [if_neg (fun q => by have := el.mp q; omega), if_pos (hr.mpr (Nat.dvd_trans (Nat.pow_dvd_pow 10 gt) q3))]
        · rw [if_pos (el.mpr (by omega)), if_neg (fun q => q4 (Nat.dvd_trans (Nat.pow_dvd_pow 10 (by omega)) (hr.mp q)))]
      · rw [if_neg (fun q => g7 (k7.mp q)), if_pos (el.mpr (by omega))]
    · rw [if_neg (fun q => g0 (k0.mp q)), if_neg (fun q => by have := el.mp q; omega)]
theorem own_main {il fl el es up sc i0 i1 i2 f0 f1 f2 y0 y1 : Int32} {cs1 cs3 cs4 cs5 : List Int32} (kil : ∃ k : Fin 3, il = (1 : Int32) + Int32.ofNat k.val) (kfl : ∃ k : Fin 4, fl = Int32.ofNat k.val) (kel : ∃ k : Fin 3, el = Int32.ofNat k.val) (kes : ∃ k : Fin 3, es = Int32.ofNat k.val)
    (a0 : own_d9 i0) (a1 : own_d9 i1) (a2 : own_d9 i2) (b0 : own_d9 f0) (b1 : own_d9 f1) (b2 : own_d9 f2) (c0 : own_d9 y0) (c1 : own_d9 y1) (hup : up = (69 : Int32) ∨ up = (101 : Int32)) (hsc : sc = if es = (1 : Int32) then (43 : Int32) else (45 : Int32)) (h1 : cs1 = [] ∨ cs1 = [45])
    (h3 : cs3 = if fl = (0 : Int32) then [] else own_take ((1 : Int32) + fl) (46 : Int32) ((48 : Int32) + f0) ((48 : Int32) + f1) ((48 : Int32) + f2)) (h4 : cs4 = if el = (0 : Int32) then [] else own_take (if es = (0 : Int32) then (1 : Int32) else (2 : Int32)) up sc (48 : Int32) (48 : Int32)) (h5 : cs5 = if el = (0 : Int32) then [] else own_take el ((48 : Int32) + y0) ((48 : Int32) + y1) (48 : Int32) (48 : Int32)) :
    own_is (own_fold cs1 (own_take il ((48 : Int32) + i0) ((48 : Int32) + i1) ((48 : Int32) + i2) (48 : Int32)) cs3 cs4 cs5) = own_want il fl el es i0 i1 i2 f0 f1 f2 y0 y1 := by
  have r0 : own_R (cs1.foldl own_step own_st0) 0 0 0 0 := by
    rcases h1 with rfl | rfl
    · exact own_R0
    · exact own_Rs own_R0
  obtain ⟨D0, n0, hn, hD, hiv, r1⟩ := own_A kil a0 a1 a2 r0
  obtain ⟨D, n, f, fr, hn', hD', hf, hfl, hd, r2⟩ := own_B kfl b0 b1 b2 hn hD hiv r1 h3
  obtain ⟨e1, e2, e3, -, e5, t, e6, e7, e8⟩ := r2
  obtain ⟨s', hs', q1, q2, q3, q4, q5, q6⟩ := own_C kel kes c0 c1 e1 e2 e3 hup hsc h4 h5
  unfold own_fold own_want
  rw [hs']
  refine own_D q4 q5 q6 hf (by omega) hD' hd ?_ (q3.trans e5) (q2.trans e6) (by rw [q1]; exact e8)
  rw [Int32.toInt_sub, hfl, Int32.toInt_ofNat_of_lt (by omega)]
  rw [Int.bmod_eq_of_le (by omega) (by omega)]
theorem d1_0 : decode method_3_code 0 = .ok (.iload_n 0, 1) := by decide +kernel
theorem d1_1 : decode method_3_code 1 = .ok (.iload_n 1, 1) := by decide +kernel
theorem d1_2 : decode method_3_code 2 = .ok (.iushr, 1) := by decide +kernel
theorem d1_3 : decode method_3_code 3 = .ok (.bipush 15, 2) := by decide +kernel
theorem d1_5 : decode method_3_code 5 = .ok (.iand, 1) := by decide +kernel
theorem d1_6 : decode method_3_code 6 = .ok (.bipush 10, 2) := by decide +kernel
theorem d1_8 : decode method_3_code 8 = .ok (.irem, 1) := by decide +kernel
theorem d1_9 : decode method_3_code 9 = .ok (.ireturn, 1) := by decide +kernel
theorem pn_1 : plainName "com/example/reed/reed/engine/IntegralityIsIntegerPinLaw" = true := by first | (simp [plainName, overriddenIn]; done) | decide +kernel
theorem ef_1 (m : MethodId) (p0 : Int32) (p1 : Int32) : entryFrame m #[(.int p0), (.int p1)] 2 = (mkF m 0 #[.val (.int p0), .val (.int p1)] []) := by first | (simp [entryFrame, mkF, argsToLocals, Value.category]; done) | rfl
def Q1 (Z : State) (p0 : Int32) (p1 : Int32) (h0 : Heap) (n0 : Nat) (v : Option Value) (h : Heap) (L : List Loc) : Prop := v = some (.int (own_dg p0 p1)) ∧ Fr n0 L ∧ h = h0
set_option maxRecDepth 65536 in
set_option maxHeartbeats 40000000 in
theorem rm1 (l : Launch) (Z : State) (a0 : Array Value) (hw : ∀ d ∈ tables_1, d.before a0 Z = true) (ws : List Jvm.Cond) (p0 : Int32) (p1 : Int32) (h0 : Heap) (n0 : Nat) (Z0 : n0 ≤ h0.size) :
    MetFree l (⟨"com/example/reed/reed/engine/IntegralityIsIntegerPinLaw", "digit", "(II)I"⟩ : MethodName) (head1 (Jvm.Cond.code (⟨"com/example/reed/reed/engine/IntegralityIsIntegerPinLaw", "digit", "(II)I"⟩ : MethodName) method_3_code 2 (some .int) :: ws) ({ frames := 0, cells := 0, slots := 0, locals := 0 } : Room)) (fun a U => a = #[(.int p0), (.int p1)] ∧ Z.Warmed39 U.vm ∧ U.heap = h0) (fun _ _ _ _ _ => True) (fun _ U o U' => ∃ v L, o = .returned v ∧ Q1 Z p0 p1 h0 n0 v U'.heap L ∧ FrameEnd U o U' L ({ frames := 0, cells := 0, slots := 0, locals := 0 } : Room).cells ({ frames := 0, cells := 0, slots := 0, locals := 0 } : Room).slots) := by
  refine MetFree.of_bodySF (plainFor_of_name pn_1) hisR ?_
  intro p e s m args below meth c s₁ Bd hml0 hP hK
  obtain ⟨rfl, hZ, hh⟩ := hP
  have hx := Bd.exec
  have hby := Bd.bytes
  have hml : c.maxLocals = 2 := hml0
  have hown : s.vm.findClass "com/example/reed/reed/engine/IntegralityIsIntegerPinLaw" = some m.cls := findClass_of_methodNamed Bd.named
  have hnm := (name_of_methodNamed Bd.named Bd.method).1
  have X0 : Stand p l e ({ frames := 0, cells := 0, slots := 0, locals := 0 } : Room) s m #[(.int p0), (.int p1)] below meth c s₁ [] 0 0 := Stand.of_body Bd
  have e0 : s₁.heap = h0 := by rw [← hh, Bd.state]; rfl
  have N0 := Fr.nil n0
  have K0 := Keep.refl h0 ([] : List Addr)
  have pre0 : ∀ t, Steps p.tables e below (s₁.setTop (mkF m 0 #[.val (.int p0), .val (.int p1)] [])) t → Steps p.tables e below (s₁.setTop (entryFrame m #[(.int p0), (.int p1)] 2)) t := fun t k => castTop (ef_1 m p0 p1) k
  obtain ⟨fs, hr, hrun, hended, hW, hsame⟩ := X0.leave (v := some (.int (own_dg p0 p1))) (fun h => by rw [Bd.returns] at h; cases h)
  refine ⟨_, _, pre0 _ ?_, hrun, hended, _, _, rfl, ?_, ⟨_, rfl⟩, hW, hsame.mono (by decide) (by decide)⟩
  ·
    show Steps p.tables e below (s₁.setTop (mkF m 0 #[.val (.int p0), .val (.int p1)] [])) _
    refine XS.iloadN X0.here hx rfl (hb hby d1_0) rfl ?_
    refine XS.iloadN X0.here hx rfl (hb hby d1_1) rfl ?_
    refine XS.iushr X0.here hx rfl (hb hby d1_2) rfl ?_
    show Steps p.tables e below (s₁.setTop (mkF m 3 #[.val (.int p0), .val (.int p1)] [(.int ((p0.toUInt32 >>> (p1 &&& 31).toUInt32).toInt32))])) _
    refine XS.bipush X0.here hx rfl (hb hby d1_3) ?_
    refine XS.iand X0.here hx rfl (hb hby d1_5) rfl ?_
    refine XS.bipush X0.here hx rfl (hb hby d1_6) ?_
    show Steps p.tables e below (s₁.setTop (mkF m 8 #[.val (.int p0), .val (.int p1)] [(.int (10 : Int32)), (.int (((p0.toUInt32 >>> (p1 &&& 31).toUInt32).toInt32) &&& (15 : Int32)))])) _
    refine XS.irem X0.here hx rfl (hb hby d1_8) rfl (by decide) ?_
    show Steps p.tables e below (s₁.setTop (mkF m 9 #[.val (.int p0), .val (.int p1)] [(.int ((((p0.toUInt32 >>> (p1 &&& 31).toUInt32).toInt32) &&& (15 : Int32)) - (((p0.toUInt32 >>> (p1 &&& 31).toUInt32).toInt32) &&& (15 : Int32)) / (10 : Int32) * (10 : Int32)))])) _
    exact retI X0 hx Bd.returns (hb hby d1_9) hr
  ·
    show Q1 Z p0 p1 h0 n0 _ s₁.heap _
    rw [e0]
    exact ⟨rfl, N0, rfl⟩
theorem d2_0 : decode method_4_code 0 = .ok (.bipush 48, 2) := by decide +kernel
theorem d2_2 : decode method_4_code 2 = .ok (.iload_n 0, 1) := by decide +kernel
theorem d2_3 : decode method_4_code 3 = .ok (.iadd, 1) := by decide +kernel
theorem d2_4 : decode method_4_code 4 = .ok (.i2c, 1) := by decide +kernel
theorem d2_5 : decode method_4_code 5 = .ok (.ireturn, 1) := by decide +kernel
theorem pn_2 : plainName "com/example/reed/reed/engine/IntegralityIsIntegerPinLaw" = true := by first | (simp [plainName, overriddenIn]; done) | decide +kernel
theorem ef_2 (m : MethodId) (p0 : Int32) : entryFrame m #[(.int p0)] 1 = (mkF m 0 #[.val (.int p0)] []) := by first | (simp [entryFrame, mkF, argsToLocals, Value.category]; done) | rfl
def Q2 (Z : State) (p0 : Int32) (h0 : Heap) (n0 : Nat) (v : Option Value) (h : Heap) (L : List Loc) : Prop := v = some (.int ((48 : Int32) + p0)) ∧ Fr n0 L ∧ h = h0
set_option maxRecDepth 65536 in
set_option maxHeartbeats 40000000 in
theorem rm2 (l : Launch) (Z : State) (a0 : Array Value) (hw : ∀ d ∈ tables_1, d.before a0 Z = true) (ws : List Jvm.Cond) (p0 : Int32) (h0 : Heap) (n0 : Nat) (Z0 : n0 ≤ h0.size) (hp : own_d9 p0) :
    MetFree l (⟨"com/example/reed/reed/engine/IntegralityIsIntegerPinLaw", "ch", "(I)C"⟩ : MethodName) (head1 (Jvm.Cond.code (⟨"com/example/reed/reed/engine/IntegralityIsIntegerPinLaw", "ch", "(I)C"⟩ : MethodName) method_4_code 1 (some .char) :: ws) ({ frames := 0, cells := 0, slots := 0, locals := 0 } : Room)) (fun a U => a = #[(.int p0)] ∧ Z.Warmed39 U.vm ∧ U.heap = h0) (fun _ _ _ _ _ => True) (fun _ U o U' => ∃ v L, o = .returned v ∧ Q2 Z p0 h0 n0 v U'.heap L ∧ FrameEnd U o U' L ({ frames := 0, cells := 0, slots := 0, locals := 0 } : Room).cells ({ frames := 0, cells := 0, slots := 0, locals := 0 } : Room).slots) := by
  refine MetFree.of_bodySF (plainFor_of_name pn_2) hisR ?_
  intro p e s m args below meth c s₁ Bd hml0 hP hK
  obtain ⟨rfl, hZ, hh⟩ := hP
  have hx := Bd.exec
  have hby := Bd.bytes
  have hml : c.maxLocals = 1 := hml0
  have hown : s.vm.findClass "com/example/reed/reed/engine/IntegralityIsIntegerPinLaw" = some m.cls := findClass_of_methodNamed Bd.named
  have hnm := (name_of_methodNamed Bd.named Bd.method).1
  have X0 : Stand p l e ({ frames := 0, cells := 0, slots := 0, locals := 0 } : Room) s m #[(.int p0)] below meth c s₁ [] 0 0 := Stand.of_body Bd
  have e0 : s₁.heap = h0 := by rw [← hh, Bd.state]; rfl
  have N0 := Fr.nil n0
  have K0 := Keep.refl h0 ([] : List Addr)
  have pre0 : ∀ t, Steps p.tables e below (s₁.setTop (mkF m 0 #[.val (.int p0)] [])) t → Steps p.tables e below (s₁.setTop (entryFrame m #[(.int p0)] 1)) t := fun t k => castTop (ef_2 m p0) k
  have hv := own_ch9 hp
  obtain ⟨fs, hr, hrun, hended, hW, hsame⟩ := X0.leave (v := some (.int (nar .char (((48 : Int32) + p0).toUInt32.toUInt16.toUInt32.toInt32)))) (fun h => by rw [Bd.returns] at h; cases h)
  refine ⟨_, _, pre0 _ ?_, hrun, hended, _, _, rfl, ?_, ⟨_, rfl⟩, hW, hsame.mono (by decide) (by decide)⟩
  ·
    show Steps p.tables e below (s₁.setTop (mkF m 0 #[.val (.int p0)] [])) _
    refine XS.bipush X0.here hx rfl (hb hby d2_0) ?_
    refine XS.iloadN X0.here hx rfl (hb hby d2_2) rfl ?_
    refine XS.iadd X0.here hx rfl (hb hby d2_3) rfl ?_
    show Steps p.tables e below (s₁.setTop (mkF m 4 #[.val (.int p0)] [(.int ((48 : Int32) + p0))])) _
    refine XS.i2c X0.here hx rfl (hb hby d2_4) rfl ?_
    show Steps p.tables e below (s₁.setTop (mkF m 5 #[.val (.int p0)] [(.int (((48 : Int32) + p0).toUInt32.toUInt16.toUInt32.toInt32))])) _
    exact retN X0 hx (t := .char) Bd.returns (by simp) (hb hby d2_5) hr
  ·
    show Q2 Z p0 h0 n0 _ s₁.heap _
    rw [e0]
    exact ⟨by rw [hv], N0, rfl⟩
theorem d20_0 : decode method_6_code 0 = .ok (.iload_n 0, 1) := by decide +kernel
theorem d20_1 : decode method_6_code 1 = .ok (.ifCond .ne 5, 3) := by decide +kernel
theorem d20_4 : decode method_6_code 4 = .ok (.iconst 1, 1) := by decide +kernel
theorem d20_5 : decode method_6_code 5 = .ok (.ireturn, 1) := by decide +kernel
theorem d20_6 : decode method_6_code 6 = .ok (.iload_n 0, 1) := by decide +kernel
theorem d20_7 : decode method_6_code 7 = .ok (.iconst 1, 1) := by decide +kernel
theorem d20_8 : decode method_6_code 8 = .ok (.if_icmp .ne 6, 3) := by decide +kernel
theorem d20_11 : decode method_6_code 11 = .ok (.bipush 10, 2) := by decide +kernel
theorem d20_13 : decode method_6_code 13 = .ok (.ireturn, 1) := by decide +kernel
theorem d20_14 : decode method_6_code 14 = .ok (.iload_n 0, 1) := by decide +kernel
theorem d20_15 : decode method_6_code 15 = .ok (.iconst 2, 1) := by decide +kernel
theorem d20_16 : decode method_6_code 16 = .ok (.if_icmp .ne 6, 3) := by decide +kernel
theorem d20_19 : decode method_6_code 19 = .ok (.bipush 100, 2) := by decide +kernel
theorem d20_21 : decode method_6_code 21 = .ok (.ireturn, 1) := by decide +kernel
theorem d20_22 : decode method_6_code 22 = .ok (.iload_n 0, 1) := by decide +kernel
theorem d20_23 : decode method_6_code 23 = .ok (.iconst 3, 1) := by decide +kernel
theorem d20_24 : decode method_6_code 24 = .ok (.if_icmp .ne 7, 3) := by decide +kernel
theorem d20_27 : decode method_6_code 27 = .ok (.sipush 1000, 3) := by decide +kernel
theorem d20_30 : decode method_6_code 30 = .ok (.ireturn, 1) := by decide +kernel
theorem d20_31 : decode method_6_code 31 = .ok (.iload_n 0, 1) := by decide +kernel
theorem d20_32 : decode method_6_code 32 = .ok (.iconst 4, 1) := by decide +kernel
theorem d20_33 : decode method_6_code 33 = .ok (.if_icmp .ne 7, 3) := by decide +kernel
theorem d20_36 : decode method_6_code 36 = .ok (.sipush 10000, 3) := by decide +kernel
theorem d20_39 : decode method_6_code 39 = .ok (.ireturn, 1) := by decide +kernel
theorem d20_40 : decode method_6_code 40 = .ok (.iload_n 0, 1) := by decide +kernel
theorem d20_41 : decode method_6_code 41 = .ok (.iconst 5, 1) := by decide +kernel
theorem d20_42 : decode method_6_code 42 = .ok (.if_icmp .ne 6, 3) := by decide +kernel
theorem d20_45 : decode method_6_code 45 = .ok (.ldc 49, 2) := by decide +kernel
theorem d20_47 : decode method_6_code 47 = .ok (.ireturn, 1) := by decide +kernel
theorem d20_48 : decode method_6_code 48 = .ok (.iload_n 0, 1) := by decide +kernel
theorem d20_49 : decode method_6_code 49 = .ok (.bipush 6, 2) := by decide +kernel
theorem d20_51 : decode method_6_code 51 = .ok (.if_icmp .ne 6, 3) := by decide +kernel
theorem d20_54 : decode method_6_code 54 = .ok (.ldc 50, 2) := by decide +kernel
theorem d20_56 : decode method_6_code 56 = .ok (.ireturn, 1) := by decide +kernel
theorem d20_57 : decode method_6_code 57 = .ok (.iconst 1, 1) := by decide +kernel
theorem d20_58 : decode method_6_code 58 = .ok (.ireturn, 1) := by decide +kernel
theorem pn_20 : plainName "com/example/reed/reed/engine/IntegralityIsIntegerPinLaw" = true := by first | (simp [plainName, overriddenIn]; done) | decide +kernel
theorem ef_20 (m : MethodId) (p0 : Int32) : entryFrame m #[(.int p0)] 1 = (mkF m 0 #[.val (.int p0)] []) := by first | (simp [entryFrame, mkF, argsToLocals, Value.category]; done) | rfl
def Q20 (Z : State) (p0 : Int32) (h0 : Heap) (n0 : Nat) (v : Option Value) (h : Heap) (L : List Loc) : Prop := v = some (.int (own_p10 p0)) ∧ Fr n0 L ∧ h = h0
set_option maxRecDepth 65536 in
set_option maxHeartbeats 40000000 in
theorem rm20 (l : Launch) (Z : State) (a0 : Array Value) (hw : ∀ d ∈ tables_1, d.before a0 Z = true) (ws : List Jvm.Cond) (p0 : Int32) (h0 : Heap) (n0 : Nat) (Z0 : n0 ≤ h0.size) :
    MetFree l (⟨"com/example/reed/reed/engine/IntegralityIsIntegerPinLaw", "pow10", "(I)I"⟩ : MethodName) (head1 (Jvm.Cond.code (⟨"com/example/reed/reed/engine/IntegralityIsIntegerPinLaw", "pow10", "(I)I"⟩ : MethodName) method_6_code 1 (some .int) :: ws) ({ frames := 0, cells := 0, slots := 0, locals := 0 } : Room)) (fun a U => a = #[(.int p0)] ∧ Z.Warmed39 U.vm ∧ U.heap = h0) (fun _ _ _ _ _ => True) (fun _ U o U' => ∃ v L, o = .returned v ∧ Q20 Z p0 h0 n0 v U'.heap L ∧ FrameEnd U o U' L ({ frames := 0, cells := 0, slots := 0, locals := 0 } : Room).cells ({ frames := 0, cells := 0, slots := 0, locals := 0 } : Room).slots) := by
  refine MetFree.of_bodySF (plainFor_of_name pn_20) hisR ?_
  intro p e s m args below meth c s₁ Bd hml0 hP hK
  obtain ⟨rfl, hZ, hh⟩ := hP
  have hx := Bd.exec
  have hby := Bd.bytes
  have hml : c.maxLocals = 1 := hml0
  have hown : s.vm.findClass "com/example/reed/reed/engine/IntegralityIsIntegerPinLaw" = some m.cls := findClass_of_methodNamed Bd.named
  have hnm := (name_of_methodNamed Bd.named Bd.method).1
  have X0 : Stand p l e ({ frames := 0, cells := 0, slots := 0, locals := 0 } : Room) s m #[(.int p0)] below meth c s₁ [] 0 0 := Stand.of_body Bd
  have e0 : s₁.heap = h0 := by rw [← hh, Bd.state]; rfl
  have N0 := Fr.nil n0
  have K0 := Keep.refl h0 ([] : List Addr)
  have pre0 : ∀ t, Steps p.tables e below (s₁.setTop (mkF m 0 #[.val (.int p0)] [])) t → Steps p.tables e below (s₁.setTop (entryFrame m #[(.int p0)] 1)) t := fun t k => castTop (ef_20 m p0) k
  have pre1 : ∀ t, Steps p.tables e below (s₁.setTop (mkF m 1 #[.val (.int p0)] [(.int p0)])) t → Steps p.tables e below (s₁.setTop (entryFrame m #[(.int p0)] 1)) t := by
    intro t kt
    refine pre0 _ ?_
    show Steps p.tables e below (s₁.setTop (mkF m 0 #[.val (.int p0)] [])) _
    refine XS.iloadN X0.here hx rfl (hb hby d20_0) rfl ?_
    show Steps p.tables e below (s₁.setTop (mkF m 1 #[.val (.int p0)] [(.int p0)])) _
    exact kt
  by_cases hc1_2 : p0 = (0 : Int32)
  ·
    have hv : own_p10 p0 = (1 : Int32) := by unfold own_p10; rw [if_pos hc1_2]
    obtain ⟨fs, hr, hrun, hended, hW, hsame⟩ := X0.leave (v := some (.int (own_p10 p0))) (fun h => by rw [Bd.returns] at h; cases h)
    refine ⟨_, _, pre1 _ ?_, hrun, hended, _, _, rfl, ?_, ⟨_, rfl⟩, hW, hsame.mono (by decide) (by decide)⟩
    ·
      show Steps p.tables e below (s₁.setTop (mkF m 1 #[.val (.int p0)] [(.int p0)])) _
      refine XS.ifNo X0.here hx rfl (hb hby d20_1) rfl ((if0 _ _).trans (teq hc1_2).2) ?_
      refine XS.iconst X0.here hx rfl (hb hby d20_4) ?_
      show Steps p.tables e below (s₁.setTop (mkF m 5 #[.val (.int p0)] [(.int (1 : Int32))])) _
      rw [hv] at hr
      exact retI X0 hx Bd.returns (hb hby d20_5) hr
    ·
      show Q20 Z p0 h0 n0 _ s₁.heap _
      rw [e0]
      exact ⟨rfl, N0, rfl⟩
  ·
    have pre3 : ∀ t, Steps p.tables e below (s₁.setTop (mkF m 8 #[.val (.int p0)] [(.int (1 : Int32)), (.int p0)])) t → Steps p.tables e below (s₁.setTop (entryFrame m #[(.int p0)] 1)) t := by
      intro t kt
      refine pre1 _ ?_
      show Steps p.tables e below (s₁.setTop (mkF m 1 #[.val (.int p0)] [(.int p0)])) _
      refine XS.ifYes X0.here hx rfl (pc0 := 1) (pc' := 6) rfl (hb hby d20_1) rfl ((if0 _ _).trans (feq hc1_2).2) (by decide) (by decide) ?_
      refine XS.iloadN X0.here hx rfl (hb hby d20_6) rfl ?_
      refine XS.iconst X0.here hx rfl (hb hby d20_7) ?_
      show Steps p.tables e below (s₁.setTop (mkF m 8 #[.val (.int p0)] [(.int (1 : Int32)), (.int p0)])) _
      exact kt
    by_cases hc8_4 : p0 = (1 : Int32)
    ·
      have hv : own_p10 p0 = (10 : Int32) := by unfold own_p10; rw [if_neg hc1_2, if_pos hc8_4]
      obtain ⟨fs, hr, hrun, hended, hW, hsame⟩ := X0.leave (v := some (.int (own_p10 p0))) (fun h => by rw [Bd.returns] at h; cases h)
      refine ⟨_, _, pre3 _ ?_, hrun, hended, _, _, rfl, ?_, ⟨_, rfl⟩, hW, hsame.mono (by decide) (by decide)⟩
      ·
        show Steps p.tables e below (s₁.setTop (mkF m 8 #[.val (.int p0)] [(.int (1 : Int32)), (.int p0)])) _
        refine XS.icmpNo X0.here hx rfl (hb hby d20_8) rfl (teq hc8_4).2 ?_
        refine XS.bipush X0.here hx rfl (hb hby d20_11) ?_
        show Steps p.tables e below (s₁.setTop (mkF m 13 #[.val (.int p0)] [(.int (10 : Int32))])) _
        rw [hv] at hr
        exact retI X0 hx Bd.returns (hb hby d20_13) hr
      ·
        show Q20 Z p0 h0 n0 _ s₁.heap _
        rw [e0]
        exact ⟨rfl, N0, rfl⟩
    ·
      have pre5 : ∀ t, Steps p.tables e below (s₁.setTop (mkF m 16 #[.val (.int p0)] [(.int (2 : Int32)), (.int p0)])) t → Steps p.tables e below (s₁.setTop (entryFrame m #[(.int p0)] 1)) t := by
        intro t kt
        refine pre3 _ ?_
        show Steps p.tables e below (s₁.setTop (mkF m 8 #[.val (.int p0)] [(.int (1 : Int32)), (.int p0)])) _
        refine XS.icmpYes X0.here hx rfl (pc0 := 8) (pc' := 14) rfl (hb hby d20_8) rfl (feq hc8_4).2 (by decide) (by decide) ?_
        refine XS.iloadN X0.here hx rfl (hb hby d20_14) rfl ?_
        refine XS.iconst X0.here hx rfl (hb hby d20_15) ?_
        show Steps p.tables e below (s₁.setTop (mkF m 16 #[.val (.int p0)] [(.int (2 : Int32)), (.int p0)])) _
        exact kt
      by_cases hc16_6 : p0 = (2 : Int32)
      ·
        have hv : own_p10 p0 = (100 : Int32) := by unfold own_p10; rw [if_neg hc1_2, if_neg hc8_4, if_pos hc16_6]
        obtain ⟨fs, hr, hrun, hended, hW, hsame⟩ := X0.leave (v := some (.int (own_p10 p0))) (fun h => by rw [Bd.returns] at h; cases h)
        refine ⟨_, _, pre5 _ ?_, hrun, hended, _, _, rfl, ?_, ⟨_, rfl⟩, hW, hsame.mono (by decide) (by decide)⟩
        ·
          show Steps p.tables e below (s₁.setTop (mkF m 16 #[.val (.int p0)] [(.int (2 : Int32)), (.int p0)])) _
          refine XS.icmpNo X0.here hx rfl (hb hby d20_16) rfl (teq hc16_6).2 ?_
          refine XS.bipush X0.here hx rfl (hb hby d20_19) ?_
          show Steps p.tables e below (s₁.setTop (mkF m 21 #[.val (.int p0)] [(.int (100 : Int32))])) _
          rw [hv] at hr
          exact retI X0 hx Bd.returns (hb hby d20_21) hr
        ·
          show Q20 Z p0 h0 n0 _ s₁.heap _
          rw [e0]
          exact ⟨rfl, N0, rfl⟩
      ·
        have pre7 : ∀ t, Steps p.tables e below (s₁.setTop (mkF m 24 #[.val (.int p0)] [(.int (3 : Int32)), (.int p0)])) t → Steps p.tables e below (s₁.setTop (entryFrame m #[(.int p0)] 1)) t := by
          intro t kt
          refine pre5 _ ?_
          show Steps p.tables e below (s₁.setTop (mkF m 16 #[.val (.int p0)] [(.int (2 : Int32)), (.int p0)])) _
          refine XS.icmpYes X0.here hx rfl (pc0 := 16) (pc' := 22) rfl (hb hby d20_16) rfl (feq hc16_6).2 (by decide) (by decide) ?_
          refine XS.iloadN X0.here hx rfl (hb hby d20_22) rfl ?_
          refine XS.iconst X0.here hx rfl (hb hby d20_23) ?_
          show Steps p.tables e below (s₁.setTop (mkF m 24 #[.val (.int p0)] [(.int (3 : Int32)), (.int p0)])) _
          exact kt
        by_cases hc24_8 : p0 = (3 : Int32)
        ·
          have hv : own_p10 p0 = (1000 : Int32) := by unfold own_p10; rw [if_neg hc1_2, if_neg hc8_4, if_neg hc16_6, if_pos hc24_8]
          obtain ⟨fs, hr, hrun, hended, hW, hsame⟩ := X0.leave (v := some (.int (own_p10 p0))) (fun h => by rw [Bd.returns] at h; cases h)
          refine ⟨_, _, pre7 _ ?_, hrun, hended, _, _, rfl, ?_, ⟨_, rfl⟩, hW, hsame.mono (by decide) (by decide)⟩
          ·
            show Steps p.tables e below (s₁.setTop (mkF m 24 #[.val (.int p0)] [(.int (3 : Int32)), (.int p0)])) _
            refine XS.icmpNo X0.here hx rfl (hb hby d20_24) rfl (teq hc24_8).2 ?_
            refine XS.sipush X0.here hx rfl (hb hby d20_27) ?_
            show Steps p.tables e below (s₁.setTop (mkF m 30 #[.val (.int p0)] [(.int (1000 : Int32))])) _
            rw [hv] at hr
            exact retI X0 hx Bd.returns (hb hby d20_30) hr
          ·
            show Q20 Z p0 h0 n0 _ s₁.heap _
            rw [e0]
            exact ⟨rfl, N0, rfl⟩
        ·
          have pre9 : ∀ t, Steps p.tables e below (s₁.setTop (mkF m 33 #[.val (.int p0)] [(.int (4 : Int32)), (.int p0)])) t → Steps p.tables e below (s₁.setTop (entryFrame m #[(.int p0)] 1)) t := by
            intro t kt
            refine pre7 _ ?_
            show Steps p.tables e below (s₁.setTop (mkF m 24 #[.val (.int p0)] [(.int (3 : Int32)), (.int p0)])) _
            refine XS.icmpYes X0.here hx rfl (pc0 := 24) (pc' := 31) rfl (hb hby d20_24) rfl (feq hc24_8).2 (by decide) (by decide) ?_
            refine XS.iloadN X0.here hx rfl (hb hby d20_31) rfl ?_
            refine XS.iconst X0.here hx rfl (hb hby d20_32) ?_
            show Steps p.tables e below (s₁.setTop (mkF m 33 #[.val (.int p0)] [(.int (4 : Int32)), (.int p0)])) _
            exact kt
          by_cases hc33_10 : p0 = (4 : Int32)
          ·
            have hv : own_p10 p0 = (10000 : Int32) := by unfold own_p10; rw [if_neg hc1_2, if_neg hc8_4, if_neg hc16_6, if_neg hc24_8, if_pos hc33_10]
            obtain ⟨fs, hr, hrun, hended, hW, hsame⟩ := X0.leave (v := some (.int (own_p10 p0))) (fun h => by rw [Bd.returns] at h; cases h)
            refine ⟨_, _, pre9 _ ?_, hrun, hended, _, _, rfl, ?_, ⟨_, rfl⟩, hW, hsame.mono (by decide) (by decide)⟩
            ·
              show Steps p.tables e below (s₁.setTop (mkF m 33 #[.val (.int p0)] [(.int (4 : Int32)), (.int p0)])) _
              refine XS.icmpNo X0.here hx rfl (hb hby d20_33) rfl (teq hc33_10).2 ?_
              refine XS.sipush X0.here hx rfl (hb hby d20_36) ?_
              show Steps p.tables e below (s₁.setTop (mkF m 39 #[.val (.int p0)] [(.int (10000 : Int32))])) _
              rw [hv] at hr
              exact retI X0 hx Bd.returns (hb hby d20_39) hr
            ·
              show Q20 Z p0 h0 n0 _ s₁.heap _
              rw [e0]
              exact ⟨rfl, N0, rfl⟩
          ·
            have pre11 : ∀ t, Steps p.tables e below (s₁.setTop (mkF m 42 #[.val (.int p0)] [(.int (5 : Int32)), (.int p0)])) t → Steps p.tables e below (s₁.setTop (entryFrame m #[(.int p0)] 1)) t := by
              intro t kt
              refine pre9 _ ?_
              show Steps p.tables e below (s₁.setTop (mkF m 33 #[.val (.int p0)] [(.int (4 : Int32)), (.int p0)])) _
              refine XS.icmpYes X0.here hx rfl (pc0 := 33) (pc' := 40) rfl (hb hby d20_33) rfl (feq hc33_10).2 (by decide) (by decide) ?_
              refine XS.iloadN X0.here hx rfl (hb hby d20_40) rfl ?_
              refine XS.iconst X0.here hx rfl (hb hby d20_41) ?_
              show Steps p.tables e below (s₁.setTop (mkF m 42 #[.val (.int p0)] [(.int (5 : Int32)), (.int p0)])) _
              exact kt
            by_cases hc42_12 : p0 = (5 : Int32)
            ·
              have hv : own_p10 p0 = (100000 : Int32) := by unfold own_p10; rw [if_neg hc1_2, if_neg hc8_4, if_neg hc16_6, if_neg hc24_8, if_neg hc33_10, if_pos hc42_12]
              obtain ⟨fs, hr, hrun, hended, hW, hsame⟩ := X0.leave (v := some (.int (own_p10 p0))) (fun h => by rw [Bd.returns] at h; cases h)
              refine ⟨_, _, pre11 _ ?_, hrun, hended, _, _, rfl, ?_, ⟨_, rfl⟩, hW, hsame.mono (by decide) (by decide)⟩
              ·
                show Steps p.tables e below (s₁.setTop (mkF m 42 #[.val (.int p0)] [(.int (5 : Int32)), (.int p0)])) _
                refine XS.icmpNo X0.here hx rfl (hb hby d20_42) rfl (teq hc42_12).2 ?_
                show Steps p.tables e below (s₁.setTop (mkF m 45 #[.val (.int p0)] [])) _
                refine X0.ldcInt hx hown (mvT hZ (hw _ (List.mem_of_getElem? (i := 139) rfl))) (g := (mkF m 45 #[.val (.int p0)] [])) rfl (hb hby d20_45) _ ?_
                show Steps p.tables e below (s₁.setTop (mkF m 47 #[.val (.int p0)] [(.int (100000 : Int32))])) _
                rw [hv] at hr
                exact retI X0 hx Bd.returns (hb hby d20_47) hr
              ·
                show Q20 Z p0 h0 n0 _ s₁.heap _
                rw [e0]
                exact ⟨rfl, N0, rfl⟩
            ·
              have pre13 : ∀ t, Steps p.tables e below (s₁.setTop (mkF m 51 #[.val (.int p0)] [(.int (6 : Int32)), (.int p0)])) t → Steps p.tables e below (s₁.setTop (entryFrame m #[(.int p0)] 1)) t := by
                intro t kt
                refine pre11 _ ?_
                show Steps p.tables e below (s₁.setTop (mkF m 42 #[.val (.int p0)] [(.int (5 : Int32)), (.int p0)])) _
                refine XS.icmpYes X0.here hx rfl (pc0 := 42) (pc' := 48) rfl (hb hby d20_42) rfl (feq hc42_12).2 (by decide) (by decide) ?_
                refine XS.iloadN X0.here hx rfl (hb hby d20_48) rfl ?_
                refine XS.bipush X0.here hx rfl (hb hby d20_49) ?_
                show Steps p.tables e below (s₁.setTop (mkF m 51 #[.val (.int p0)] [(.int (6 : Int32)), (.int p0)])) _
                exact kt
              by_cases hc51_14 : p0 = (6 : Int32)
              ·
                have hv : own_p10 p0 = (1000000 : Int32) := by unfold own_p10; rw [if_neg hc1_2, if_neg hc8_4, if_neg hc16_6, if_neg hc24_8, if_neg hc33_10, if_neg hc42_12, if_pos hc51_14]
                obtain ⟨fs, hr, hrun, hended, hW, hsame⟩ := X0.leave (v := some (.int (own_p10 p0))) (fun h => by rw [Bd.returns] at h; cases h)
                refine ⟨_, _, pre13 _ ?_, hrun, hended, _, _, rfl, ?_, ⟨_, rfl⟩, hW, hsame.mono (by decide) (by decide)⟩
                ·
                  show Steps p.tables e below (s₁.setTop (mkF m 51 #[.val (.int p0)] [(.int (6 : Int32)), (.int p0)])) _
                  refine XS.icmpNo X0.here hx rfl (hb hby d20_51) rfl (teq hc51_14).2 ?_
                  show Steps p.tables e below (s₁.setTop (mkF m 54 #[.val (.int p0)] [])) _
                  refine X0.ldcInt hx hown (mvT hZ (hw _ (List.mem_of_getElem? (i := 138) rfl))) (g := (mkF m 54 #[.val (.int p0)] [])) rfl (hb hby d20_54) _ ?_
                  show Steps p.tables e below (s₁.setTop (mkF m 56 #[.val (.int p0)] [(.int (1000000 : Int32))])) _
                  rw [hv] at hr
                  exact retI X0 hx Bd.returns (hb hby d20_56) hr
                ·
                  show Q20 Z p0 h0 n0 _ s₁.heap _
                  rw [e0]
                  exact ⟨rfl, N0, rfl⟩
              ·
                have hv : own_p10 p0 = (1 : Int32) := by unfold own_p10; rw [if_neg hc1_2, if_neg hc8_4, if_neg hc16_6, if_neg hc24_8, if_neg hc33_10, if_neg hc42_12, if_neg hc51_14]
                obtain ⟨fs, hr, hrun, hended, hW, hsame⟩ := X0.leave (v := some (.int (own_p10 p0))) (fun h => by rw [Bd.returns] at h; cases h)
                refine ⟨_, _, pre13 _ ?_, hrun, hended, _, _, rfl, ?_, ⟨_, rfl⟩, hW, hsame.mono (by decide) (by decide)⟩
                ·
                  show Steps p.tables e below (s₁.setTop (mkF m 51 #[.val (.int p0)] [(.int (6 : Int32)), (.int p0)])) _
                  refine XS.icmpYes X0.here hx rfl (pc0 := 51) (pc' := 57) rfl (hb hby d20_51) rfl (feq hc51_14).2 (by decide) (by decide) ?_
                  refine XS.iconst X0.here hx rfl (hb hby d20_57) ?_
                  show Steps p.tables e below (s₁.setTop (mkF m 58 #[.val (.int p0)] [(.int (1 : Int32))])) _
                  rw [hv] at hr
                  exact retI X0 hx Bd.returns (hb hby d20_58) hr
                ·
                  show Q20 Z p0 h0 n0 _ s₁.heap _
                  rw [e0]
                  exact ⟨rfl, N0, rfl⟩
theorem d22_0 : decode jdk_43_method_3_code 0 = .ok (.iload_n 0, 1) := by decide +kernel
theorem d22_1 : decode jdk_43_method_3_code 1 = .ok (.sipush 255, 3) := by decide +kernel
theorem d22_4 : decode jdk_43_method_3_code 4 = .ok (.if_icmp .gt 7, 3) := by decide +kernel
theorem d22_7 : decode jdk_43_method_3_code 7 = .ok (.iconst 1, 1) := by decide +kernel
theorem d22_8 : decode jdk_43_method_3_code 8 = .ok (.goto 4, 3) := by decide +kernel
theorem d22_12 : decode jdk_43_method_3_code 12 = .ok (.ireturn, 1) := by decide +kernel
theorem pn_22 : plainName "java/lang/StringLatin1" = true := by first | (simp [plainName, overriddenIn]; done) | decide +kernel
theorem ef_22 (m : MethodId) (p0 : Int32) : entryFrame m #[(.int p0)] 1 = (mkF m 0 #[.val (.int p0)] []) := by first | (simp [entryFrame, mkF, argsToLocals, Value.category]; done) | rfl
def Q22 (Z : State) (p0 : Int32) (h0 : Heap) (n0 : Nat) (v : Option Value) (h : Heap) (L : List Loc) : Prop := v = some (.int 1) ∧ Fr n0 L ∧ h = h0
set_option maxRecDepth 65536 in
set_option maxHeartbeats 40000000 in
theorem rm22 (l : Launch) (Z : State) (a0 : Array Value) (hw : ∀ d ∈ tables_1, d.before a0 Z = true) (ws : List Jvm.Cond) (p0 : Int32) (h0 : Heap) (n0 : Nat) (Z0 : n0 ≤ h0.size) (hp : ¬ (255 : Int32) < p0) :
    MetFree l (⟨"java/lang/StringLatin1", "canEncode", "(C)Z"⟩ : MethodName) (head1 (Jvm.Cond.code (⟨"java/lang/StringLatin1", "canEncode", "(C)Z"⟩ : MethodName) jdk_43_method_3_code 1 (some .boolean) :: ws) ({ frames := 0, cells := 0, slots := 0, locals := 0 } : Room)) (fun a U => a = #[(.int p0)] ∧ Z.Warmed39 U.vm ∧ U.heap = h0) (fun _ _ _ _ _ => True) (fun _ U o U' => ∃ v L, o = .returned v ∧ Q22 Z p0 h0 n0 v U'.heap L ∧ FrameEnd U o U' L ({ frames := 0, cells := 0, slots := 0, locals := 0 } : Room).cells ({ frames := 0, cells := 0, slots := 0, locals := 0 } : Room).slots) := by
  refine MetFree.of_bodySF (plainFor_of_name pn_22) hisR ?_
  intro p e s m args below meth c s₁ Bd hml0 hP hK
  obtain ⟨rfl, hZ, hh⟩ := hP
  have hx := Bd.exec
  have hby := Bd.bytes
  have hml : c.maxLocals = 1 := hml0
  have hown : s.vm.findClass "java/lang/StringLatin1" = some m.cls := findClass_of_methodNamed Bd.named
  have hnm := (name_of_methodNamed Bd.named Bd.method).1
  have X0 : Stand p l e ({ frames := 0, cells := 0, slots := 0, locals := 0 } : Room) s m #[(.int p0)] below meth c s₁ [] 0 0 := Stand.of_body Bd
  have e0 : s₁.heap = h0 := by rw [← hh, Bd.state]; rfl
  have N0 := Fr.nil n0
  have K0 := Keep.refl h0 ([] : List Addr)
  have pre0 : ∀ t, Steps p.tables e below (s₁.setTop (mkF m 0 #[.val (.int p0)] [])) t → Steps p.tables e below (s₁.setTop (entryFrame m #[(.int p0)] 1)) t := fun t k => castTop (ef_22 m p0) k
  have hk1 : ¬ ((255 : Int32) < p0) := hp
  obtain ⟨fs, hr, hrun, hended, hW, hsame⟩ := X0.leave (v := some (.int (1 : Int32))) (fun h => by rw [Bd.returns] at h; cases h)
  refine ⟨_, _, pre0 _ ?_, hrun, hended, _, _, rfl, ?_, ⟨_, rfl⟩, hW, hsame.mono (by decide) (by decide)⟩
  ·
    show Steps p.tables e below (s₁.setTop (mkF m 0 #[.val (.int p0)] [])) _
    refine XS.iloadN X0.here hx rfl (hb hby d22_0) rfl ?_
    refine XS.sipush X0.here hx rfl (hb hby d22_1) ?_
    refine XS.icmpNo X0.here hx rfl (hb hby d22_4) rfl (flt hk1).2.2.1 ?_
    show Steps p.tables e below (s₁.setTop (mkF m 7 #[.val (.int p0)] [])) _
    refine XS.iconst X0.here hx rfl (hb hby d22_7) ?_
    refine XS.goto X0.here hx rfl (pc0 := 8) (pc' := 12) rfl (hb hby d22_8) (by decide) (by decide) ?_
    show Steps p.tables e below (s₁.setTop (mkF m 12 #[.val (.int p0)] [(.int (1 : Int32))])) _
    exact retN X0 hx (t := .boolean) Bd.returns (by simp) (hb hby d22_12) hr
  ·
    show Q22 Z p0 h0 n0 _ s₁.heap _
    rw [e0]
    exact ⟨rfl, N0, rfl⟩
theorem d23_0 : decode jdk_43_method_46_code 0 = .ok (.iconst 1, 1) := by decide +kernel
theorem d23_1 : decode jdk_43_method_46_code 1 = .ok (.newarray .byte, 2) := by decide +kernel
theorem d23_3 : decode jdk_43_method_46_code 3 = .ok (.dup, 1) := by decide +kernel
theorem d23_4 : decode jdk_43_method_46_code 4 = .ok (.iconst 0, 1) := by decide +kernel
theorem d23_5 : decode jdk_43_method_46_code 5 = .ok (.iload_n 0, 1) := by decide +kernel
theorem d23_6 : decode jdk_43_method_46_code 6 = .ok (.i2b, 1) := by decide +kernel
theorem d23_7 : decode jdk_43_method_46_code 7 = .ok (.bastore, 1) := by decide +kernel
theorem d23_8 : decode jdk_43_method_46_code 8 = .ok (.areturn, 1) := by decide +kernel
theorem pn_23 : plainName "java/lang/StringLatin1" = true := by first | (simp [plainName, overriddenIn]; done) | decide +kernel
theorem ef_23 (m : MethodId) (p0 : Int32) : entryFrame m #[(.int p0)] 1 = (mkF m 0 #[.val (.int p0)] []) := by first | (simp [entryFrame, mkF, argsToLocals, Value.category]; done) | rfl
def Q23 (Z : State) (p0 : Int32) (h0 : Heap) (n0 : Nat) (v : Option Value) (h : Heap) (L : List Loc) : Prop := ∃ (b : Addr) (k : ClassId), v = some (.ref b) ∧ Fr n0 L ∧ Keep h0 h [] ∧ n0 ≤ b ∧ h0.size ≤ b ∧ Arv Z h b k .byte 1 [(.int (nar .byte (p0.toInt8.toInt32)))] (.int (0 : Int32))
set_option maxRecDepth 65536 in
set_option maxHeartbeats 40000000 in
theorem rm23 (l : Launch) (Z : State) (a0 : Array Value) (hw : ∀ d ∈ tables_1, d.before a0 Z = true) (ws : List Jvm.Cond) (p0 : Int32) (h0 : Heap) (n0 : Nat) (Z0 : n0 ≤ h0.size) :
    MetFree l (⟨"java/lang/StringLatin1", "toBytes", "(C)[B"⟩ : MethodName) (head1 (Jvm.Cond.code (⟨"java/lang/StringLatin1", "toBytes", "(C)[B"⟩ : MethodName) jdk_43_method_46_code 1 (some (.array .byte)) :: ws) ({ frames := 0, cells := 1, slots := 1, locals := 0 } : Room)) (fun a U => a = #[(.int p0)] ∧ Z.Warmed39 U.vm ∧ U.heap = h0) (fun _ _ _ _ _ => True) (fun _ U o U' => ∃ v L, o = .returned v ∧ Q23 Z p0 h0 n0 v U'.heap L ∧ FrameEnd U o U' L ({ frames := 0, cells := 1, slots := 1, locals := 0 } : Room).cells ({ frames := 0, cells := 1, slots := 1, locals := 0 } : Room).slots) := by
  refine MetFree.of_bodySF (plainFor_of_name pn_23) hisR ?_
  intro p e s m args below meth c s₁ Bd hml0 hP hK
  obtain ⟨rfl, hZ, hh⟩ := hP
  have hx := Bd.exec
  have hby := Bd.bytes
  have hml : c.maxLocals = 1 := hml0
  have hown : s.vm.findClass "java/lang/StringLatin1" = some m.cls := findClass_of_methodNamed Bd.named
  have hnm := (name_of_methodNamed Bd.named Bd.method).1
  have X0 : Stand p l e ({ frames := 0, cells := 1, slots := 1, locals := 0 } : Room) s m #[(.int p0)] below meth c s₁ [] 0 0 := Stand.of_body Bd
  have e0 : s₁.heap = h0 := by rw [← hh, Bd.state]; rfl
  have N0 := Fr.nil n0
  have K0 := Keep.refl h0 ([] : List Addr)
  have pre0 : ∀ t, Steps p.tables e below (s₁.setTop (mkF m 0 #[.val (.int p0)] [])) t → Steps p.tables e below (s₁.setTop (entryFrame m #[(.int p0)] 1)) t := fun t k => castTop (ef_23 m p0) k
  obtain ⟨T1, h1, k1, X1, e1, E1, A1, st1⟩ := newP X0 hx hZ (hw _ (List.mem_of_getElem? (i := 7) rfl)) e0 (g := (mkF m 1 #[.val (.int p0)] [(.int (1 : Int32))])) rfl (hb hby d23_1) rfl (by decide) (cap := 1) (by decide) (by decide) (by decide) (by decide)
  obtain ⟨b1, g1⟩ : ∃ z, z = h0.size := ⟨_, rfl⟩
  rw [← g1] at A1 st1
  have g_b1 : n0 ≤ b1 := Nat.le_trans (Nat.le_trans Z0 K0.1) (Nat.le_of_eq g1.symm)
  have sz_b1 : h0.size ≤ b1 := Nat.le_trans K0.1 (Nat.le_of_eq g1.symm)
  have K1 := K0.ext E1
  have V_b1 : Arv Z h1 b1 k1 .byte (1 : Int32) [(.int (0 : Int32))] (.int (0 : Int32)) := (Arv.new A1 (by decide)).pad (pad_rep [] (.int (0 : Int32)) 1)
  obtain ⟨clo2, Aro2, qo2, So2, No2, Ho2, Go2⟩ := id V_b1
  have hino2 : ¬ ((0 : Int32) < 0 ∨ clo2.slots.size ≤ ((0 : Int32)).toNatClampNeg) := inb_of So2 ⟨by decide, by decide⟩
  obtain ⟨T3, h3, X3, e3, W3, st3⟩ := stB X1 hx hZ e1 Aro2 (j := (0 : Int32)) hino2 (g := (mkF m 7 #[.val (.int p0)] [(.int (p0.toInt8.toInt32)), (.int (0 : Int32)), (.ref b1), (.ref b1)])) rfl rfl (hb hby d23_7)
  have V3 : Arv Z h3 b1 k1 .byte (1 : Int32) [(.int (nar .byte (p0.toInt8.toInt32)))] (.int (0 : Int32)) := Arv.set Aro2 qo2 So2 No2 Ho2 Go2 (fits_nar_byte _) W3 0 rfl (Nat.le_of_ble_eq_true rfl)
  have K3 := K1.wr W3 (Or.inr sz_b1)
  have N3 := Fr.snoc X3 N0 g_b1
  obtain ⟨fs, hr, hrun, hended, hW, hsame⟩ := X3.leave (v := some (.ref b1)) (fun h => by rw [Bd.returns] at h; cases h)
  refine ⟨_, _, pre0 _ ?_, hrun, hended, _, _, rfl, ?_, ⟨_, rfl⟩, hW, hsame.mono (by decide) (by decide)⟩
  ·
    show Steps p.tables e below (s₁.setTop (mkF m 0 #[.val (.int p0)] [])) _
    refine XS.iconst X0.here hx rfl (hb hby d23_0) ?_
    show Steps p.tables e below (s₁.setTop (mkF m 1 #[.val (.int p0)] [(.int (1 : Int32))])) _
    refine st1 _ ?_
    show Steps p.tables e below (T1.setTop (mkF m 3 #[.val (.int p0)] [(.ref b1)])) _
    refine XS.dup X1.here hx rfl (hb hby d23_3) rfl rfl ?_
    refine XS.iconst X1.here hx rfl (hb hby d23_4) ?_
    refine XS.iloadN X1.here hx rfl (hb hby d23_5) rfl ?_
    show Steps p.tables e below (T1.setTop (mkF m 6 #[.val (.int p0)] [(.int p0), (.int (0 : Int32)), (.ref b1), (.ref b1)])) _
    refine XS.i2b X1.here hx rfl (hb hby d23_6) rfl ?_
    show Steps p.tables e below (T1.setTop (mkF m 7 #[.val (.int p0)] [(.int (p0.toInt8.toInt32)), (.int (0 : Int32)), (.ref b1), (.ref b1)])) _
    refine st3 _ ?_
    show Steps p.tables e below (T3.setTop (mkF m 8 #[.val (.int p0)] [(.ref b1)])) _
    jvm_step X3.here [X3.here.top, hx, (hb hby d23_8), X3.method', Bd.returns, Value.isRef, FieldType.isReference]
    first | (intro acts; rw [hr _ acts rfl rfl rfl]) | rw [hr _ _ rfl rfl rfl]
    exact Steps.refl _
  ·
    show Q23 Z p0 h0 n0 _ T3.heap _
    rw [e3]
    exact ⟨_, _, rfl, N3, K3, g_b1, sz_b1, V3⟩
theorem d24_0 : decode jdk_42_method_151_code 0 = .ok (.aload_n 0, 1) := by decide +kernel
theorem d24_1 : decode jdk_42_method_151_code 1 = .ok (.invokespecial 1, 3) := by decide +kernel
theorem d24_4 : decode jdk_42_method_151_code 4 = .ok (.aload_n 0, 1) := by decide +kernel
theorem d24_5 : decode jdk_42_method_151_code 5 = .ok (.aload_n 1, 1) := by decide +kernel
theorem d24_6 : decode jdk_42_method_151_code 6 = .ok (.putfield 9, 3) := by decide +kernel
theorem d24_9 : decode jdk_42_method_151_code 9 = .ok (.aload_n 0, 1) := by decide +kernel
theorem d24_10 : decode jdk_42_method_151_code 10 = .ok (.iload_n 2, 1) := by decide +kernel
theorem d24_11 : decode jdk_42_method_151_code 11 = .ok (.putfield 15, 3) := by decide +kernel
theorem d24_14 : decode jdk_42_method_151_code 14 = .ok (.return_, 1) := by decide +kernel
theorem pn_24 : plainName "java/lang/String" = true := by first | (simp [plainName, overriddenIn]; done) | decide +kernel
theorem ef_24 (m : MethodId) (a1 : Addr) (a2 : Addr) (p3 : Int32) : entryFrame m #[(.ref a1), (.ref a2), (.int p3)] 3 = (mkF m 0 #[.val (.ref a1), .val (.ref a2), .val (.int p3)] []) := by first | (simp [entryFrame, mkF, argsToLocals, Value.category]; done) | rfl
def Q24 (Z : State) (a1 : Addr) (a2 : Addr) (p3 : Int32) (h0 : Heap) (n0 : Nat) (v : Option Value) (h : Heap) (L : List Loc) : Prop := v = none ∧ Fr n0 L ∧ Keep h0 h [a1] ∧ Fld Z h a1 "java/lang/String" "value" "[B" (.ref a2) ∧ Fld Z h a1 "java/lang/String" "coder" "B" (.int (nar .byte p3))
set_option maxRecDepth 65536 in
set_option maxHeartbeats 40000000 in
theorem rm24 (l : Launch) (Z : State) (a0 : Array Value) (hw : ∀ d ∈ tables_1, d.before a0 Z = true) (ws : List Jvm.Cond) (a1 : Addr) (a2 : Addr) (p3 : Int32) (h0 : Heap) (n0 : Nat) (Z0 : n0 ≤ h0.size) (E_a1 : Exa Z h0 a1 "java/lang/String") (F_v : Fld Z h0 a1 "java/lang/String" "value" "[B" .null) (F_c : Fld Z h0 a1 "java/lang/String" "coder" "B" (.int (0 : Int32))) (g_a1 : n0 ≤ a1) :
    MetFree l (⟨"java/lang/String", "<init>", "([BB)V"⟩ : MethodName) (head1 (Jvm.Cond.code (⟨"java/lang/String", "<init>", "([BB)V"⟩ : MethodName) jdk_42_method_151_code 3 none :: ws) ({ frames := 1, cells := 0, slots := 0, locals := 12 } : Room)) (fun a U => a = #[(.ref a1), (.ref a2), (.int p3)] ∧ Z.Warmed39 U.vm ∧ U.heap = h0) (fun _ _ _ _ _ => True) (fun _ U o U' => ∃ v L, o = .returned v ∧ Q24 Z a1 a2 p3 h0 n0 v U'.heap L ∧ FrameEnd U o U' L ({ frames := 1, cells := 0, slots := 0, locals := 12 } : Room).cells ({ frames := 1, cells := 0, slots := 0, locals := 12 } : Room).slots) := by
  refine MetFree.of_bodySF (plainFor_of_name pn_24) hisR ?_
  intro p e s m args below meth c s₁ Bd hml0 hP hK
  obtain ⟨rfl, hZ, hh⟩ := hP
  have hx := Bd.exec
  have hby := Bd.bytes
  have hml : c.maxLocals = 3 := hml0
  have hown : s.vm.findClass "java/lang/String" = some m.cls := findClass_of_methodNamed Bd.named
  have hnm := (name_of_methodNamed Bd.named Bd.method).1
  have X0 : Stand p l e ({ frames := 1, cells := 0, slots := 0, locals := 12 } : Room) s m #[(.ref a1), (.ref a2), (.int p3)] below meth c s₁ [] 0 0 := Stand.of_body Bd
  have e0 : s₁.heap = h0 := by rw [← hh, Bd.state]; rfl
  have N0 := Fr.nil n0
  have K0 := Keep.refl h0 ([a1] : List Addr)
  have pre0 : ∀ t, Steps p.tables e below (s₁.setTop (mkF m 0 #[.val (.ref a1), .val (.ref a2), .val (.int p3)] [])) t → Steps p.tables e below (s₁.setTop (entryFrame m #[(.ref a1), (.ref a2), (.int p3)] 3)) t := fun t k => castTop (ef_24 m a1 a2 p3) k
  obtain ⟨T1, X1, e1, st1⟩ := initO X0 hx hZ hown (hw _ (List.mem_of_getElem? (i := 27) rfl)) (hw _ (List.mem_of_getElem? (i := 28) rfl)) (hw _ (List.mem_of_getElem? (i := 29) rfl)) e0 (g := (mkF m 1 #[.val (.ref a1), .val (.ref a2), .val (.int p3)] [(.ref a1)])) rfl (by rw [hml]; rfl) rfl (hb hby d24_1) (by decide) (W := 0) (by show 2 * 0 + _ ≤ _; exact Nat.le_of_eq rfl) (by decide)
  obtain ⟨T2, h2, X2, e2, W2, st2⟩ := putF X1 hx hZ hown (host := "") (Or.inl (hw _ (List.mem_of_getElem? (i := 42) rfl))) Via.refl e1 F_v E_a1 (Or.inr ⟨(hw _ (List.mem_of_getElem? (i := 8) rfl)), rfl, hnm⟩) (hw _ (List.mem_of_getElem? (i := 6) rfl)) (ty := (.array .byte)) (by decide) rfl rfl (g := (mkF m 6 #[.val (.ref a1), .val (.ref a2), .val (.int p3)] [(.ref a2), (.ref a1)])) rfl rfl (hb hby d24_6)
  have Fw2 := F_v.same W2
  have K2 := K0.wr W2 (Or.inl (List.mem_of_getElem? (i := 0) rfl))
  have N2 := Fr.snoc X2 N0 g_a1
  have c3 := (E_a1.wr W2)
  have c4 := (F_c.other W2 (Or.inr (slot_ne (Or.inr (hw _ (List.mem_of_getElem? (i := 9) rfl))) (Or.inr (hw _ (List.mem_of_getElem? (i := 8) rfl))) (by decide) (t := .byte) (t' := (.array .byte)) (by decide) (by decide))))
  obtain ⟨T5, h5, X5, e5, W5, st5⟩ := putFN X2 hx hZ hown (hw _ (List.mem_of_getElem? (i := 41) rfl)) Via.refl e2 c4 c3 (Or.inr ⟨(hw _ (List.mem_of_getElem? (i := 9) rfl)), rfl, hnm⟩) (hw _ (List.mem_of_getElem? (i := 6) rfl)) (ty := .byte) (v := (.int p3)) (v' := (.int (nar .byte p3))) (by decide) rfl (fits_nar_byte _) (g := (mkF m 11 #[.val (.ref a1), .val (.ref a2), .val (.int p3)] [(.int p3), (.ref a1)])) rfl rfl (hb hby d24_11)
  have Fw5 := c4.same W5
  have K5 := K2.wr W5 (Or.inl (List.mem_of_getElem? (i := 0) rfl))
  have N5 := Fr.snoc X5 N2 g_a1
  have c6 := (Fw2.other W5 (Or.inr (slot_ne (Or.inr (hw _ (List.mem_of_getElem? (i := 8) rfl))) (Or.inr (hw _ (List.mem_of_getElem? (i := 9) rfl))) (by decide) (t := (.array .byte)) (t' := .byte) (by decide) (by decide))))
  obtain ⟨fs, hr, hrun, hended, hW, hsame⟩ := X5.leave (v := none) (fun _ => rfl)
  refine ⟨_, _, pre0 _ ?_, hrun, hended, _, _, rfl, ?_, ⟨_, rfl⟩, hW, hsame.mono (by decide) (by decide)⟩
  ·
    show Steps p.tables e below (s₁.setTop (mkF m 0 #[.val (.ref a1), .val (.ref a2), .val (.int p3)] [])) _
    refine XS.aloadN X0.here hx rfl (hb hby d24_0) rfl rfl ?_
    show Steps p.tables e below (s₁.setTop (mkF m 1 #[.val (.ref a1), .val (.ref a2), .val (.int p3)] [(.ref a1)])) _
    refine st1 _ ?_
    show Steps p.tables e below (T1.setTop (mkF m 4 #[.val (.ref a1), .val (.ref a2), .val (.int p3)] [])) _
    refine XS.aloadN X1.here hx rfl (hb hby d24_4) rfl rfl ?_
    refine XS.aloadN X1.here hx rfl (hb hby d24_5) rfl rfl ?_
    show Steps p.tables e below (T1.setTop (mkF m 6 #[.val (.ref a1), .val (.ref a2), .val (.int p3)] [(.ref a2), (.ref a1)])) _
    refine st2 _ ?_
    show Steps p.tables e below (T2.setTop (mkF m 9 #[.val (.ref a1), .val (.ref a2), .val (.int p3)] [])) _
    refine XS.aloadN X2.here hx rfl (hb hby d24_9) rfl rfl ?_
    refine XS.iloadN X2.here hx rfl (hb hby d24_10) rfl ?_
    show Steps p.tables e below (T2.setTop (mkF m 11 #[.val (.ref a1), .val (.ref a2), .val (.int p3)] [(.int p3), (.ref a1)])) _
    refine st5 _ ?_
    show Steps p.tables e below (T5.setTop (mkF m 14 #[.val (.ref a1), .val (.ref a2), .val (.int p3)] [])) _
    exact X5.returnOut hx Bd.returns (hb hby d24_14) hr
  ·
    show Q24 Z a1 a2 p3 h0 n0 _ T5.heap _
    rw [e5]
    exact ⟨rfl, N5, K5, c6, Fw5⟩
theorem d21_0 : decode jdk_42_method_139_code 0 = .ok (.getstatic 38, 3) := by decide +kernel
theorem d21_3 : decode jdk_42_method_139_code 3 = .ok (.ifCond .eq 23, 3) := by decide +kernel
theorem d21_6 : decode jdk_42_method_139_code 6 = .ok (.iload_n 0, 1) := by decide +kernel
theorem d21_7 : decode jdk_42_method_139_code 7 = .ok (.invokestatic 1015, 3) := by decide +kernel
theorem d21_10 : decode jdk_42_method_139_code 10 = .ok (.ifCond .eq 16, 3) := by decide +kernel
theorem d21_13 : decode jdk_42_method_139_code 13 = .ok (.new 10, 3) := by decide +kernel
theorem d21_16 : decode jdk_42_method_139_code 16 = .ok (.dup, 1) := by decide +kernel
theorem d21_17 : decode jdk_42_method_139_code 17 = .ok (.iload_n 0, 1) := by decide +kernel
theorem d21_18 : decode jdk_42_method_139_code 18 = .ok (.invokestatic 1018, 3) := by decide +kernel
theorem d21_21 : decode jdk_42_method_139_code 21 = .ok (.iconst 0, 1) := by decide +kernel
theorem d21_22 : decode jdk_42_method_139_code 22 = .ok (.invokespecial 209, 3) := by decide +kernel
theorem d21_25 : decode jdk_42_method_139_code 25 = .ok (.areturn, 1) := by decide +kernel
theorem pn_21 : plainName "java/lang/String" = true := by first | (simp [plainName, overriddenIn]; done) | decide +kernel
theorem pd__C_Z : parseMethodDescriptor "(C)Z" = some ⟨[.char], some .boolean⟩ := by decide +kernel
theorem pd__C__B : parseMethodDescriptor "(C)[B" = some ⟨[.char], some (.array .byte)⟩ := by decide +kernel
theorem pd___BB_V : parseMethodDescriptor "([BB)V" = some ⟨[(.array .byte), .byte], none⟩ := by decide +kernel
theorem ef_21 (m : MethodId) (p0 : Int32) : entryFrame m #[(.int p0)] 1 = (mkF m 0 #[.val (.int p0)] []) := by first | (simp [entryFrame, mkF, argsToLocals, Value.category]; done) | rfl
def Q21 (Z : State) (p0 : Int32) (G1 : Int32) (h0 : Heap) (n0 : Nat) (v : Option Value) (h : Heap) (L : List Loc) : Prop := ∃ x : Addr, v = some (.ref x) ∧ Fr n0 L ∧ Keep h0 h [] ∧ n0 ≤ x ∧ h0.size ≤ x ∧ own_str Z h x [p0]
set_option maxRecDepth 65536 in
set_option maxHeartbeats 40000000 in
theorem rm21 (l : Launch) (Z : State) (a0 : Array Value) (hw : ∀ d ∈ tables_1, d.before a0 Z = true) (ws : List Jvm.Cond) (p0 : Int32) (G1 : Int32) (h0 : Heap) (n0 : Nat) (Z0 : n0 ≤ h0.size) (OLD0 : Old Z n0 h0) (SCS : Sta Z Z.heap "java/lang/String" "COMPACT_STRINGS" "Z" (.int G1)) (P5 : ¬ (G1 = (0 : Int32))) (hp : own_c255 p0) :
    MetFree l (⟨"java/lang/String", "valueOf", "(C)Ljava/lang/String;"⟩ : MethodName) (head1 (Jvm.Cond.code (⟨"java/lang/String", "valueOf", "(C)Ljava/lang/String;"⟩ : MethodName) jdk_42_method_139_code 1 (some (.object "java/lang/String")) :: ws) ({ frames := 2, cells := 2, slots := 5, locals := 27 } : Room)) (fun a U => a = #[(.int p0)] ∧ Z.Warmed39 U.vm ∧ U.heap = h0) (fun _ _ _ _ _ => True) (fun _ U o U' => ∃ v L, o = .returned v ∧ Q21 Z p0 G1 h0 n0 v U'.heap L ∧ FrameEnd U o U' L ({ frames := 2, cells := 2, slots := 5, locals := 27 } : Room).cells ({ frames := 2, cells := 2, slots := 5, locals := 27 } : Room).slots) := by
  refine MetFree.of_bodySF (plainFor_of_name pn_21) hisR ?_
  intro p e s m args below meth c s₁ Bd hml0 hP hK
  obtain ⟨rfl, hZ, hh⟩ := hP
  have hx := Bd.exec
  have hby := Bd.bytes
  have hml : c.maxLocals = 1 := hml0
  have hown : s.vm.findClass "java/lang/String" = some m.cls := findClass_of_methodNamed Bd.named
  have hnm := (name_of_methodNamed Bd.named Bd.method).1
  have X0 : Stand p l e ({ frames := 2, cells := 2, slots := 5, locals := 27 } : Room) s m #[(.int p0)] below meth c s₁ [] 0 0 := Stand.of_body Bd
  have e0 : s₁.heap = h0 := by rw [← hh, Bd.state]; rfl
  have N0 := Fr.nil n0
  have K0 := Keep.refl h0 ([] : List Addr)
  have pre0 : ∀ t, Steps p.tables e below (s₁.setTop (mkF m 0 #[.val (.int p0)] [])) t → Steps p.tables e below (s₁.setTop (entryFrame m #[(.int p0)] 1)) t := fun t k => castTop (ef_21 m p0) k
  have q1 := SCS.ext (OLD0.keep K0 all0).2
  obtain ⟨T2, X2, e2, st2⟩ := getS2 X0 hx hZ hown (host := "") (Or.inl (hw _ (List.mem_of_getElem? (i := 30) rfl))) Via.refl e0 q1 (g := (mkF m 0 #[.val (.int p0)] [])) rfl (hb hby d21_0)
  have hk3 : ¬ (G1 = (0 : Int32)) := P5
  obtain ⟨_, _, ⟨T4, L4, k4, n4⟩, -, X4, ⟨Lc4, hQ4, l4, y4, z4⟩, st4⟩ := Jvm.LawKit.callS X2 hx (y := (⟨"java/lang/StringLatin1", "canEncode", "(C)Z"⟩ : MethodName)) hown (mvT hZ (hw _ (List.mem_of_getElem? (i := 123) rfl))) (mvT hZ (hw _ (List.mem_of_getElem? (i := 124) rfl))) (mvT hZ (hw _ (List.mem_of_getElem? (i := 88) rfl))) (mvT hZ (hw _ (List.mem_of_getElem? (i := 125) rfl))) (by decide) (backOf (W := 0) (rm22 l Z a0 hw [] p0 h0 n0 (Nat.le_trans Z0 K0.1) hp.2) hZ (hw _ (List.mem_of_getElem? (i := 125) rfl)) (hw _ (List.mem_of_getElem? (i := 88) rfl)) (by decide) (by decide)) (g := (mkF m 7 #[.val (.int p0)] [(.int p0)])) rfl (by rw [hml]; rfl) (argsL := [(.int p0)]) (rest := []) (lenOf pd__C_Z rfl) rfl (by show 2 * 0 + _ ≤ _; exact Nat.le_of_eq rfl) (hb hby d21_7) (fun _ _ => ⟨rfl, e2, (by decide : 0 + 0 ≤ _), (by decide : 0 + 0 ≤ _)⟩)
  dsimp only [Pt.U, Pt.locs, Pt.cells, Pt.slots] at X4 l4 y4 z4 st4 hQ4
  subst l4 y4 z4
  obtain ⟨rfl, N4q, hq4⟩ := hQ4
  have N4 := Fr.app N0 N4q
  have E4 : Ext h0 T4.heap := by rw [hq4]; exact ⟨Nat.le_refl _, fun _ _ q => q⟩
  have K4 := K0.ext E4
  obtain ⟨T5, h5, X5, e5, E5, A5, D5, -, st5⟩ := newO X4 hx hZ hown (hw _ (List.mem_of_getElem? (i := 126) rfl)) (hw _ (List.mem_of_getElem? (i := 6) rfl)) (hw _ (List.mem_of_getElem? (i := 5) rfl)) rfl (g := (mkF m 13 #[.val (.int p0)] [])) rfl (hb hby d21_13) (by decide) (by decide)
  obtain ⟨b5, g5⟩ : ∃ z, z = T4.heap.size := ⟨_, rfl⟩
  rw [← g5] at A5 D5 st5
  have g_b5 : n0 ≤ b5 := Nat.le_trans (Nat.le_trans Z0 K4.1) (Nat.le_of_eq g5.symm)
  have sz_b5 : h0.size ≤ b5 := Nat.le_trans K4.1 (Nat.le_of_eq g5.symm)
  have K5 := K4.ext E5
  have F_value_b5 : Fld Z h5 b5 "java/lang/String" "value" "[B" .null := D5 (Or.inr (hw _ (List.mem_of_getElem? (i := 8) rfl))) (ty := (.array .byte)) (by decide)
  have F_coder_b5 : Fld Z h5 b5 "java/lang/String" "coder" "B" (.int (0 : Int32)) := D5 (Or.inr (hw _ (List.mem_of_getElem? (i := 9) rfl))) (ty := .byte) (by decide)
  obtain ⟨_, _, ⟨T6, L6, k6, n6⟩, -, X6, ⟨Lc6, hQ6, l6, y6, z6⟩, st6⟩ := Jvm.LawKit.callS X5 hx (y := (⟨"java/lang/StringLatin1", "toBytes", "(C)[B"⟩ : MethodName)) hown (mvT hZ (hw _ (List.mem_of_getElem? (i := 127) rfl))) (mvT hZ (hw _ (List.mem_of_getElem? (i := 128) rfl))) (mvT hZ (hw _ (List.mem_of_getElem? (i := 88) rfl))) (mvT hZ (hw _ (List.mem_of_getElem? (i := 129) rfl))) (by decide) (backOf (W := 2) (rm23 l Z a0 hw [] p0 h5 n0 (Nat.le_trans Z0 K5.1)) hZ (hw _ (List.mem_of_getElem? (i := 129) rfl)) (hw _ (List.mem_of_getElem? (i := 88) rfl)) (by decide) (by decide)) (g := (mkF m 18 #[.val (.int p0)] [(.int p0), (.ref b5), (.ref b5)])) rfl (by rw [hml]; rfl) (argsL := [(.int p0)]) (rest := [(.ref b5), (.ref b5)]) (lenOf pd__C__B rfl) rfl (by show 2 * 0 + _ ≤ _; exact Nat.le_of_eq rfl) (hb hby d21_18) (fun _ _ => ⟨rfl, e5, (by decide : 1 + 1 ≤ _), (by decide : 4 + 1 ≤ _)⟩)
  dsimp only [Pt.U, Pt.locs, Pt.cells, Pt.slots] at X6 l6 y6 z6 st6 hQ6
  subst l6 y6 z6
  obtain ⟨b6, kb6, rfl, N6q, kq6, gg6, u6, va6⟩ := hQ6
  have N6 := Fr.app N4 N6q
  have K6 := K5.trans kq6 all0
  have sz_b6 : h0.size ≤ b6 := Nat.le_trans K5.1 u6
  have g_b6 := gg6
  have ne_b5_b6 : b5 ≠ b6 := Nat.ne_of_lt (Nat.lt_of_lt_of_le F_coder_b5.lt u6)
  have c8 := (A5.keep kq6)
  have c9 := (F_value_b5.keep kq6 nin0)
  have c10 := (F_coder_b5.keep kq6 nin0)
  obtain ⟨_, _, ⟨T7, L7, k7, n7⟩, -, X7, ⟨Lc7, hQ7, l7, y7, z7⟩, st7⟩ := X6.specialBack hx (y := (⟨"java/lang/String", "<init>", "([BB)V"⟩ : MethodName)) rfl hown (mvT hZ (hw _ (List.mem_of_getElem? (i := 130) rfl))) (mvT hZ (hw _ (List.mem_of_getElem? (i := 131) rfl))) (mvT hZ (hw _ (List.mem_of_getElem? (i := 132) rfl))) (by decide) (backOf (W := 1) (rm24 l Z a0 hw [] b5 b6 (0 : Int32) T6.heap n0 (Nat.le_trans Z0 K6.1) c8 c9 c10 g_b5) hZ (hw _ (List.mem_of_getElem? (i := 132) rfl)) (hw _ (List.mem_of_getElem? (i := 5) rfl)) (by decide) (by decide)) (g := (mkF m 22 #[.val (.int p0)] [(.int (0 : Int32)), (.ref b6), (.ref b5), (.ref b5)])) rfl (by rw [hml]; rfl) (Steps.refl _) (a := b5) (argsL := [(.ref b6), (.int (0 : Int32))]) (rest := [(.ref b5)]) (lenOf pd___BB_V rfl) rfl (by show 2 * 0 + _ ≤ _; exact Nat.le_of_eq rfl) (hb hby d21_22) (fun _ _ => ⟨rfl, rfl, (by decide : 2 + 0 ≤ _), (by decide : 5 + 0 ≤ _)⟩)
  dsimp only [Pt.U, Pt.locs, Pt.cells, Pt.slots] at X7 l7 y7 z7 st7 hQ7
  subst l7 y7 z7
  obtain ⟨rfl, N7q, kq7, fv7, fc7⟩ := hQ7
  have N7 := Fr.app N6 N7q
  have K7 := K6.trans kq7 (allS (Or.inr sz_b5) all0)
  have c11 := (c8.keep kq7)
  have c12 := (va6.keep kq7 (ninS (Ne.symm ne_b5_b6) nin0))
  have hb9 := c12
  rw [own_b8] at hb9
  obtain ⟨fs, hr, hrun, hended, hW, hsame⟩ := X7.leave (v := some (.ref b5)) (fun h => by rw [Bd.returns] at h; cases h)
  refine ⟨_, _, pre0 _ ?_, hrun, hended, _, _, rfl, ?_, ⟨_, rfl⟩, hW, hsame.mono (by decide) (by decide)⟩
  ·
    show Steps p.tables e below (s₁.setTop (mkF m 0 #[.val (.int p0)] [])) _
    refine st2 _ ?_
    show Steps p.tables e below (T2.setTop (mkF m 3 #[.val (.int p0)] [(.int G1)])) _
    refine XS.ifNo X2.here hx rfl (hb hby d21_3) rfl ((if0 _ _).trans (feq hk3).1) ?_
    refine XS.iloadN X2.here hx rfl (hb hby d21_6) rfl ?_
    show Steps p.tables e below (T2.setTop (mkF m 7 #[.val (.int p0)] [(.int p0)])) _
    refine st4 _ ?_
    show Steps p.tables e below (T4.setTop (mkF m 10 #[.val (.int p0)] [(.int (1 : Int32))])) _
    refine XS.ifNo X4.here hx rfl (hb hby d21_10) rfl ((if0 _ _).trans (feq (by decide : ¬ ((1 : Int32) = (0 : Int32)))).1) ?_
    show Steps p.tables e below (T4.setTop (mkF m 13 #[.val (.int p0)] [])) _
    refine st5 _ ?_
    show Steps p.tables e below (T5.setTop (mkF m 16 #[.val (.int p0)] [(.ref b5)])) _
    refine XS.dup X5.here hx rfl (hb hby d21_16) rfl rfl ?_
    refine XS.iloadN X5.here hx rfl (hb hby d21_17) rfl ?_
    show Steps p.tables e below (T5.setTop (mkF m 18 #[.val (.int p0)] [(.int p0), (.ref b5), (.ref b5)])) _
    refine st6 _ ?_
    show Steps p.tables e below (T6.setTop (mkF m 21 #[.val (.int p0)] [(.ref b6), (.ref b5), (.ref b5)])) _
    refine XS.iconst X6.here hx rfl (hb hby d21_21) ?_
    show Steps p.tables e below (T6.setTop (mkF m 22 #[.val (.int p0)] [(.int (0 : Int32)), (.ref b6), (.ref b5), (.ref b5)])) _
    refine st7.trans ?_
    show Steps p.tables e below (T7.setTop (mkF m 25 #[.val (.int p0)] [(.ref b5)])) _
    jvm_step X7.here [X7.here.top, hx, (hb hby d21_25), X7.method', Bd.returns, Value.isRef, FieldType.isReference]
    first | (intro acts; rw [hr _ acts rfl rfl rfl]) | rw [hr _ _ rfl rfl rfl]
    exact Steps.refl _
  ·
    show Q21 Z p0 G1 h0 n0 _ T7.heap _
    exact ⟨_, rfl, N7, K7, g_b5, sz_b5, _, _, c11, fc7, fv7, hb9⟩
theorem d3_0 : decode method_5_code 0 = .ok (.iload 4, 2) := by decide +kernel
theorem d3_2 : decode method_5_code 2 = .ok (.iconst 1, 1) := by decide +kernel
theorem d3_3 : decode method_5_code 3 = .ok (.if_icmp .ne 8, 3) := by decide +kernel
theorem d3_6 : decode method_5_code 6 = .ok (.iload_n 0, 1) := by decide +kernel
theorem d3_7 : decode method_5_code 7 = .ok (.invokestatic 40, 3) := by decide +kernel
theorem d3_10 : decode method_5_code 10 = .ok (.areturn, 1) := by decide +kernel
theorem d3_11 : decode method_5_code 11 = .ok (.iload 4, 2) := by decide +kernel
theorem d3_13 : decode method_5_code 13 = .ok (.iconst 2, 1) := by decide +kernel
theorem d3_14 : decode method_5_code 14 = .ok (.if_icmp .ne 22, 3) := by decide +kernel
theorem d3_17 : decode method_5_code 17 = .ok (.new 41, 3) := by decide +kernel
theorem d3_20 : decode method_5_code 20 = .ok (.dup, 1) := by decide +kernel
theorem d3_21 : decode method_5_code 21 = .ok (.iconst 2, 1) := by decide +kernel
theorem d3_22 : decode method_5_code 22 = .ok (.newarray .char, 2) := by decide +kernel
theorem d3_24 : decode method_5_code 24 = .ok (.dup, 1) := by decide +kernel
theorem d3_25 : decode method_5_code 25 = .ok (.iconst 0, 1) := by decide +kernel
theorem d3_26 : decode method_5_code 26 = .ok (.iload_n 0, 1) := by decide +kernel
theorem d3_27 : decode method_5_code 27 = .ok (.castore, 1) := by decide +kernel
theorem d3_28 : decode method_5_code 28 = .ok (.dup, 1) := by decide +kernel
theorem d3_29 : decode method_5_code 29 = .ok (.iconst 1, 1) := by decide +kernel
theorem d3_30 : decode method_5_code 30 = .ok (.iload_n 1, 1) := by decide +kernel
theorem d3_31 : decode method_5_code 31 = .ok (.castore, 1) := by decide +kernel
theorem d3_32 : decode method_5_code 32 = .ok (.invokespecial 46, 3) := by decide +kernel
theorem d3_35 : decode method_5_code 35 = .ok (.areturn, 1) := by decide +kernel
theorem d3_36 : decode method_5_code 36 = .ok (.iload 4, 2) := by decide +kernel
theorem d3_38 : decode method_5_code 38 = .ok (.iconst 3, 1) := by decide +kernel
theorem d3_39 : decode method_5_code 39 = .ok (.if_icmp .ne 26, 3) := by decide +kernel
theorem d3_42 : decode method_5_code 42 = .ok (.new 41, 3) := by decide +kernel
theorem d3_45 : decode method_5_code 45 = .ok (.dup, 1) := by decide +kernel
theorem d3_46 : decode method_5_code 46 = .ok (.iconst 3, 1) := by decide +kernel
theorem d3_47 : decode method_5_code 47 = .ok (.newarray .char, 2) := by decide +kernel
theorem d3_49 : decode method_5_code 49 = .ok (.dup, 1) := by decide +kernel
theorem d3_50 : decode method_5_code 50 = .ok (.iconst 0, 1) := by decide +kernel
theorem d3_51 : decode method_5_code 51 = .ok (.iload_n 0, 1) := by decide +kernel
theorem d3_52 : decode method_5_code 52 = .ok (.castore, 1) := by decide +kernel
theorem d3_53 : decode method_5_code 53 = .ok (.dup, 1) := by decide +kernel
theorem d3_54 : decode method_5_code 54 = .ok (.iconst 1, 1) := by decide +kernel
theorem d3_55 : decode method_5_code 55 = .ok (.iload_n 1, 1) := by decide +kernel
theorem d3_56 : decode method_5_code 56 = .ok (.castore, 1) := by decide +kernel
theorem d3_57 : decode method_5_code 57 = .ok (.dup, 1) := by decide +kernel
theorem d3_58 : decode method_5_code 58 = .ok (.iconst 2, 1) := by decide +kernel
theorem d3_59 : decode method_5_code 59 = .ok (.iload_n 2, 1) := by decide +kernel
theorem d3_60 : decode method_5_code 60 = .ok (.castore, 1) := by decide +kernel
theorem d3_61 : decode method_5_code 61 = .ok (.invokespecial 46, 3) := by decide +kernel
theorem d3_64 : decode method_5_code 64 = .ok (.areturn, 1) := by decide +kernel
theorem d3_65 : decode method_5_code 65 = .ok (.new 41, 3) := by decide +kernel
theorem d3_68 : decode method_5_code 68 = .ok (.dup, 1) := by decide +kernel
theorem d3_69 : decode method_5_code 69 = .ok (.iconst 4, 1) := by decide +kernel
theorem d3_70 : decode method_5_code 70 = .ok (.newarray .char, 2) := by decide +kernel
theorem d3_72 : decode method_5_code 72 = .ok (.dup, 1) := by decide +kernel
theorem d3_73 : decode method_5_code 73 = .ok (.iconst 0, 1) := by decide +kernel
theorem d3_74 : decode method_5_code 74 = .ok (.iload_n 0, 1) := by decide +kernel
theorem d3_75 : decode method_5_code 75 = .ok (.castore, 1) := by decide +kernel
theorem d3_76 : decode method_5_code 76 = .ok (.dup, 1) := by decide +kernel
theorem d3_77 : decode method_5_code 77 = .ok (.iconst 1, 1) := by decide +kernel
theorem d3_78 : decode method_5_code 78 = .ok (.iload_n 1, 1) := by decide +kernel
theorem d3_79 : decode method_5_code 79 = .ok (.castore, 1) := by decide +kernel
theorem d3_80 : decode method_5_code 80 = .ok (.dup, 1) := by decide +kernel
theorem d3_81 : decode method_5_code 81 = .ok (.iconst 2, 1) := by decide +kernel
theorem d3_82 : decode method_5_code 82 = .ok (.iload_n 2, 1) := by decide +kernel
theorem d3_83 : decode method_5_code 83 = .ok (.castore, 1) := by decide +kernel
theorem d3_84 : decode method_5_code 84 = .ok (.dup, 1) := by decide +kernel
theorem d3_85 : decode method_5_code 85 = .ok (.iconst 3, 1) := by decide +kernel
theorem d3_86 : decode method_5_code 86 = .ok (.iload_n 3, 1) := by decide +kernel
theorem d3_87 : decode method_5_code 87 = .ok (.castore, 1) := by decide +kernel
theorem d3_88 : decode method_5_code 88 = .ok (.invokespecial 46, 3) := by decide +kernel
theorem d3_91 : decode method_5_code 91 = .ok (.areturn, 1) := by decide +kernel
theorem pn_3 : plainName "com/example/reed/reed/engine/IntegralityIsIntegerPinLaw" = true := by first | (simp [plainName, overriddenIn]; done) | decide +kernel
theorem pd__C_Ljava_lang_String_ : parseMethodDescriptor "(C)Ljava/lang/String;" = some ⟨[.char], some (.object "java/lang/String")⟩ := by decide +kernel
theorem pd___C_V : parseMethodDescriptor "([C)V" = some ⟨[(.array .char)], none⟩ := by decide +kernel
theorem ef_3 (m : MethodId) (p0 : Int32) (p1 : Int32) (p2 : Int32) (p3 : Int32) (p4 : Int32) : entryFrame m #[(.int p0), (.int p1), (.int p2), (.int p3), (.int p4)] 5 = (mkF m 0 #[.val (.int p0), .val (.int p1), .val (.int p2), .val (.int p3), .val (.int p4)] []) := by first | (simp [entryFrame, mkF, argsToLocals, Value.category]; done) | rfl
def Q3 (Z : State) (p0 : Int32) (p1 : Int32) (p2 : Int32) (p3 : Int32) (p4 : Int32) (G1 : Int32) (h0 : Heap) (n0 : Nat) (v : Option Value) (h : Heap) (L : List Loc) : Prop := ∃ x : Addr, v = some (.ref x) ∧ Fr n0 L ∧ Keep h0 h [] ∧ n0 ≤ x ∧ h0.size ≤ x ∧ own_str Z h x (own_take p4 p0 p1 p2 p3)
set_option maxRecDepth 65536 in
set_option maxHeartbeats 40000000 in
theorem rm3 (l : Launch) (Z : State) (a0 : Array Value) (hw : ∀ d ∈ tables_1, d.before a0 Z = true) (ws : List Jvm.Cond) (p0 : Int32) (p1 : Int32) (p2 : Int32) (p3 : Int32) (p4 : Int32) (G1 : Int32) (h0 : Heap) (n0 : Nat) (Z0 : n0 ≤ h0.size) (OLD0 : Old Z n0 h0) (SCS : Sta Z Z.heap "java/lang/String" "COMPACT_STRINGS" "Z" (.int G1)) (P5 : ¬ (G1 = (0 : Int32))) (hp0 : own_c255 p0) (hp1 : own_c255 p1) (hp2 : own_c255 p2) (hp3 : own_c255 p3) :
    MetFree l (⟨"com/example/reed/reed/engine/IntegralityIsIntegerPinLaw", "text", "(CCCCI)Ljava/lang/String;"⟩ : MethodName) (head1 (Jvm.Cond.code (⟨"com/example/reed/reed/engine/IntegralityIsIntegerPinLaw", "text", "(CCCCI)Ljava/lang/String;"⟩ : MethodName) method_5_code 5 (some (.object "java/lang/String")) :: ws) ({ frames := 5, cells := 3, slots := 12, locals := 79 } : Room)) (fun a U => a = #[(.int p0), (.int p1), (.int p2), (.int p3), (.int p4)] ∧ Z.Warmed39 U.vm ∧ U.heap = h0) (fun _ _ _ _ _ => True) (fun _ U o U' => ∃ v L, o = .returned v ∧ Q3 Z p0 p1 p2 p3 p4 G1 h0 n0 v U'.heap L ∧ FrameEnd U o U' L ({ frames := 5, cells := 3, slots := 12, locals := 79 } : Room).cells ({ frames := 5, cells := 3, slots := 12, locals := 79 } : Room).slots) := by
  refine MetFree.of_bodySF (plainFor_of_name pn_3) hisR ?_
  intro p e s m args below meth c s₁ Bd hml0 hP hK
  obtain ⟨rfl, hZ, hh⟩ := hP
  have hx := Bd.exec
  have hby := Bd.bytes
  have hml : c.maxLocals = 5 := hml0
  have hown : s.vm.findClass "com/example/reed/reed/engine/IntegralityIsIntegerPinLaw" = some m.cls := findClass_of_methodNamed Bd.named
  have hnm := (name_of_methodNamed Bd.named Bd.method).1
  have X0 : Stand p l e ({ frames := 5, cells := 3, slots := 12, locals := 79 } : Room) s m #[(.int p0), (.int p1), (.int p2), (.int p3), (.int p4)] below meth c s₁ [] 0 0 := Stand.of_body Bd
  have e0 : s₁.heap = h0 := by rw [← hh, Bd.state]; rfl
  have N0 := Fr.nil n0
  have K0 := Keep.refl h0 ([] : List Addr)
  have pre0 : ∀ t, Steps p.tables e below (s₁.setTop (mkF m 0 #[.val (.int p0), .val (.int p1), .val (.int p2), .val (.int p3), .val (.int p4)] [])) t → Steps p.tables e below (s₁.setTop (entryFrame m #[(.int p0), (.int p1), (.int p2), (.int p3), (.int p4)] 5)) t := fun t k => castTop (ef_3 m p0 p1 p2 p3 p4) k
  have pre1 : ∀ t, Steps p.tables e below (s₁.setTop (mkF m 3 #[.val (.int p0), .val (.int p1), .val (.int p2), .val (.int p3), .val (.int p4)] [(.int (1 : Int32)), (.int p4)])) t → Steps p.tables e below (s₁.setTop (entryFrame m #[(.int p0), (.int p1), (.int p2), (.int p3), (.int p4)] 5)) t := by
    intro t kt
    refine pre0 _ ?_
    show Steps p.tables e below (s₁.setTop (mkF m 0 #[.val (.int p0), .val (.int p1), .val (.int p2), .val (.int p3), .val (.int p4)] [])) _
    refine XS.iload X0.here hx rfl (hb hby d3_0) rfl ?_
    refine XS.iconst X0.here hx rfl (hb hby d3_2) ?_
    show Steps p.tables e below (s₁.setTop (mkF m 3 #[.val (.int p0), .val (.int p1), .val (.int p2), .val (.int p3), .val (.int p4)] [(.int (1 : Int32)), (.int p4)])) _
    exact kt
  by_cases hc3_2 : p4 = (1 : Int32)
  ·
    have OLD3 : Old Z n0 h0 := OLD0.keep K0 all0
    obtain ⟨_, _, ⟨T3, L3, k3, n3⟩, -, X3, ⟨Lc3, hQ3, l3, y3, z3⟩, st3⟩ := Jvm.LawKit.callS X0 hx (y := (⟨"java/lang/String", "valueOf", "(C)Ljava/lang/String;"⟩ : MethodName)) hown (mvT hZ (hw _ (List.mem_of_getElem? (i := 120) rfl))) (mvT hZ (hw _ (List.mem_of_getElem? (i := 121) rfl))) (mvT hZ (hw _ (List.mem_of_getElem? (i := 5) rfl))) (mvT hZ (hw _ (List.mem_of_getElem? (i := 122) rfl))) (by decide) (backOf (W := 0) (rm21 l Z a0 hw [] p0 G1 h0 n0 (Nat.le_trans Z0 K0.1) OLD3 SCS P5 hp0) hZ (hw _ (List.mem_of_getElem? (i := 122) rfl)) (hw _ (List.mem_of_getElem? (i := 5) rfl)) (by decide) (by decide)) (g := (mkF m 7 #[.val (.int p0), .val (.int p1), .val (.int p2), .val (.int p3), .val (.int p4)] [(.int p0)])) rfl (by rw [hml]; rfl) (argsL := [(.int p0)]) (rest := []) (lenOf pd__C_Ljava_lang_String_ rfl) rfl (by show 2 * 0 + _ ≤ _; exact Nat.le_of_eq rfl) (hb hby d3_7) (fun _ _ => ⟨rfl, e0, (by decide : 0 + 2 ≤ _), (by decide : 0 + 5 ≤ _)⟩)
    dsimp only [Pt.U, Pt.locs, Pt.cells, Pt.slots] at X3 l3 y3 z3 st3 hQ3
    subst l3 y3 z3
    obtain ⟨x3, rfl, N3q, kq3, gg3, u3, t3, kb3, xe3, xc3, xv3, xa3⟩ := hQ3
    have N3 := Fr.app N0 N3q
    have K3 := K0.trans kq3 all0
    have hcs : own_take p4 p0 p1 p2 p3 = [p0] := by unfold own_take; rw [if_pos hc3_2]
    obtain ⟨fs, hr, hrun, hended, hW, hsame⟩ := X3.leave (v := some (.ref x3)) (fun h => by rw [Bd.returns] at h; cases h)
    refine ⟨_, _, pre1 _ ?_, hrun, hended, _, _, rfl, ?_, ⟨_, rfl⟩, hW, hsame.mono (by decide) (by decide)⟩
    ·
      show Steps p.tables e below (s₁.setTop (mkF m 3 #[.val (.int p0), .val (.int p1), .val (.int p2), .val (.int p3), .val (.int p4)] [(.int (1 : Int32)), (.int p4)])) _
      refine XS.icmpNo X0.here hx rfl (hb hby d3_3) rfl (teq hc3_2).2 ?_
      refine XS.iloadN X0.here hx rfl (hb hby d3_6) rfl ?_
      show Steps p.tables e below (s₁.setTop (mkF m 7 #[.val (.int p0), .val (.int p1), .val (.int p2), .val (.int p3), .val (.int p4)] [(.int p0)])) _
      refine st3 _ ?_
      show Steps p.tables e below (T3.setTop (mkF m 10 #[.val (.int p0), .val (.int p1), .val (.int p2), .val (.int p3), .val (.int p4)] [(.ref x3)])) _
      jvm_step X3.here [X3.here.top, hx, (hb hby d3_10), X3.method', Bd.returns, Value.isRef, FieldType.isReference]
      first | (intro acts; rw [hr _ acts rfl rfl rfl]) | rw [hr _ _ rfl rfl rfl]
      exact Steps.refl _
    ·
      show Q3 Z p0 p1 p2 p3 p4 G1 h0 n0 _ T3.heap _
      exact by delta Q3; rw [hcs]; exact ⟨x3, rfl, N3, K3, gg3, u3, t3, kb3, xe3, xc3, xv3, xa3⟩
  ·
    have pre4 : ∀ t, Steps p.tables e below (s₁.setTop (mkF m 14 #[.val (.int p0), .val (.int p1), .val (.int p2), .val (.int p3), .val (.int p4)] [(.int (2 : Int32)), (.int p4)])) t → Steps p.tables e below (s₁.setTop (entryFrame m #[(.int p0), (.int p1), (.int p2), (.int p3), (.int p4)] 5)) t := by
      intro t kt
      refine pre1 _ ?_
      show Steps p.tables e below (s₁.setTop (mkF m 3 #[.val (.int p0), .val (.int p1), .val (.int p2), .val (.int p3), .val (.int p4)] [(.int (1 : Int32)), (.int p4)])) _
      refine XS.icmpYes X0.here hx rfl (pc0 := 3) (pc' := 11) rfl (hb hby d3_3) rfl (feq hc3_2).2 (by decide) (by decide) ?_
      refine XS.iload X0.here hx rfl (hb hby d3_11) rfl ?_
      refine XS.iconst X0.here hx rfl (hb hby d3_13) ?_
      show Steps p.tables e below (s₁.setTop (mkF m 14 #[.val (.int p0), .val (.int p1), .val (.int p2), .val (.int p3), .val (.int p4)] [(.int (2 : Int32)), (.int p4)])) _
      exact kt
    by_cases hc14_5 : p4 = (2 : Int32)
    ·
      obtain ⟨T6, h6, X6, e6, E6, A6, D6, -, st6⟩ := newO X0 hx hZ hown (hw _ (List.mem_of_getElem? (i := 18) rfl)) (hw _ (List.mem_of_getElem? (i := 6) rfl)) (hw _ (List.mem_of_getElem? (i := 5) rfl)) e0 (g := (mkF m 17 #[.val (.int p0), .val (.int p1), .val (.int p2), .val (.int p3), .val (.int p4)] [])) rfl (hb hby d3_17) (by decide) (by decide)
      obtain ⟨b6, g6⟩ : ∃ z, z = h0.size := ⟨_, rfl⟩
      rw [← g6] at A6 D6 st6
      have g_b6 : n0 ≤ b6 := Nat.le_trans (Nat.le_trans Z0 K0.1) (Nat.le_of_eq g6.symm)
      have sz_b6 : h0.size ≤ b6 := Nat.le_trans K0.1 (Nat.le_of_eq g6.symm)
      have K6 := K0.ext E6
      have F_value_b6 : Fld Z h6 b6 "java/lang/String" "value" "[B" .null := D6 (Or.inr (hw _ (List.mem_of_getElem? (i := 8) rfl))) (ty := (.array .byte)) (by decide)
      have F_coder_b6 : Fld Z h6 b6 "java/lang/String" "coder" "B" (.int (0 : Int32)) := D6 (Or.inr (hw _ (List.mem_of_getElem? (i := 9) rfl))) (ty := .byte) (by decide)
      obtain ⟨T7, h7, k7, X7, e7, E7, A7, st7⟩ := newP X6 hx hZ (hw _ (List.mem_of_getElem? (i := 19) rfl)) e6 (g := (mkF m 22 #[.val (.int p0), .val (.int p1), .val (.int p2), .val (.int p3), .val (.int p4)] [(.int (2 : Int32)), (.ref b6), (.ref b6)])) rfl (hb hby d3_22) rfl (by decide) (cap := 2) (by decide) (by decide) (by decide) (by decide)
      obtain ⟨b7, g7⟩ : ∃ z, z = h6.size := ⟨_, rfl⟩
      rw [← g7] at A7 st7
      have g_b7 : n0 ≤ b7 := Nat.le_trans (Nat.le_trans Z0 K6.1) (Nat.le_of_eq g7.symm)
      have sz_b7 : h0.size ≤ b7 := Nat.le_trans K6.1 (Nat.le_of_eq g7.symm)
      have ne_b6_b7 : b6 ≠ b7 := Nat.ne_of_lt (Nat.lt_of_lt_of_le A6.lt (Nat.le_of_eq g7.symm))
      have K7 := K6.ext E7
      have V_b7 : Arv Z h7 b7 k7 .char (2 : Int32) [(.int (0 : Int32)), (.int (0 : Int32))] (.int (0 : Int32)) := (Arv.new A7 (by decide)).pad (pad_rep [] (.int (0 : Int32)) 2)
      obtain ⟨clo8, Aro8, qo8, So8, No8, Ho8, Go8⟩ := id V_b7
      have hino8 : ¬ ((0 : Int32) < 0 ∨ clo8.slots.size ≤ ((0 : Int32)).toNatClampNeg) := inb_of So8 ⟨by decide, by decide⟩
      obtain ⟨T9, h9, X9, e9, W9, st9⟩ := stC X7 hx hZ e7 Aro8 (j := (0 : Int32)) hino8 (g := (mkF m 27 #[.val (.int p0), .val (.int p1), .val (.int p2), .val (.int p3), .val (.int p4)] [(.int p0), (.int (0 : Int32)), (.ref b7), (.ref b7), (.ref b6), (.ref b6)])) rfl rfl (hb hby d3_27)
      have V9 : Arv Z h9 b7 k7 .char (2 : Int32) [(.int (nar .char p0)), (.int (0 : Int32))] (.int (0 : Int32)) := Arv.set Aro8 qo8 So8 No8 Ho8 Go8 (fits_nar_char _) W9 0 rfl (Nat.le_of_ble_eq_true rfl)
      have K9 := K7.wr W9 (Or.inr sz_b7)
      have N9 := Fr.snoc X9 N0 g_b7
      obtain ⟨clo10, Aro10, qo10, So10, No10, Ho10, Go10⟩ := id V9
      have hino10 : ¬ ((1 : Int32) < 0 ∨ clo10.slots.size ≤ ((1 : Int32)).toNatClampNeg) := inb_of So10 ⟨by decide, by decide⟩
      obtain ⟨T11, h11, X11, e11, W11, st11⟩ := stC X9 hx hZ e9 Aro10 (j := (1 : Int32)) hino10 (g := (mkF m 31 #[.val (.int p0), .val (.int p1), .val (.int p2), .val (.int p3), .val (.int p4)] [(.int p1), (.int (1 : Int32)), (.ref b7), (.ref b7), (.ref b6), (.ref b6)])) rfl rfl (hb hby d3_31)
      have V11 : Arv Z h11 b7 k7 .char (2 : Int32) [(.int (nar .char p0)), (.int (nar .char p1))] (.int (0 : Int32)) := Arv.set Aro10 qo10 So10 No10 Ho10 Go10 (fits_nar_char _) W11 1 rfl (Nat.le_of_ble_eq_true rfl)
      have K11 := K9.wr W11 (Or.inr sz_b7)
      have N11 := Fr.snoc X11 N9 g_b7
      have c13 := (((A6.ext E7).wr W9).wr W11)
      have c14 := (((F_value_b6.ext E7).other W9 (Or.inl ne_b6_b7)).other W11 (Or.inl ne_b6_b7))
      have c15 := (((F_coder_b6.ext E7).other W9 (Or.inl ne_b6_b7)).other W11 (Or.inl ne_b6_b7))
      have OLD12 : Old Z n0 h11 := OLD0.keep K11 all0
      have hp12 : ∀ c ∈ ([p0, p1] : List Int32), ¬ c < 0 ∧ ¬ (255 : Int32) < c := by
        intro c hc
        simp only [List.mem_cons, List.not_mem_nil, or_false] at hc
        rcases hc with rfl | rfl
        · exact hp0
        · exact hp1
      have va12 : Arv Z h11 b7 k7 .char 2 (([p0, p1] : List Int32).map Value.int) (.int (0 : Int32)) := by
        have q := V11
        rw [own_c16 hp0, own_c16 hp1] at q; exact q
      obtain ⟨_, _, ⟨T12, L12, k12, n12⟩, -, X12, ⟨Lc12, hQ12, l12, y12, z12⟩, st12⟩ := X11.specialBack hx (y := (⟨"java/lang/String", "<init>", "([C)V"⟩ : MethodName)) rfl hown (mvT hZ (hw _ (List.mem_of_getElem? (i := 20) rfl))) (mvT hZ (hw _ (List.mem_of_getElem? (i := 21) rfl))) (mvT hZ (hw _ (List.mem_of_getElem? (i := 22) rfl))) (by decide) (StrChars.Road.backV (W := 1) hZ (hws a0 Z hw) (kI := 4) (hw _ (List.mem_of_getElem? (i := 6) rfl)) (cs := ([p0, p1] : List Int32)) (bs := ([p0, p1] : List Int32).map (fun c => c.toInt8.toInt32)) (n := 2) g_b6 (Nat.le_trans Z0 K11.1) c13 c14 c15 va12 (SCS.ext OLD12.2) P5 rfl rfl (by decide) (by decide) hp12 rfl (by decide) (by decide)) (g := (mkF m 32 #[.val (.int p0), .val (.int p1), .val (.int p2), .val (.int p3), .val (.int p4)] [(.ref b7), (.ref b6), (.ref b6)])) rfl (by rw [hml]; rfl) (Steps.refl _) (a := b6) (argsL := [(.ref b7)]) (rest := [(.ref b6)]) (lenOf pd___C_V rfl) rfl (by show 2 * 0 + _ ≤ _; exact Nat.le_of_eq rfl) (hb hby d3_32) (fun _ _ => ⟨rfl, e11, (by decide : 2 + 1 ≤ _), (by decide : 6 + 2 ≤ _)⟩)
      dsimp only [Pt.U, Pt.locs, Pt.cells, Pt.slots] at X12 l12 y12 z12 st12 hQ12
      subst l12 y12 z12
      obtain ⟨rfl, N12q, kq12, xq12, cq12, t12, kb12, ut12, vt12, wt12, vq12, aq12⟩ := hQ12
      have N12 := Fr.app N11 N12q
      have K12 := K11.trans kq12 (allS (Or.inr sz_b6) all0)
      have hcs : own_take p4 p0 p1 p2 p3 = [p0, p1] := by unfold own_take; rw [if_neg hc3_2, if_pos hc14_5]
      obtain ⟨fs, hr, hrun, hended, hW, hsame⟩ := X12.leave (v := some (.ref b6)) (fun h => by rw [Bd.returns] at h; cases h)
      refine ⟨_, _, pre4 _ ?_, hrun, hended, _, _, rfl, ?_, ⟨_, rfl⟩, hW, hsame.mono (by decide) (by decide)⟩
      ·
        show Steps p.tables e below (s₁.setTop (mkF m 14 #[.val (.int p0), .val (.int p1), .val (.int p2), .val (.int p3), .val (.int p4)] [(.int (2 : Int32)), (.int p4)])) _
        refine XS.icmpNo X0.here hx rfl (hb hby d3_14) rfl (teq hc14_5).2 ?_
        show Steps p.tables e below (s₁.setTop (mkF m 17 #[.val (.int p0), .val (.int p1), .val (.int p2), .val (.int p3), .val (.int p4)] [])) _
        refine st6 _ ?_
        show Steps p.tables e below (T6.setTop (mkF m 20 #[.val (.int p0), .val (.int p1), .val (.int p2), .val (.int p3), .val (.int p4)] [(.ref b6)])) _
        refine XS.dup X6.here hx rfl (hb hby d3_20) rfl rfl ?_
        refine XS.iconst X6.here hx rfl (hb hby d3_21) ?_
        show Steps p.tables e below (T6.setTop (mkF m 22 #[.val (.int p0), .val (.int p1), .val (.int p2), .val (.int p3), .val (.int p4)] [(.int (2 : Int32)), (.ref b6), (.ref b6)])) _
        refine st7 _ ?_
        show Steps p.tables e below (T7.setTop (mkF m 24 #[.val (.int p0), .val (.int p1), .val (.int p2), .val (.int p3), .val (.int p4)] [(.ref b7), (.ref b6), (.ref b6)])) _
        refine XS.dup X7.here hx rfl (hb hby d3_24) rfl rfl ?_
        refine XS.iconst X7.here hx rfl (hb hby d3_25) ?_
        refine XS.iloadN X7.here hx rfl (hb hby d3_26) rfl ?_
        show Steps p.tables e below (T7.setTop (mkF m 27 #[.val (.int p0), .val (.int p1), .val (.int p2), .val (.int p3), .val (.int p4)] [(.int p0), (.int (0 : Int32)), (.ref b7), (.ref b7), (.ref b6), (.ref b6)])) _
        refine st9 _ ?_
        show Steps p.tables e below (T9.setTop (mkF m 28 #[.val (.int p0), .val (.int p1), .val (.int p2), .val (.int p3), .val (.int p4)] [(.ref b7), (.ref b6), (.ref b6)])) _
        refine XS.dup X9.here hx rfl (hb hby d3_28) rfl rfl ?_
        refine XS.iconst X9.here hx rfl (hb hby d3_29) ?_
        refine XS.iloadN X9.here hx rfl (hb hby d3_30) rfl ?_
        show Steps p.tables e below (T9.setTop (mkF m 31 #[.val (.int p0), .val (.int p1), .val (.int p2), .val (.int p3), .val (.int p4)] [(.int p1), (.int (1 : Int32)), (.ref b7), (.ref b7), (.ref b6), (.ref b6)])) _
        refine st11 _ ?_
        show Steps p.tables e below (T11.setTop (mkF m 32 #[.val (.int p0), .val (.int p1), .val (.int p2), .val (.int p3), .val (.int p4)] [(.ref b7), (.ref b6), (.ref b6)])) _
        refine st12.trans ?_
        show Steps p.tables e below (T12.setTop (mkF m 35 #[.val (.int p0), .val (.int p1), .val (.int p2), .val (.int p3), .val (.int p4)] [(.ref b6)])) _
        jvm_step X12.here [X12.here.top, hx, (hb hby d3_35), X12.method', Bd.returns, Value.isRef, FieldType.isReference]
        first | (intro acts; rw [hr _ acts rfl rfl rfl]) | rw [hr _ _ rfl rfl rfl]
        exact Steps.refl _
      ·
        show Q3 Z p0 p1 p2 p3 p4 G1 h0 n0 _ T12.heap _
        exact by delta Q3; rw [hcs]; exact ⟨_, rfl, N12, K12, g_b6, sz_b6, t12, kb12, xq12, cq12, vq12, aq12⟩
    ·
      have pre16 : ∀ t, Steps p.tables e below (s₁.setTop (mkF m 39 #[.val (.int p0), .val (.int p1), .val (.int p2), .val (.int p3), .val (.int p4)] [(.int (3 : Int32)), (.int p4)])) t → Steps p.tables e below (s₁.setTop (entryFrame m #[(.int p0), (.int p1), (.int p2), (.int p3), (.int p4)] 5)) t := by
        intro t kt
        refine pre4 _ ?_
        show Steps p.tables e below (s₁.setTop (mkF m 14 #[.val (.int p0), .val (.int p1), .val (.int p2), .val (.int p3), .val (.int p4)] [(.int (2 : Int32)), (.int p4)])) _
        refine XS.icmpYes X0.here hx rfl (pc0 := 14) (pc' := 36) rfl (hb hby d3_14) rfl (feq hc14_5).2 (by decide) (by decide) ?_
        refine XS.iload X0.here hx rfl (hb hby d3_36) rfl ?_
        refine XS.iconst X0.here hx rfl (hb hby d3_38) ?_
        show Steps p.tables e below (s₁.setTop (mkF m 39 #[.val (.int p0), .val (.int p1), .val (.int p2), .val (.int p3), .val (.int p4)] [(.int (3 : Int32)), (.int p4)])) _
        exact kt
      by_cases hc39_17 : p4 = (3 : Int32)
      ·
        obtain ⟨T18, h18, X18, e18, E18, A18, D18, -, st18⟩ := newO X0 hx hZ hown (hw _ (List.mem_of_getElem? (i := 18) rfl)) (hw _ (List.mem_of_getElem? (i := 6) rfl)) (hw _ (List.mem_of_getElem? (i := 5) rfl)) e0 (g := (mkF m 42 #[.val (.int p0), .val (.int p1), .val (.int p2), .val (.int p3), .val (.int p4)] [])) rfl (hb hby d3_42) (by decide) (by decide)
        obtain ⟨b18, g18⟩ : ∃ z, z = h0.size := ⟨_, rfl⟩
        rw [← g18] at A18 D18 st18
        have g_b18 : n0 ≤ b18 := Nat.le_trans (Nat.le_trans Z0 K0.1) (Nat.le_of_eq g18.symm)
        have sz_b18 : h0.size ≤ b18 := Nat.le_trans K0.1 (Nat.le_of_eq g18.symm)
        have K18 := K0.ext E18
        have F_value_b18 : Fld Z h18 b18 "java/lang/String" "value" "[B" .null := D18 (Or.inr (hw _ (List.mem_of_getElem? (i := 8) rfl))) (ty := (.array .byte)) (by decide)
        have F_coder_b18 : Fld Z h18 b18 "java/lang/String" "coder" "B" (.int (0 : Int32)) := D18 (Or.inr (hw _ (List.mem_of_getElem? (i := 9) rfl))) (ty := .byte) (by decide)
        obtain ⟨T19, h19, k19, X19, e19, E19, A19, st19⟩ := newP X18 hx hZ (hw _ (List.mem_of_getElem? (i := 19) rfl)) e18 (g := (mkF m 47 #[.val (.int p0), .val (.int p1), .val (.int p2), .val (.int p3), .val (.int p4)] [(.int (3 : Int32)), (.ref b18), (.ref b18)])) rfl (hb hby d3_47) rfl (by decide) (cap := 3) (by decide) (by decide) (by decide) (by decide)
        obtain ⟨b19, g19⟩ : ∃ z, z = h18.size := ⟨_, rfl⟩
        rw [← g19] at A19 st19
        have g_b19 : n0 ≤ b19 := Nat.le_trans (Nat.le_trans Z0 K18.1) (Nat.le_of_eq g19.symm)
        have sz_b19 : h0.size ≤ b19 := Nat.le_trans K18.1 (Nat.le_of_eq g19.symm)
        have ne_b18_b19 : b18 ≠ b19 := Nat.ne_of_lt (Nat.lt_of_lt_of_le A18.lt (Nat.le_of_eq g19.symm))
        have K19 := K18.ext E19
        have V_b19 : Arv Z h19 b19 k19 .char (3 : Int32) [(.int (0 : Int32)), (.int (0 : Int32)), (.int (0 : Int32))] (.int (0 : Int32)) := (Arv.new A19 (by decide)).pad (pad_rep [] (.int (0 : Int32)) 3)
        obtain ⟨clo20, Aro20, qo20, So20, No20, Ho20, Go20⟩ := id V_b19
        have hino20 : ¬ ((0 : Int32) < 0 ∨ clo20.slots.size ≤ ((0 : Int32)).toNatClampNeg) := inb_of So20 ⟨by decide, by decide⟩
        obtain ⟨T21, h21, X21, e21, W21, st21⟩ := stC X19 hx hZ e19 Aro20 (j := (0 : Int32)) hino20 (g := (mkF m 52 #[.val (.int p0), .val (.int p1), .val (.int p2), .val (.int p3), .val (.int p4)] [(.int p0), (.int (0 : Int32)), (.ref b19), (.ref b19), (.ref b18), (.ref b18)])) rfl rfl (hb hby d3_52)
        have V21 : Arv Z h21 b19 k19 .char (3 : Int32) [(.int (nar .char p0)), (.int (0 : Int32)), (.int (0 : Int32))] (.int (0 : Int32)) := Arv.set Aro20 qo20 So20 No20 Ho20 Go20 (fits_nar_char _) W21 0 rfl (Nat.le_of_ble_eq_true rfl)
        have K21 := K19.wr W21 (Or.inr sz_b19)
        have N21 := Fr.snoc X21 N0 g_b19
        obtain ⟨clo22, Aro22, qo22, So22, No22, Ho22, Go22⟩ := id V21
        have hino22 : ¬ ((1 : Int32) < 0 ∨ clo22.slots.size ≤ ((1 : Int32)).toNatClampNeg) := inb_of So22 ⟨by decide, by decide⟩
        obtain ⟨T23, h23, X23, e23, W23, st23⟩ := stC X21 hx hZ e21 Aro22 (j := (1 : Int32)) hino22 (g := (mkF m 56 #[.val (.int p0), .val (.int p1), .val (.int p2), .val (.int p3), .val (.int p4)] [(.int p1), (.int (1 : Int32)), (.ref b19), (.ref b19), (.ref b18), (.ref b18)])) rfl rfl (hb hby d3_56)
        have V23 : Arv Z h23 b19 k19 .char (3 : Int32) [(.int (nar .char p0)), (.int (nar .char p1)), (.int (0 : Int32))] (.int (0 : Int32)) := Arv.set Aro22 qo22 So22 No22 Ho22 Go22 (fits_nar_char _) W23 1 rfl (Nat.le_of_ble_eq_true rfl)
        have K23 := K21.wr W23 (Or.inr sz_b19)
        have N23 := Fr.snoc X23 N21 g_b19
        obtain ⟨clo24, Aro24, qo24, So24, No24, Ho24, Go24⟩ := id V23
        have hino24 : ¬ ((2 : Int32) < 0 ∨ clo24.slots.size ≤ ((2 : Int32)).toNatClampNeg) := inb_of So24 ⟨by decide, by decide⟩
        obtain ⟨T25, h25, X25, e25, W25, st25⟩ := stC X23 hx hZ e23 Aro24 (j := (2 : Int32)) hino24 (g := (mkF m 60 #[.val (.int p0), .val (.int p1), .val (.int p2), .val (.int p3), .val (.int p4)] [(.int p2), (.int (2 : Int32)), (.ref b19), (.ref b19), (.ref b18), (.ref b18)])) rfl rfl (hb hby d3_60)
        have V25 : Arv Z h25 b19 k19 .char (3 : Int32) [(.int (nar .char p0)), (.int (nar .char p1)), (.int (nar .char p2))] (.int (0 : Int32)) := Arv.set Aro24 qo24 So24 No24 Ho24 Go24 (fits_nar_char _) W25 2 rfl (Nat.le_of_ble_eq_true rfl)
        have K25 := K23.wr W25 (Or.inr sz_b19)
        have N25 := Fr.snoc X25 N23 g_b19
        have c27 := ((((A18.ext E19).wr W21).wr W23).wr W25)
        have c28 := ((((F_value_b18.ext E19).other W21 (Or.inl ne_b18_b19)).other W23 (Or.inl ne_b18_b19)).other W25 (Or.inl ne_b18_b19))
        have c29 := ((((F_coder_b18.ext E19).other W21 (Or.inl ne_b18_b19)).other W23 (Or.inl ne_b18_b19)).other W25 (Or.inl ne_b18_b19))
        have OLD26 : Old Z n0 h25 := OLD0.keep K25 all0
        have hp26 : ∀ c ∈ ([p0, p1, p2] : List Int32), ¬ c < 0 ∧ ¬ (255 : Int32) < c := by
          intro c hc
          simp only [List.mem_cons, List.not_mem_nil, or_false] at hc
          rcases hc with rfl | rfl | rfl
          · exact hp0
          · exact hp1
          · exact hp2
        have va26 : Arv Z h25 b19 k19 .char 3 (([p0, p1, p2] : List Int32).map Value.int) (.int (0 : Int32)) := by
          have q := V25
          rw [own_c16 hp0, own_c16 hp1, own_c16 hp2] at q; exact q
        obtain ⟨_, _, ⟨T26, L26, k26, n26⟩, -, X26, ⟨Lc26, hQ26, l26, y26, z26⟩, st26⟩ := X25.specialBack hx (y := (⟨"java/lang/String", "<init>", "([C)V"⟩ : MethodName)) rfl hown (mvT hZ (hw _ (List.mem_of_getElem? (i := 20) rfl))) (mvT hZ (hw _ (List.mem_of_getElem? (i := 21) rfl))) (mvT hZ (hw _ (List.mem_of_getElem? (i := 22) rfl))) (by decide) (StrChars.Road.backV (W := 1) hZ (hws a0 Z hw) (kI := 4) (hw _ (List.mem_of_getElem? (i := 6) rfl)) (cs := ([p0, p1, p2] : List Int32)) (bs := ([p0, p1, p2] : List Int32).map (fun c => c.toInt8.toInt32)) (n := 3) g_b18 (Nat.le_trans Z0 K25.1) c27 c28 c29 va26 (SCS.ext OLD26.2) P5 rfl rfl (by decide) (by decide) hp26 rfl (by decide) (by decide)) (g := (mkF m 61 #[.val (.int p0), .val (.int p1), .val (.int p2), .val (.int p3), .val (.int p4)] [(.ref b19), (.ref b18), (.ref b18)])) rfl (by rw [hml]; rfl) (Steps.refl _) (a := b18) (argsL := [(.ref b19)]) (rest := [(.ref b18)]) (lenOf pd___C_V rfl) rfl (by show 2 * 0 + _ ≤ _; exact Nat.le_of_eq rfl) (hb hby d3_61) (fun _ _ => ⟨rfl, e25, (by decide : 2 + 1 ≤ _), (by decide : 7 + 3 ≤ _)⟩)
        dsimp only [Pt.U, Pt.locs, Pt.cells, Pt.slots] at X26 l26 y26 z26 st26 hQ26
        subst l26 y26 z26
        obtain ⟨rfl, N26q, kq26, xq26, cq26, t26, kb26, ut26, vt26, wt26, vq26, aq26⟩ := hQ26
        have N26 := Fr.app N25 N26q
        have K26 := K25.trans kq26 (allS (Or.inr sz_b18) all0)
        have hcs : own_take p4 p0 p1 p2 p3 = [p0, p1, p2] := by unfold own_take; rw [if_neg hc3_2, if_neg hc14_5, if_pos hc39_17]
        obtain ⟨fs, hr, hrun, hended, hW, hsame⟩ := X26.leave (v := some (.ref b18)) (fun h => by rw [Bd.returns] at h; cases h)
        refine ⟨_, _, pre16 _ ?_, hrun, hended, _, _, rfl, ?_, ⟨_, rfl⟩, hW, hsame.mono (by decide) (by decide)⟩
        ·
          show Steps p.tables e below (s₁.setTop (mkF m 39 #[.val (.int p0), .val (.int p1), .val (.int p2), .val (.int p3), .val (.int p4)] [(.int (3 : Int32)), (.int p4)])) _
          refine XS.icmpNo X0.here hx rfl (hb hby d3_39) rfl (teq hc39_17).2 ?_
          show Steps p.tables e below (s₁.setTop (mkF m 42 #[.val (.int p0), .val (.int p1), .val (.int p2), .val (.int p3), .val (.int p4)] [])) _
          refine st18 _ ?_
          show Steps p.tables e below (T18.setTop (mkF m 45 #[.val (.int p0), .val (.int p1), .val (.int p2), .val (.int p3), .val (.int p4)] [(.ref b18)])) _
          refine XS.dup X18.here hx rfl (hb hby d3_45) rfl rfl ?_
          refine XS.iconst X18.here hx rfl (hb hby d3_46) ?_
          show Steps p.tables e below (T18.setTop (mkF m 47 #[.val (.int p0), .val (.int p1), .val (.int p2), .val (.int p3), .val (.int p4)] [(.int (3 : Int32)), (.ref b18), (.ref b18)])) _
          refine st19 _ ?_
          show Steps p.tables e below (T19.setTop (mkF m 49 #[.val (.int p0), .val (.int p1), .val (.int p2), .val (.int p3), .val (.int p4)] [(.ref b19), (.ref b18), (.ref b18)])) _
          refine XS.dup X19.here hx rfl (hb hby d3_49) rfl rfl ?_
          refine XS.iconst X19.here hx rfl (hb hby d3_50) ?_
          refine XS.iloadN X19.here hx rfl (hb hby d3_51) rfl ?_
          show Steps p.tables e below (T19.setTop (mkF m 52 #[.val (.int p0), .val (.int p1), .val (.int p2), .val (.int p3), .val (.int p4)] [(.int p0), (.int (0 : Int32)), (.ref b19), (.ref b19), (.ref b18), (.ref b18)])) _
          refine st21 _ ?_
          show Steps p.tables e below (T21.setTop (mkF m 53 #[.val (.int p0), .val (.int p1), .val (.int p2), .val (.int p3), .val (.int p4)] [(.ref b19), (.ref b18), (.ref b18)])) _
          refine XS.dup X21.here hx rfl (hb hby d3_53) rfl rfl ?_
          refine XS.iconst X21.here hx rfl (hb hby d3_54) ?_
          refine XS.iloadN X21.here hx rfl (hb hby d3_55) rfl ?_
          show Steps p.tables e below (T21.setTop (mkF m 56 #[.val (.int p0), .val (.int p1), .val (.int p2), .val (.int p3), .val (.int p4)] [(.int p1), (.int (1 : Int32)), (.ref b19), (.ref b19), (.ref b18), (.ref b18)])) _
          refine st23 _ ?_
          show Steps p.tables e below (T23.setTop (mkF m 57 #[.val (.int p0), .val (.int p1), .val (.int p2), .val (.int p3), .val (.int p4)] [(.ref b19), (.ref b18), (.ref b18)])) _
          refine XS.dup X23.here hx rfl (hb hby d3_57) rfl rfl ?_
          refine XS.iconst X23.here hx rfl (hb hby d3_58) ?_
          refine XS.iloadN X23.here hx rfl (hb hby d3_59) rfl ?_
          show Steps p.tables e below (T23.setTop (mkF m 60 #[.val (.int p0), .val (.int p1), .val (.int p2), .val (.int p3), .val (.int p4)] [(.int p2), (.int (2 : Int32)), (.ref b19), (.ref b19), (.ref b18), (.ref b18)])) _
          refine st25 _ ?_
          show Steps p.tables e below (T25.setTop (mkF m 61 #[.val (.int p0), .val (.int p1), .val (.int p2), .val (.int p3), .val (.int p4)] [(.ref b19), (.ref b18), (.ref b18)])) _
          refine st26.trans ?_
          show Steps p.tables e below (T26.setTop (mkF m 64 #[.val (.int p0), .val (.int p1), .val (.int p2), .val (.int p3), .val (.int p4)] [(.ref b18)])) _
          jvm_step X26.here [X26.here.top, hx, (hb hby d3_64), X26.method', Bd.returns, Value.isRef, FieldType.isReference]
          first | (intro acts; rw [hr _ acts rfl rfl rfl]) | rw [hr _ _ rfl rfl rfl]
          exact Steps.refl _
        ·
          show Q3 Z p0 p1 p2 p3 p4 G1 h0 n0 _ T26.heap _
          exact by delta Q3; rw [hcs]; exact ⟨_, rfl, N26, K26, g_b18, sz_b18, t26, kb26, xq26, cq26, vq26, aq26⟩
      ·
        obtain ⟨T30, h30, X30, e30, E30, A30, D30, -, st30⟩ := newO X0 hx hZ hown (hw _ (List.mem_of_getElem? (i := 18) rfl)) (hw _ (List.mem_of_getElem? (i := 6) rfl)) (hw _ (List.mem_of_getElem? (i := 5) rfl)) e0 (g := (mkF m 65 #[.val (.int p0), .val (.int p1), .val (.int p2), .val (.int p3), .val (.int p4)] [])) rfl (hb hby d3_65) (by decide) (by decide)
        obtain ⟨b30, g30⟩ : ∃ z, z = h0.size := ⟨_, rfl⟩
        rw [← g30] at A30 D30 st30
        have g_b30 : n0 ≤ b30 := Nat.le_trans (Nat.le_trans Z0 K0.1) (Nat.le_of_eq g30.symm)
        have sz_b30 : h0.size ≤ b30 := Nat.le_trans K0.1 (Nat.le_of_eq g30.symm)
        have K30 := K0.ext E30
        have F_value_b30 : Fld Z h30 b30 "java/lang/String" "value" "[B" .null := D30 (Or.inr (hw _ (List.mem_of_getElem? (i := 8) rfl))) (ty := (.array .byte)) (by decide)
        have F_coder_b30 : Fld Z h30 b30 "java/lang/String" "coder" "B" (.int (0 : Int32)) := D30 (Or.inr (hw _ (List.mem_of_getElem? (i := 9) rfl))) (ty := .byte) (by decide)
        obtain ⟨T31, h31, k31, X31, e31, E31, A31, st31⟩ := newP X30 hx hZ (hw _ (List.mem_of_getElem? (i := 19) rfl)) e30 (g := (mkF m 70 #[.val (.int p0), .val (.int p1), .val (.int p2), .val (.int p3), .val (.int p4)] [(.int (4 : Int32)), (.ref b30), (.ref b30)])) rfl (hb hby d3_70) rfl (by decide) (cap := 4) (by decide) (by decide) (by decide) (by decide)
        obtain ⟨b31, g31⟩ : ∃ z, z = h30.size := ⟨_, rfl⟩
        rw [← g31] at A31 st31
        have g_b31 : n0 ≤ b31 := Nat.le_trans (Nat.le_trans Z0 K30.1) (Nat.le_of_eq g31.symm)
        have sz_b31 : h0.size ≤ b31 := Nat.le_trans K30.1 (Nat.le_of_eq g31.symm)
        have ne_b30_b31 : b30 ≠ b31 := Nat.ne_of_lt (Nat.lt_of_lt_of_le A30.lt (Nat.le_of_eq g31.symm))
        have K31 := K30.ext E31
        have V_b31 : Arv Z h31 b31 k31 .char (4 : Int32) [(.int (0 : Int32)), (.int (0 : Int32)), (.int (0 : Int32)), (.int (0 : Int32))] (.int (0 : Int32)) := (Arv.new A31 (by decide)).pad (pad_rep [] (.int (0 : Int32)) 4)
        obtain ⟨clo32, Aro32, qo32, So32, No32, Ho32, Go32⟩ := id V_b31
        have hino32 : ¬ ((0 : Int32) < 0 ∨ clo32.slots.size ≤ ((0 : Int32)).toNatClampNeg) := inb_of So32 ⟨by decide, by decide⟩
        obtain ⟨T33, h33, X33, e33, W33, st33⟩ := stC X31 hx hZ e31 Aro32 (j := (0 : Int32)) hino32 (g := (mkF m 75 #[.val (.int p0), .val (.int p1), .val (.int p2), .val (.int p3), .val (.int p4)] [(.int p0), (.int (0 : Int32)), (.ref b31), (.ref b31), (.ref b30), (.ref b30)])) rfl rfl (hb hby d3_75)
        have V33 : Arv Z h33 b31 k31 .char (4 : Int32) [(.int (nar .char p0)), (.int (0 : Int32)), (.int (0 : Int32)), (.int (0 : Int32))] (.int (0 : Int32)) := Arv.set Aro32 qo32 So32 No32 Ho32 Go32 (fits_nar_char _) W33 0 rfl (Nat.le_of_ble_eq_true rfl)
        have K33 := K31.wr W33 (Or.inr sz_b31)
        have N33 := Fr.snoc X33 N0 g_b31
        obtain ⟨clo34, Aro34, qo34, So34, No34, Ho34, Go34⟩ := id V33
        have hino34 : ¬ ((1 : Int32) < 0 ∨ clo34.slots.size ≤ ((1 : Int32)).toNatClampNeg) := inb_of So34 ⟨by decide, by decide⟩
        obtain ⟨T35, h35, X35, e35, W35, st35⟩ := stC X33 hx hZ e33 Aro34 (j := (1 : Int32)) hino34 (g := (mkF m 79 #[.val (.int p0), .val (.int p1), .val (.int p2), .val (.int p3), .val (.int p4)] [(.int p1), (.int (1 : Int32)), (.ref b31), (.ref b31), (.ref b30), (.ref b30)])) rfl rfl (hb hby d3_79)
        have V35 : Arv Z h35 b31 k31 .char (4 : Int32) [(.int (nar .char p0)), (.int (nar .char p1)), (.int (0 : Int32)), (.int (0 : Int32))] (.int (0 : Int32)) := Arv.set Aro34 qo34 So34 No34 Ho34 Go34 (fits_nar_char _) W35 1 rfl (Nat.le_of_ble_eq_true rfl)
        have K35 := K33.wr W35 (Or.inr sz_b31)
        have N35 := Fr.snoc X35 N33 g_b31
        obtain ⟨clo36, Aro36, qo36, So36, No36, Ho36, Go36⟩ := id V35
        have hino36 : ¬ ((2 : Int32) < 0 ∨ clo36.slots.size ≤ ((2 : Int32)).toNatClampNeg) := inb_of So36 ⟨by decide, by decide⟩
        obtain ⟨T37, h37, X37, e37, W37, st37⟩ := stC X35 hx hZ e35 Aro36 (j := (2 : Int32)) hino36 (g := (mkF m 83 #[.val (.int p0), .val (.int p1), .val (.int p2), .val (.int p3), .val (.int p4)] [(.int p2), (.int (2 : Int32)), (.ref b31), (.ref b31), (.ref b30), (.ref b30)])) rfl rfl (hb hby d3_83)
        have V37 : Arv Z h37 b31 k31 .char (4 : Int32) [(.int (nar .char p0)), (.int (nar .char p1)), (.int (nar .char p2)), (.int (0 : Int32))] (.int (0 : Int32)) := Arv.set Aro36 qo36 So36 No36 Ho36 Go36 (fits_nar_char _) W37 2 rfl (Nat.le_of_ble_eq_true rfl)
        have K37 := K35.wr W37 (Or.inr sz_b31)
        have N37 := Fr.snoc X37 N35 g_b31
        obtain ⟨clo38, Aro38, qo38, So38, No38, Ho38, Go38⟩ := id V37
        have hino38 : ¬ ((3 : Int32) < 0 ∨ clo38.slots.size ≤ ((3 : Int32)).toNatClampNeg) := inb_of So38 ⟨by decide, by decide⟩
        obtain ⟨T39, h39, X39, e39, W39, st39⟩ := stC X37 hx hZ e37 Aro38 (j := (3 : Int32)) hino38 (g := (mkF m 87 #[.val (.int p0), .val (.int p1), .val (.int p2), .val (.int p3), .val (.int p4)] [(.int p3), (.int (3 : Int32)), (.ref b31), (.ref b31), (.ref b30), (.ref b30)])) rfl rfl (hb hby d3_87)
        have V39 : Arv Z h39 b31 k31 .char (4 : Int32) [(.int (nar .char p0)), (.int (nar .char p1)), (.int (nar .char p2)), (.int (nar .char p3))] (.int (0 : Int32)) := Arv.set Aro38 qo38 So38 No38 Ho38 Go38 (fits_nar_char _) W39 3 rfl (Nat.le_of_ble_eq_true rfl)
        have K39 := K37.wr W39 (Or.inr sz_b31)
        have N39 := Fr.snoc X39 N37 g_b31
        have c41 := (((((A30.ext E31).wr W33).wr W35).wr W37).wr W39)
        have c42 := (((((F_value_b30.ext E31).other W33 (Or.inl ne_b30_b31)).other W35 (Or.inl ne_b30_b31)).other W37 (Or.inl ne_b30_b31)).other W39 (Or.inl ne_b30_b31))
        have c43 := (((((F_coder_b30.ext E31).other W33 (Or.inl ne_b30_b31)).other W35 (Or.inl ne_b30_b31)).other W37 (Or.inl ne_b30_b31)).other W39 (Or.inl ne_b30_b31))
        have OLD40 : Old Z n0 h39 := OLD0.keep K39 all0
        have hp40 : ∀ c ∈ ([p0, p1, p2, p3] : List Int32), ¬ c < 0 ∧ ¬ (255 : Int32) < c := by
          intro c hc
          simp only [List.mem_cons, List.not_mem_nil, or_false] at hc
          rcases hc with rfl | rfl | rfl | rfl
          · exact hp0
          · exact hp1
          · exact hp2
          · exact hp3
        have va40 : Arv Z h39 b31 k31 .char 4 (([p0, p1, p2, p3] : List Int32).map Value.int) (.int (0 : Int32)) := by
          have q := V39
          rw [own_c16 hp0, own_c16 hp1, own_c16 hp2, own_c16 hp3] at q; exact q
        obtain ⟨_, _, ⟨T40, L40, k40, n40⟩, -, X40, ⟨Lc40, hQ40, l40, y40, z40⟩, st40⟩ := X39.specialBack hx (y := (⟨"java/lang/String", "<init>", "([C)V"⟩ : MethodName)) rfl hown (mvT hZ (hw _ (List.mem_of_getElem? (i := 20) rfl))) (mvT hZ (hw _ (List.mem_of_getElem? (i := 21) rfl))) (mvT hZ (hw _ (List.mem_of_getElem? (i := 22) rfl))) (by decide) (StrChars.Road.backV (W := 1) hZ (hws a0 Z hw) (kI := 4) (hw _ (List.mem_of_getElem? (i := 6) rfl)) (cs := ([p0, p1, p2, p3] : List Int32)) (bs := ([p0, p1, p2, p3] : List Int32).map (fun c => c.toInt8.toInt32)) (n := 4) g_b30 (Nat.le_trans Z0 K39.1) c41 c42 c43 va40 (SCS.ext OLD40.2) P5 rfl rfl (by decide) (by decide) hp40 rfl (by decide) (by decide)) (g := (mkF m 88 #[.val (.int p0), .val (.int p1), .val (.int p2), .val (.int p3), .val (.int p4)] [(.ref b31), (.ref b30), (.ref b30)])) rfl (by rw [hml]; rfl) (Steps.refl _) (a := b30) (argsL := [(.ref b31)]) (rest := [(.ref b30)]) (lenOf pd___C_V rfl) rfl (by show 2 * 0 + _ ≤ _; exact Nat.le_of_eq rfl) (hb hby d3_88) (fun _ _ => ⟨rfl, e39, (by decide : 2 + 1 ≤ _), (by decide : 8 + 4 ≤ _)⟩)
        dsimp only [Pt.U, Pt.locs, Pt.cells, Pt.slots] at X40 l40 y40 z40 st40 hQ40
        subst l40 y40 z40
        obtain ⟨rfl, N40q, kq40, xq40, cq40, t40, kb40, ut40, vt40, wt40, vq40, aq40⟩ := hQ40
        have N40 := Fr.app N39 N40q
        have K40 := K39.trans kq40 (allS (Or.inr sz_b30) all0)
        have hcs : own_take p4 p0 p1 p2 p3 = [p0, p1, p2, p3] := by unfold own_take; rw [if_neg hc3_2, if_neg hc14_5, if_neg hc39_17]
        obtain ⟨fs, hr, hrun, hended, hW, hsame⟩ := X40.leave (v := some (.ref b30)) (fun h => by rw [Bd.returns] at h; cases h)
        refine ⟨_, _, pre16 _ ?_, hrun, hended, _, _, rfl, ?_, ⟨_, rfl⟩, hW, hsame.mono (by decide) (by decide)⟩
        ·
          show Steps p.tables e below (s₁.setTop (mkF m 39 #[.val (.int p0), .val (.int p1), .val (.int p2), .val (.int p3), .val (.int p4)] [(.int (3 : Int32)), (.int p4)])) _
          refine XS.icmpYes X0.here hx rfl (pc0 := 39) (pc' := 65) rfl (hb hby d3_39) rfl (feq hc39_17).2 (by decide) (by decide) ?_
          show Steps p.tables e below (s₁.setTop (mkF m 65 #[.val (.int p0), .val (.int p1), .val (.int p2), .val (.int p3), .val (.int p4)] [])) _
          refine st30 _ ?_
          show Steps p.tables e below (T30.setTop (mkF m 68 #[.val (.int p0), .val (.int p1), .val (.int p2), .val (.int p3), .val (.int p4)] [(.ref b30)])) _
          refine XS.dup X30.here hx rfl (hb hby d3_68) rfl rfl ?_
          refine XS.iconst X30.here hx rfl (hb hby d3_69) ?_
          show Steps p.tables e below (T30.setTop (mkF m 70 #[.val (.int p0), .val (.int p1), .val (.int p2), .val (.int p3), .val (.int p4)] [(.int (4 : Int32)), (.ref b30), (.ref b30)])) _
          refine st31 _ ?_
          show Steps p.tables e below (T31.setTop (mkF m 72 #[.val (.int p0), .val (.int p1), .val (.int p2), .val (.int p3), .val (.int p4)] [(.ref b31), (.ref b30), (.ref b30)])) _
          refine XS.dup X31.here hx rfl (hb hby d3_72) rfl rfl ?_
          refine XS.iconst X31.here hx rfl (hb hby d3_73) ?_
          refine XS.iloadN X31.here hx rfl (hb hby d3_74) rfl ?_
          show Steps p.tables e below (T31.setTop (mkF m 75 #[.val (.int p0), .val (.int p1), .val (.int p2), .val (.int p3), .val (.int p4)] [(.int p0), (.int (0 : Int32)), (.ref b31), (.ref b31), (.ref b30), (.ref b30)])) _
          refine st33 _ ?_
          show Steps p.tables e below (T33.setTop (mkF m 76 #[.val (.int p0), .val (.int p1), .val (.int p2), .val (.int p3), .val (.int p4)] [(.ref b31), (.ref b30), (.ref b30)])) _
          refine XS.dup X33.here hx rfl (hb hby d3_76) rfl rfl ?_
          refine XS.iconst X33.here hx rfl (hb hby d3_77) ?_
          refine XS.iloadN X33.here hx rfl (hb hby d3_78) rfl ?_
          show Steps p.tables e below (T33.setTop (mkF m 79 #[.val (.int p0), .val (.int p1), .val (.int p2), .val (.int p3), .val (.int p4)] [(.int p1), (.int (1 : Int32)), (.ref b31), (.ref b31), (.ref b30), (.ref b30)])) _
          refine st35 _ ?_
          show Steps p.tables e below (T35.setTop (mkF m 80 #[.val (.int p0), .val (.int p1), .val (.int p2), .val (.int p3), .val (.int p4)] [(.ref b31), (.ref b30), (.ref b30)])) _
          refine XS.dup X35.here hx rfl (hb hby d3_80) rfl rfl ?_
          refine XS.iconst X35.here hx rfl (hb hby d3_81) ?_
          refine XS.iloadN X35.here hx rfl (hb hby d3_82) rfl ?_
          show Steps p.tables e below (T35.setTop (mkF m 83 #[.val (.int p0), .val (.int p1), .val (.int p2), .val (.int p3), .val (.int p4)] [(.int p2), (.int (2 : Int32)), (.ref b31), (.ref b31), (.ref b30), (.ref b30)])) _
          refine st37 _ ?_
          show Steps p.tables e below (T37.setTop (mkF m 84 #[.val (.int p0), .val (.int p1), .val (.int p2), .val (.int p3), .val (.int p4)] [(.ref b31), (.ref b30), (.ref b30)])) _
          refine XS.dup X37.here hx rfl (hb hby d3_84) rfl rfl ?_
          refine XS.iconst X37.here hx rfl (hb hby d3_85) ?_
          refine XS.iloadN X37.here hx rfl (hb hby d3_86) rfl ?_
          show Steps p.tables e below (T37.setTop (mkF m 87 #[.val (.int p0), .val (.int p1), .val (.int p2), .val (.int p3), .val (.int p4)] [(.int p3), (.int (3 : Int32)), (.ref b31), (.ref b31), (.ref b30), (.ref b30)])) _
          refine st39 _ ?_
          show Steps p.tables e below (T39.setTop (mkF m 88 #[.val (.int p0), .val (.int p1), .val (.int p2), .val (.int p3), .val (.int p4)] [(.ref b31), (.ref b30), (.ref b30)])) _
          refine st40.trans ?_
          show Steps p.tables e below (T40.setTop (mkF m 91 #[.val (.int p0), .val (.int p1), .val (.int p2), .val (.int p3), .val (.int p4)] [(.ref b30)])) _
          jvm_step X40.here [X40.here.top, hx, (hb hby d3_91), X40.method', Bd.returns, Value.isRef, FieldType.isReference]
          first | (intro acts; rw [hr _ acts rfl rfl rfl]) | rw [hr _ _ rfl rfl rfl]
          exact Steps.refl _
        ·
          show Q3 Z p0 p1 p2 p3 p4 G1 h0 n0 _ T40.heap _
          exact by delta Q3; rw [hcs]; exact ⟨_, rfl, N40, K40, g_b30, sz_b30, t40, kb40, xq40, cq40, vq40, aq40⟩
theorem d10_0 : decode prog_64_method_1_code 0 = .ok (.aload_n 0, 1) := by decide +kernel
theorem d10_1 : decode prog_64_method_1_code 1 = .ok (.invokespecial 1, 3) := by decide +kernel
theorem d10_4 : decode prog_64_method_1_code 4 = .ok (.aload_n 0, 1) := by decide +kernel
theorem d10_5 : decode prog_64_method_1_code 5 = .ok (.aconst_null, 1) := by decide +kernel
theorem d10_6 : decode prog_64_method_1_code 6 = .ok (.putfield 7, 3) := by decide +kernel
theorem d10_9 : decode prog_64_method_1_code 9 = .ok (.aload_n 0, 1) := by decide +kernel
theorem d10_10 : decode prog_64_method_1_code 10 = .ok (.aconst_null, 1) := by decide +kernel
theorem d10_11 : decode prog_64_method_1_code 11 = .ok (.putfield 13, 3) := by decide +kernel
theorem d10_14 : decode prog_64_method_1_code 14 = .ok (.return_, 1) := by decide +kernel
theorem pn_10 : plainName "com/example/reed/reed/engine/Integrality" = true := by first | (simp [plainName, overriddenIn]; done) | decide +kernel
theorem ef_10 (m : MethodId) (a1 : Addr) : entryFrame m #[(.ref a1)] 1 = (mkF m 0 #[.val (.ref a1)] []) := by first | (simp [entryFrame, mkF, argsToLocals, Value.category]; done) | rfl
def Q10 (Z : State) (a1 : Addr) (st : own_S) (h0 : Heap) (n0 : Nat) (v : Option Value) (h : Heap) (L : List Loc) : Prop := v = none ∧ Fr n0 L ∧ Keep h0 h [a1] ∧ own_F Z h a1 st
set_option maxRecDepth 65536 in
set_option maxHeartbeats 40000000 in
theorem rm10 (l : Launch) (Z : State) (a0 : Array Value) (hw : ∀ d ∈ tables_1, d.before a0 Z = true) (ws : List Jvm.Cond) (a1 : Addr) (st : own_S) (h0 : Heap) (n0 : Nat) (Z0 : n0 ≤ h0.size) (FG : own_F Z h0 a1 st) (g_a1 : n0 ≤ a1) :
    MetFree l (⟨"com/example/reed/reed/engine/Integrality", "<init>", "()V"⟩ : MethodName) (head1 (Jvm.Cond.code (⟨"com/example/reed/reed/engine/Integrality", "<init>", "()V"⟩ : MethodName) prog_64_method_1_code 1 none :: ws) ({ frames := 1, cells := 0, slots := 0, locals := 12 } : Room)) (fun a U => a = #[(.ref a1)] ∧ Z.Warmed39 U.vm ∧ U.heap = h0) (fun _ _ _ _ _ => True) (fun _ U o U' => ∃ v L, o = .returned v ∧ Q10 Z a1 st h0 n0 v U'.heap L ∧ FrameEnd U o U' L ({ frames := 1, cells := 0, slots := 0, locals := 12 } : Room).cells ({ frames := 1, cells := 0, slots := 0, locals := 12 } : Room).slots) := by
  refine MetFree.of_bodySF (plainFor_of_name pn_10) hisR ?_
  intro p e s m args below meth c s₁ Bd hml0 hP hK
  obtain ⟨rfl, hZ, hh⟩ := hP
  have hx := Bd.exec
  have hby := Bd.bytes
  have hml : c.maxLocals = 1 := hml0
  have hown : s.vm.findClass "com/example/reed/reed/engine/Integrality" = some m.cls := findClass_of_methodNamed Bd.named
  have hnm := (name_of_methodNamed Bd.named Bd.method).1
  have X0 : Stand p l e ({ frames := 1, cells := 0, slots := 0, locals := 12 } : Room) s m #[(.ref a1)] below meth c s₁ [] 0 0 := Stand.of_body Bd
  have e0 : s₁.heap = h0 := by rw [← hh, Bd.state]; rfl
  have N0 := Fr.nil n0
  have K0 := Keep.refl h0 ([a1] : List Addr)
  have pre0 : ∀ t, Steps p.tables e below (s₁.setTop (mkF m 0 #[.val (.ref a1)] [])) t → Steps p.tables e below (s₁.setTop (entryFrame m #[(.ref a1)] 1)) t := fun t k => castTop (ef_10 m a1) k
  obtain ⟨E_a1, F_significand, F_exponentDigits, F_inFraction, F_inExponent, F_negative, F_negativeExponent, F_nonZero, F_trailingZeros, F_fractionDigits, F_exponent⟩ := id FG
  obtain ⟨T1, X1, e1, st1⟩ := initO X0 hx hZ hown (hw _ (List.mem_of_getElem? (i := 49) rfl)) (hw _ (List.mem_of_getElem? (i := 28) rfl)) (hw _ (List.mem_of_getElem? (i := 29) rfl)) e0 (g := (mkF m 1 #[.val (.ref a1)] [(.ref a1)])) rfl (by rw [hml]; rfl) rfl (hb hby d10_1) (by decide) (W := 0) (by show 2 * 0 + _ ≤ _; exact Nat.le_of_eq rfl) (by decide)
  obtain ⟨T2, h2, X2, e2, W2, st2⟩ := putF X1 hx hZ hown (host := "") (Or.inl (hw _ (List.mem_of_getElem? (i := 50) rfl))) Via.refl e1 F_significand E_a1 (Or.inr ⟨(hw _ (List.mem_of_getElem? (i := 51) rfl)), rfl, hnm⟩) (hw _ (List.mem_of_getElem? (i := 44) rfl)) (ty := (.object "com/example/reed/reed/engine/Digits")) (by decide) rfl rfl (g := (mkF m 6 #[.val (.ref a1)] [.null, (.ref a1)])) rfl rfl (hb hby d10_6)
  have Fw2 := F_significand.same W2
  have K2 := K0.wr W2 (Or.inl (List.mem_of_getElem? (i := 0) rfl))
  have N2 := Fr.snoc X2 N0 g_a1
  have c3 := (E_a1.wr W2)
  have c4 := (F_exponentDigits.other W2 (Or.inr (slot_ne (Or.inr (hw _ (List.mem_of_getElem? (i := 53) rfl))) (Or.inr (hw _ (List.mem_of_getElem? (i := 51) rfl))) (by decide) (t := (.object "com/example/reed/reed/engine/Digits")) (t' := (.object "com/example/reed/reed/engine/Digits")) (by decide) (by decide))))
  obtain ⟨T5, h5, X5, e5, W5, st5⟩ := putF X2 hx hZ hown (host := "") (Or.inl (hw _ (List.mem_of_getElem? (i := 52) rfl))) Via.refl e2 c4 c3 (Or.inr ⟨(hw _ (List.mem_of_getElem? (i := 53) rfl)), rfl, hnm⟩) (hw _ (List.mem_of_getElem? (i := 44) rfl)) (ty := (.object "com/example/reed/reed/engine/Digits")) (by decide) rfl rfl (g := (mkF m 11 #[.val (.ref a1)] [.null, (.ref a1)])) rfl rfl (hb hby d10_11)
  have Fw5 := c4.same W5
  have K5 := K2.wr W5 (Or.inl (List.mem_of_getElem? (i := 0) rfl))
  have N5 := Fr.snoc X5 N2 g_a1
  have c6 := (c3.wr W5)
  have c7 := (Fw2.other W5 (Or.inr (slot_ne (Or.inr (hw _ (List.mem_of_getElem? (i := 51) rfl))) (Or.inr (hw _ (List.mem_of_getElem? (i := 53) rfl))) (by decide) (t := (.object "com/example/reed/reed/engine/Digits")) (t' := (.object "com/example/reed/reed/engine/Digits")) (by decide) (by decide))))
  have c8 := ((F_inFraction.other W2 (Or.inr (slot_ne (Or.inl (hw _ (List.mem_of_getElem? (i := 105) rfl))) (Or.inr (hw _ (List.mem_of_getElem? (i := 51) rfl))) (by decide) (t := .boolean) (t' := (.object "com/example/reed/reed/engine/Digits")) (by decide) (by decide)))).other W5 (Or.inr (slot_ne (Or.inl (hw _ (List.mem_of_getElem? (i := 105) rfl))) (Or.inr (hw _ (List.mem_of_getElem? (i := 53) rfl))) (by decide) (t := .boolean) (t' := (.object "com/example/reed/reed/engine/Digits")) (by decide) (by decide))))
  have c9 := ((F_inExponent.other W2 (Or.inr (slot_ne (Or.inl (hw _ (List.mem_of_getElem? (i := 99) rfl))) (Or.inr (hw _ (List.mem_of_getElem? (i := 51) rfl))) (by decide) (t := .boolean) (t' := (.object "com/example/reed/reed/engine/Digits")) (by decide) (by decide)))).other W5 (Or.inr (slot_ne (Or.inl (hw _ (List.mem_of_getElem? (i := 99) rfl))) (Or.inr (hw _ (List.mem_of_getElem? (i := 53) rfl))) (by decide) (t := .boolean) (t' := (.object "com/example/reed/reed/engine/Digits")) (by decide) (by decide))))
  have c10 := ((F_negative.other W2 (Or.inr (slot_ne (Or.inl (hw _ (List.mem_of_getElem? (i := 137) rfl))) (Or.inr (hw _ (List.mem_of_getElem? (i := 51) rfl))) (by decide) (t := .boolean) (t' := (.object "com/example/reed/reed/engine/Digits")) (by decide) (by decide)))).other W5 (Or.inr (slot_ne (Or.inl (hw _ (List.mem_of_getElem? (i := 137) rfl))) (Or.inr (hw _ (List.mem_of_getElem? (i := 53) rfl))) (by decide) (t := .boolean) (t' := (.object "com/example/reed/reed/engine/Digits")) (by decide) (by decide))))
  have c11 := ((F_negativeExponent.other W2 (Or.inr (slot_ne (Or.inl (hw _ (List.mem_of_getElem? (i := 112) rfl))) (Or.inr (hw _ (List.mem_of_getElem? (i := 51) rfl))) (by decide) (t := .boolean) (t' := (.object "com/example/reed/reed/engine/Digits")) (by decide) (by decide)))).other W5 (Or.inr (slot_ne (Or.inl (hw _ (List.mem_of_getElem? (i := 112) rfl))) (Or.inr (hw _ (List.mem_of_getElem? (i := 53) rfl))) (by decide) (t := .boolean) (t' := (.object "com/example/reed/reed/engine/Digits")) (by decide) (by decide))))
  have c12 := ((F_nonZero.other W2 (Or.inr (slot_ne (Or.inl (hw _ (List.mem_of_getElem? (i := 101) rfl))) (Or.inr (hw _ (List.mem_of_getElem? (i := 51) rfl))) (by decide) (t := .boolean) (t' := (.object "com/example/reed/reed/engine/Digits")) (by decide) (by decide)))).other W5 (Or.inr (slot_ne (Or.inl (hw _ (List.mem_of_getElem? (i := 101) rfl))) (Or.inr (hw _ (List.mem_of_getElem? (i := 53) rfl))) (by decide) (t := .boolean) (t' := (.object "com/example/reed/reed/engine/Digits")) (by decide) (by decide))))
  have c13 := ((F_trailingZeros.other W2 (Or.inr (slot_ne (Or.inl (hw _ (List.mem_of_getElem? (i := 103) rfl))) (Or.inr (hw _ (List.mem_of_getElem? (i := 51) rfl))) (by decide) (t := .long) (t' := (.object "com/example/reed/reed/engine/Digits")) (by decide) (by decide)))).other W5 (Or.inr (slot_ne (Or.inl (hw _ (List.mem_of_getElem? (i := 103) rfl))) (Or.inr (hw _ (List.mem_of_getElem? (i := 53) rfl))) (by decide) (t := .long) (t' := (.object "com/example/reed/reed/engine/Digits")) (by decide) (by decide))))
  have c14 := ((F_fractionDigits.other W2 (Or.inr (slot_ne (Or.inl (hw _ (List.mem_of_getElem? (i := 116) rfl))) (Or.inr (hw _ (List.mem_of_getElem? (i := 51) rfl))) (by decide) (t := .long) (t' := (.object "com/example/reed/reed/engine/Digits")) (by decide) (by decide)))).other W5 (Or.inr (slot_ne (Or.inl (hw _ (List.mem_of_getElem? (i := 116) rfl))) (Or.inr (hw _ (List.mem_of_getElem? (i := 53) rfl))) (by decide) (t := .long) (t' := (.object "com/example/reed/reed/engine/Digits")) (by decide) (by decide))))
  have c15 := ((F_exponent.other W2 (Or.inr (slot_ne (Or.inl (hw _ (List.mem_of_getElem? (i := 114) rfl))) (Or.inr (hw _ (List.mem_of_getElem? (i := 51) rfl))) (by decide) (t := .long) (t' := (.object "com/example/reed/reed/engine/Digits")) (by decide) (by decide)))).other W5 (Or.inr (slot_ne (Or.inl (hw _ (List.mem_of_getElem? (i := 114) rfl))) (Or.inr (hw _ (List.mem_of_getElem? (i := 53) rfl))) (by decide) (t := .long) (t' := (.object "com/example/reed/reed/engine/Digits")) (by decide) (by decide))))
  obtain ⟨fs, hr, hrun, hended, hW, hsame⟩ := X5.leave (v := none) (fun _ => rfl)
  refine ⟨_, _, pre0 _ ?_, hrun, hended, _, _, rfl, ?_, ⟨_, rfl⟩, hW, hsame.mono (by decide) (by decide)⟩
  ·
    show Steps p.tables e below (s₁.setTop (mkF m 0 #[.val (.ref a1)] [])) _
    refine XS.aloadN X0.here hx rfl (hb hby d10_0) rfl rfl ?_
    show Steps p.tables e below (s₁.setTop (mkF m 1 #[.val (.ref a1)] [(.ref a1)])) _
    refine st1 _ ?_
    show Steps p.tables e below (T1.setTop (mkF m 4 #[.val (.ref a1)] [])) _
    refine XS.aloadN X1.here hx rfl (hb hby d10_4) rfl rfl ?_
    refine XS.aconstNull X1.here hx rfl (hb hby d10_5) ?_
    show Steps p.tables e below (T1.setTop (mkF m 6 #[.val (.ref a1)] [.null, (.ref a1)])) _
    refine st2 _ ?_
    show Steps p.tables e below (T2.setTop (mkF m 9 #[.val (.ref a1)] [])) _
    refine XS.aloadN X2.here hx rfl (hb hby d10_9) rfl rfl ?_
    refine XS.aconstNull X2.here hx rfl (hb hby d10_10) ?_
    show Steps p.tables e below (T2.setTop (mkF m 11 #[.val (.ref a1)] [.null, (.ref a1)])) _
    refine st5 _ ?_
    show Steps p.tables e below (T5.setTop (mkF m 14 #[.val (.ref a1)] [])) _
    exact X5.returnOut hx Bd.returns (hb hby d10_14) hr
  ·
    show Q10 Z a1 st h0 n0 _ T5.heap _
    rw [e5]
    exact ⟨rfl, N5, K5, ⟨c6, c7, Fw5, c8, c9, c10, c11, c12, c13, c14, c15⟩⟩
theorem d19_0 : decode prog_64_method_5_code 0 = .ok (.aload_n 0, 1) := by decide +kernel
theorem d19_1 : decode prog_64_method_5_code 1 = .ok (.getfield 31, 3) := by decide +kernel
theorem d19_4 : decode prog_64_method_5_code 4 = .ok (.ifCond .eq 11, 3) := by decide +kernel
theorem d19_7 : decode prog_64_method_5_code 7 = .ok (.aload_n 0, 1) := by decide +kernel
theorem d19_8 : decode prog_64_method_5_code 8 = .ok (.getfield 44, 3) := by decide +kernel
theorem d19_11 : decode prog_64_method_5_code 11 = .ok (.lneg, 1) := by decide +kernel
theorem d19_12 : decode prog_64_method_5_code 12 = .ok (.goto 7, 3) := by decide +kernel
theorem d19_15 : decode prog_64_method_5_code 15 = .ok (.aload_n 0, 1) := by decide +kernel
theorem d19_16 : decode prog_64_method_5_code 16 = .ok (.getfield 44, 3) := by decide +kernel
theorem d19_19 : decode prog_64_method_5_code 19 = .ok (.aload_n 0, 1) := by decide +kernel
theorem d19_20 : decode prog_64_method_5_code 20 = .ok (.getfield 41, 3) := by decide +kernel
theorem d19_23 : decode prog_64_method_5_code 23 = .ok (.lsub, 1) := by decide +kernel
theorem d19_24 : decode prog_64_method_5_code 24 = .ok (.aload_n 0, 1) := by decide +kernel
theorem d19_25 : decode prog_64_method_5_code 25 = .ok (.getfield 37, 3) := by decide +kernel
theorem d19_28 : decode prog_64_method_5_code 28 = .ok (.ladd, 1) := by decide +kernel
theorem d19_29 : decode prog_64_method_5_code 29 = .ok (.lstore_n 1, 1) := by decide +kernel
theorem d19_30 : decode prog_64_method_5_code 30 = .ok (.aload_n 0, 1) := by decide +kernel
theorem d19_31 : decode prog_64_method_5_code 31 = .ok (.getfield 34, 3) := by decide +kernel
theorem d19_34 : decode prog_64_method_5_code 34 = .ok (.ifCond .eq 9, 3) := by decide +kernel
theorem d19_37 : decode prog_64_method_5_code 37 = .ok (.lload_n 1, 1) := by decide +kernel
theorem d19_38 : decode prog_64_method_5_code 38 = .ok (.lconst 0, 1) := by decide +kernel
theorem d19_39 : decode prog_64_method_5_code 39 = .ok (.lcmp, 1) := by decide +kernel
theorem d19_40 : decode prog_64_method_5_code 40 = .ok (.ifCond .lt 7, 3) := by decide +kernel
theorem d19_43 : decode prog_64_method_5_code 43 = .ok (.iconst 1, 1) := by decide +kernel
theorem d19_44 : decode prog_64_method_5_code 44 = .ok (.goto 4, 3) := by decide +kernel
theorem d19_47 : decode prog_64_method_5_code 47 = .ok (.iconst 0, 1) := by decide +kernel
theorem d19_48 : decode prog_64_method_5_code 48 = .ok (.ireturn, 1) := by decide +kernel
theorem pn_19 : plainName "com/example/reed/reed/engine/Integrality" = true := by first | (simp [plainName, overriddenIn]; done) | decide +kernel
theorem ef_19 (m : MethodId) (a1 : Addr) : entryFrame m #[(.ref a1)] 3 = (mkF m 0 #[.val (.ref a1), .unset, .unset] []) := by first | (simp [entryFrame, mkF, argsToLocals, Value.category]; done) | rfl
def Q19 (Z : State) (a1 : Addr) (st : own_S) (h0 : Heap) (n0 : Nat) (v : Option Value) (h : Heap) (L : List Loc) : Prop := v = some (.int (own_is st)) ∧ Fr n0 L ∧ h = h0
set_option maxRecDepth 65536 in
set_option maxHeartbeats 40000000 in
theorem rm19 (l : Launch) (Z : State) (a0 : Array Value) (hw : ∀ d ∈ tables_1, d.before a0 Z = true) (ws : List Jvm.Cond) (a1 : Addr) (st : own_S) (h0 : Heap) (n0 : Nat) (Z0 : n0 ≤ h0.size) (FG : own_F Z h0 a1 st) :
    MetFree l (⟨"com/example/reed/reed/engine/Integrality", "isInteger", "()Z"⟩ : MethodName) (head1 (Jvm.Cond.code (⟨"com/example/reed/reed/engine/Integrality", "isInteger", "()Z"⟩ : MethodName) prog_64_method_5_code 3 (some .boolean) :: ws) ({ frames := 0, cells := 0, slots := 0, locals := 0 } : Room)) (fun a U => a = #[(.ref a1)] ∧ Z.Warmed39 U.vm ∧ U.heap = h0) (fun _ _ _ _ _ => True) (fun _ U o U' => ∃ v L, o = .returned v ∧ Q19 Z a1 st h0 n0 v U'.heap L ∧ FrameEnd U o U' L ({ frames := 0, cells := 0, slots := 0, locals := 0 } : Room).cells ({ frames := 0, cells := 0, slots := 0, locals := 0 } : Room).slots) := by
  refine MetFree.of_bodySF (plainFor_of_name pn_19) hisR ?_
  intro p e s m args below meth c s₁ Bd hml0 hP hK
  obtain ⟨rfl, hZ, hh⟩ := hP
  have hx := Bd.exec
  have hby := Bd.bytes
  have hml : c.maxLocals = 3 := hml0
  have hown : s.vm.findClass "com/example/reed/reed/engine/Integrality" = some m.cls := findClass_of_methodNamed Bd.named
  have hnm := (name_of_methodNamed Bd.named Bd.method).1
  have X0 : Stand p l e ({ frames := 0, cells := 0, slots := 0, locals := 0 } : Room) s m #[(.ref a1)] below meth c s₁ [] 0 0 := Stand.of_body Bd
  have e0 : s₁.heap = h0 := by rw [← hh, Bd.state]; rfl
  have N0 := Fr.nil n0
  have K0 := Keep.refl h0 ([] : List Addr)
  have pre0 : ∀ t, Steps p.tables e below (s₁.setTop (mkF m 0 #[.val (.ref a1), .unset, .unset] [])) t → Steps p.tables e below (s₁.setTop (entryFrame m #[(.ref a1)] 3)) t := fun t k => castTop (ef_19 m a1) k
  obtain ⟨E_a1, F_significand, F_exponentDigits, F_inFraction, F_inExponent, F_negative, F_negativeExponent, F_nonZero, F_trailingZeros, F_fractionDigits, F_exponent⟩ := id FG
  obtain ⟨T1, X1, e1, st1⟩ := getF X0 hx hZ hown (host := "") (Or.inl (hw _ (List.mem_of_getElem? (i := 111) rfl))) Via.refl e0 F_negativeExponent (g := (mkF m 1 #[.val (.ref a1), .unset, .unset] [(.ref a1)])) rfl rfl (hb hby d19_1)
  have pre2 : ∀ t, Steps p.tables e below (T1.setTop (mkF m 4 #[.val (.ref a1), .unset, .unset] [(.int st.ne)])) t → Steps p.tables e below (s₁.setTop (entryFrame m #[(.ref a1)] 3)) t := by
    intro t kt
    refine pre0 _ ?_
    show Steps p.tables e below (s₁.setTop (mkF m 0 #[.val (.ref a1), .unset, .unset] [])) _
    refine XS.aloadN X0.here hx rfl (hb hby d19_0) rfl rfl ?_
    show Steps p.tables e below (s₁.setTop (mkF m 1 #[.val (.ref a1), .unset, .unset] [(.ref a1)])) _
    refine st1 _ ?_
    show Steps p.tables e below (T1.setTop (mkF m 4 #[.val (.ref a1), .unset, .unset] [(.int st.ne)])) _
    exact kt
  by_cases hc4_3 : st.ne = (0 : Int32)
  ·
    obtain ⟨T4, X4, e4, st4⟩ := getF X1 hx hZ hown (host := "") (Or.inl (hw _ (List.mem_of_getElem? (i := 113) rfl))) Via.refl e1 F_exponent (g := (mkF m 16 #[.val (.ref a1), .unset, .unset] [(.ref a1)])) rfl rfl (hb hby d19_16)
    obtain ⟨T5, X5, e5, st5⟩ := getF X4 hx hZ hown (host := "") (Or.inl (hw _ (List.mem_of_getElem? (i := 115) rfl))) Via.refl e4 F_fractionDigits (g := (mkF m 20 #[.val (.ref a1), .unset, .unset] [(.ref a1), (.long st.xp)])) rfl rfl (hb hby d19_20)
    obtain ⟨T6, X6, e6, st6⟩ := getF X5 hx hZ hown (host := "") (Or.inl (hw _ (List.mem_of_getElem? (i := 102) rfl))) Via.refl e5 F_trailingZeros (g := (mkF m 25 #[.val (.ref a1), .unset, .unset] [(.ref a1), (.long (st.xp - st.fd))])) rfl rfl (hb hby d19_25)
    obtain ⟨T7, X7, e7, st7⟩ := getF X6 hx hZ hown (host := "") (Or.inl (hw _ (List.mem_of_getElem? (i := 100) rfl))) Via.refl e6 F_nonZero (g := (mkF m 31 #[.val (.ref a1), .val (.long ((st.xp - st.fd) + st.tz)), .second] [(.ref a1)])) rfl rfl (hb hby d19_31)
    have pre8 : ∀ t, Steps p.tables e below (T7.setTop (mkF m 34 #[.val (.ref a1), .val (.long ((st.xp - st.fd) + st.tz)), .second] [(.int st.nz)])) t → Steps p.tables e below (s₁.setTop (entryFrame m #[(.ref a1)] 3)) t := by
      intro t kt
      refine pre2 _ ?_
      show Steps p.tables e below (T1.setTop (mkF m 4 #[.val (.ref a1), .unset, .unset] [(.int st.ne)])) _
      refine XS.ifYes X1.here hx rfl (pc0 := 4) (pc' := 15) rfl (hb hby d19_4) rfl ((if0 _ _).trans (teq hc4_3).1) (by decide) (by decide) ?_
      refine XS.aloadN X1.here hx rfl (hb hby d19_15) rfl rfl ?_
      show Steps p.tables e below (T1.setTop (mkF m 16 #[.val (.ref a1), .unset, .unset] [(.ref a1)])) _
      refine st4 _ ?_
      show Steps p.tables e below (T4.setTop (mkF m 19 #[.val (.ref a1), .unset, .unset] [(.long st.xp)])) _
      refine XS.aloadN X4.here hx rfl (hb hby d19_19) rfl rfl ?_
      show Steps p.tables e below (T4.setTop (mkF m 20 #[.val (.ref a1), .unset, .unset] [(.ref a1), (.long st.xp)])) _
      refine st5 _ ?_
      show Steps p.tables e below (T5.setTop (mkF m 23 #[.val (.ref a1), .unset, .unset] [(.long st.fd), (.long st.xp)])) _
      refine XS.lsub X5.here hx rfl (hb hby d19_23) rfl ?_
      refine XS.aloadN X5.here hx rfl (hb hby d19_24) rfl rfl ?_
      show Steps p.tables e below (T5.setTop (mkF m 25 #[.val (.ref a1), .unset, .unset] [(.ref a1), (.long (st.xp - st.fd))])) _
      refine st6 _ ?_
      show Steps p.tables e below (T6.setTop (mkF m 28 #[.val (.ref a1), .unset, .unset] [(.long st.tz), (.long (st.xp - st.fd))])) _
      refine XS.ladd X6.here hx rfl (hb hby d19_28) rfl ?_
      refine XS.lstoreN X6.here hx rfl (hb hby d19_29) rfl (l' := #[.val (.ref a1), .val (.long ((st.xp - st.fd) + st.tz)), .second]) rfl ?_
      refine XS.aloadN X6.here hx rfl (hb hby d19_30) rfl rfl ?_
      show Steps p.tables e below (T6.setTop (mkF m 31 #[.val (.ref a1), .val (.long ((st.xp - st.fd) + st.tz)), .second] [(.ref a1)])) _
      refine st7 _ ?_
      show Steps p.tables e below (T7.setTop (mkF m 34 #[.val (.ref a1), .val (.long ((st.xp - st.fd) + st.tz)), .second] [(.int st.nz)])) _
      exact kt
    by_cases hc34_9 : st.nz = (0 : Int32)
    ·
      have hv : own_is st = (1 : Int32) := by unfold own_is own_sc; rw [if_pos hc4_3, if_pos hc34_9]
      obtain ⟨fs, hr, hrun, hended, hW, hsame⟩ := X7.leave (v := some (.int (own_is st))) (fun h => by rw [Bd.returns] at h; cases h)
      refine ⟨_, _, pre8 _ ?_, hrun, hended, _, _, rfl, ?_, ⟨_, rfl⟩, hW, hsame.mono (by decide) (by decide)⟩
      ·
        show Steps p.tables e below (T7.setTop (mkF m 34 #[.val (.ref a1), .val (.long ((st.xp - st.fd) + st.tz)), .second] [(.int st.nz)])) _
        refine XS.ifYes X7.here hx rfl (pc0 := 34) (pc' := 43) rfl (hb hby d19_34) rfl ((if0 _ _).trans (teq hc34_9).1) (by decide) (by decide) ?_
        refine XS.iconst X7.here hx rfl (hb hby d19_43) ?_
        refine XS.goto X7.here hx rfl (pc0 := 44) (pc' := 48) rfl (hb hby d19_44) (by decide) (by decide) ?_
        show Steps p.tables e below (T7.setTop (mkF m 48 #[.val (.ref a1), .val (.long ((st.xp - st.fd) + st.tz)), .second] [(.int (1 : Int32))])) _
        rw [hv] at hr
        exact retN X7 hx (t := .boolean) Bd.returns (by simp) (hb hby d19_48) hr
      ·
        show Q19 Z a1 st h0 n0 _ T7.heap _
        rw [e7]
        exact ⟨rfl, N0, rfl⟩
    ·
      have pre10 : ∀ t, Steps p.tables e below (T7.setTop (mkF m 40 #[.val (.ref a1), .val (.long ((st.xp - st.fd) + st.tz)), .second] [(.int (lcmpW ((st.xp - st.fd) + st.tz) (0 : Int64)))])) t → Steps p.tables e below (s₁.setTop (entryFrame m #[(.ref a1)] 3)) t := by
        intro t kt
        refine pre8 _ ?_
        show Steps p.tables e below (T7.setTop (mkF m 34 #[.val (.ref a1), .val (.long ((st.xp - st.fd) + st.tz)), .second] [(.int st.nz)])) _
        refine XS.ifNo X7.here hx rfl (hb hby d19_34) rfl ((if0 _ _).trans (feq hc34_9).1) ?_
        refine XS.lloadN X7.here hx rfl (hb hby d19_37) rfl ?_
        refine XS.lconst X7.here hx rfl (hb hby d19_38) ?_
        show Steps p.tables e below (T7.setTop (mkF m 39 #[.val (.ref a1), .val (.long ((st.xp - st.fd) + st.tz)), .second] [(.long (0 : Int64)), (.long ((st.xp - st.fd) + st.tz))])) _
        refine XS.lcmp X7.here hx rfl (hb hby d19_39) rfl ?_
        show Steps p.tables e below (T7.setTop (mkF m 40 #[.val (.ref a1), .val (.long ((st.xp - st.fd) + st.tz)), .second] [(.int (lcmpW ((st.xp - st.fd) + st.tz) (0 : Int64)))])) _
        exact kt
      by_cases hc40_11 : ((st.xp - st.fd) + st.tz) < (0 : Int64)
      ·
        have hv : own_is st = (0 : Int32) := by unfold own_is own_sc; rw [if_pos hc4_3, if_neg hc34_9, if_pos hc40_11]
        obtain ⟨fs, hr, hrun, hended, hW, hsame⟩ := X7.leave (v := some (.int (own_is st))) (fun h => by rw [Bd.returns] at h; cases h)
        refine ⟨_, _, pre10 _ ?_, hrun, hended, _, _, rfl, ?_, ⟨_, rfl⟩, hW, hsame.mono (by decide) (by decide)⟩
        ·
          show Steps p.tables e below (T7.setTop (mkF m 40 #[.val (.ref a1), .val (.long ((st.xp - st.fd) + st.tz)), .second] [(.int (lcmpW ((st.xp - st.fd) + st.tz) (0 : Int64)))])) _
          refine XS.ifYes X7.here hx rfl (pc0 := 40) (pc' := 47) rfl (hb hby d19_40) rfl ((if0 _ _).trans (tlt ((lw_lt _ _).mpr hc40_11)).1) (by decide) (by decide) ?_
          refine XS.iconst X7.here hx rfl (hb hby d19_47) ?_
          show Steps p.tables e below (T7.setTop (mkF m 48 #[.val (.ref a1), .val (.long ((st.xp - st.fd) + st.tz)), .second] [(.int (0 : Int32))])) _
          rw [hv] at hr
          exact retN X7 hx (t := .boolean) Bd.returns (by simp) (hb hby d19_48) hr
        ·
          show Q19 Z a1 st h0 n0 _ T7.heap _
          rw [e7]
          exact ⟨rfl, N0, rfl⟩
      ·
        have hv : own_is st = (1 : Int32) := by unfold own_is own_sc; rw [if_pos hc4_3, if_neg hc34_9, if_neg hc40_11]
        obtain ⟨fs, hr, hrun, hended, hW, hsame⟩ := X7.leave (v := some (.int (own_is st))) (fun h => by rw [Bd.returns] at h; cases h)
        refine ⟨_, _, pre10 _ ?_, hrun, hended, _, _, rfl, ?_, ⟨_, rfl⟩, hW, hsame.mono (by decide) (by decide)⟩
        ·
          show Steps p.tables e below (T7.setTop (mkF m 40 #[.val (.ref a1), .val (.long ((st.xp - st.fd) + st.tz)), .second] [(.int (lcmpW ((st.xp - st.fd) + st.tz) (0 : Int64)))])) _
          refine XS.ifNo X7.here hx rfl (hb hby d19_40) rfl ((if0 _ _).trans (flt (fun q => hc40_11 ((lw_lt _ _).mp q))).1) ?_
          refine XS.iconst X7.here hx rfl (hb hby d19_43) ?_
          refine XS.goto X7.here hx rfl (pc0 := 44) (pc' := 48) rfl (hb hby d19_44) (by decide) (by decide) ?_
          show Steps p.tables e below (T7.setTop (mkF m 48 #[.val (.ref a1), .val (.long ((st.xp - st.fd) + st.tz)), .second] [(.int (1 : Int32))])) _
          rw [hv] at hr
          exact retN X7 hx (t := .boolean) Bd.returns (by simp) (hb hby d19_48) hr
        ·
          show Q19 Z a1 st h0 n0 _ T7.heap _
          rw [e7]
          exact ⟨rfl, N0, rfl⟩
  ·
    obtain ⟨T12, X12, e12, st12⟩ := getF X1 hx hZ hown (host := "") (Or.inl (hw _ (List.mem_of_getElem? (i := 113) rfl))) Via.refl e1 F_exponent (g := (mkF m 8 #[.val (.ref a1), .unset, .unset] [(.ref a1)])) rfl rfl (hb hby d19_8)
    obtain ⟨T13, X13, e13, st13⟩ := getF X12 hx hZ hown (host := "") (Or.inl (hw _ (List.mem_of_getElem? (i := 115) rfl))) Via.refl e12 F_fractionDigits (g := (mkF m 20 #[.val (.ref a1), .unset, .unset] [(.ref a1), (.long (-st.xp))])) rfl rfl (hb hby d19_20)
    obtain ⟨T14, X14, e14, st14⟩ := getF X13 hx hZ hown (host := "") (Or.inl (hw _ (List.mem_of_getElem? (i := 102) rfl))) Via.refl e13 F_trailingZeros (g := (mkF m 25 #[.val (.ref a1), .unset, .unset] [(.ref a1), (.long ((-st.xp) - st.fd))])) rfl rfl (hb hby d19_25)
    obtain ⟨T15, X15, e15, st15⟩ := getF X14 hx hZ hown (host := "") (Or.inl (hw _ (List.mem_of_getElem? (i := 100) rfl))) Via.refl e14 F_nonZero (g := (mkF m 31 #[.val (.ref a1), .val (.long (((-st.xp) - st.fd) + st.tz)), .second] [(.ref a1)])) rfl rfl (hb hby d19_31)
    have pre16 : ∀ t, Steps p.tables e below (T15.setTop (mkF m 34 #[.val (.ref a1), .val (.long (((-st.xp) - st.fd) + st.tz)), .second] [(.int st.nz)])) t → Steps p.tables e below (s₁.setTop (entryFrame m #[(.ref a1)] 3)) t := by
      intro t kt
      refine pre2 _ ?_
      show Steps p.tables e below (T1.setTop (mkF m 4 #[.val (.ref a1), .unset, .unset] [(.int st.ne)])) _
      refine XS.ifNo X1.here hx rfl (hb hby d19_4) rfl ((if0 _ _).trans (feq hc4_3).1) ?_
      refine XS.aloadN X1.here hx rfl (hb hby d19_7) rfl rfl ?_
      show Steps p.tables e below (T1.setTop (mkF m 8 #[.val (.ref a1), .unset, .unset] [(.ref a1)])) _
      refine st12 _ ?_
      show Steps p.tables e below (T12.setTop (mkF m 11 #[.val (.ref a1), .unset, .unset] [(.long st.xp)])) _
      refine XS.lneg X12.here hx rfl (hb hby d19_11) rfl ?_
      refine XS.goto X12.here hx rfl (pc0 := 12) (pc' := 19) rfl (hb hby d19_12) (by decide) (by decide) ?_
      refine XS.aloadN X12.here hx rfl (hb hby d19_19) rfl rfl ?_
      show Steps p.tables e below (T12.setTop (mkF m 20 #[.val (.ref a1), .unset, .unset] [(.ref a1), (.long (-st.xp))])) _
      refine st13 _ ?_
      show Steps p.tables e below (T13.setTop (mkF m 23 #[.val (.ref a1), .unset, .unset] [(.long st.fd), (.long (-st.xp))])) _
      refine XS.lsub X13.here hx rfl (hb hby d19_23) rfl ?_
      refine XS.aloadN X13.here hx rfl (hb hby d19_24) rfl rfl ?_
      show Steps p.tables e below (T13.setTop (mkF m 25 #[.val (.ref a1), .unset, .unset] [(.ref a1), (.long ((-st.xp) - st.fd))])) _
      refine st14 _ ?_
      show Steps p.tables e below (T14.setTop (mkF m 28 #[.val (.ref a1), .unset, .unset] [(.long st.tz), (.long ((-st.xp) - st.fd))])) _
      refine XS.ladd X14.here hx rfl (hb hby d19_28) rfl ?_
      refine XS.lstoreN X14.here hx rfl (hb hby d19_29) rfl (l' := #[.val (.ref a1), .val (.long (((-st.xp) - st.fd) + st.tz)), .second]) rfl ?_
      refine XS.aloadN X14.here hx rfl (hb hby d19_30) rfl rfl ?_
      show Steps p.tables e below (T14.setTop (mkF m 31 #[.val (.ref a1), .val (.long (((-st.xp) - st.fd) + st.tz)), .second] [(.ref a1)])) _
      refine st15 _ ?_
      show Steps p.tables e below (T15.setTop (mkF m 34 #[.val (.ref a1), .val (.long (((-st.xp) - st.fd) + st.tz)), .second] [(.int st.nz)])) _
      exact kt
    by_cases hc34_17 : st.nz = (0 : Int32)
    ·
      have hv : own_is st = (1 : Int32) := by unfold own_is own_sc; rw [if_neg hc4_3, if_pos hc34_17]
      obtain ⟨fs, hr, hrun, hended, hW, hsame⟩ := X15.leave (v := some (.int (own_is st))) (fun h => by rw [Bd.returns] at h; cases h)
      refine ⟨_, _, pre16 _ ?_, hrun, hended, _, _, rfl, ?_, ⟨_, rfl⟩, hW, hsame.mono (by decide) (by decide)⟩
      ·
        show Steps p.tables e below (T15.setTop (mkF m 34 #[.val (.ref a1), .val (.long (((-st.xp) - st.fd) + st.tz)), .second] [(.int st.nz)])) _
        refine XS.ifYes X15.here hx rfl (pc0 := 34) (pc' := 43) rfl (hb hby d19_34) rfl ((if0 _ _).trans (teq hc34_17).1) (by decide) (by decide) ?_
        refine XS.iconst X15.here hx rfl (hb hby d19_43) ?_
        refine XS.goto X15.here hx rfl (pc0 := 44) (pc' := 48) rfl (hb hby d19_44) (by decide) (by decide) ?_
        show Steps p.tables e below (T15.setTop (mkF m 48 #[.val (.ref a1), .val (.long (((-st.xp) - st.fd) + st.tz)), .second] [(.int (1 : Int32))])) _
        rw [hv] at hr
        exact retN X15 hx (t := .boolean) Bd.returns (by simp) (hb hby d19_48) hr
      ·
        show Q19 Z a1 st h0 n0 _ T15.heap _
        rw [e15]
        exact ⟨rfl, N0, rfl⟩
    ·
      have pre18 : ∀ t, Steps p.tables e below (T15.setTop (mkF m 40 #[.val (.ref a1), .val (.long (((-st.xp) - st.fd) + st.tz)), .second] [(.int (lcmpW (((-st.xp) - st.fd) + st.tz) (0 : Int64)))])) t → Steps p.tables e below (s₁.setTop (entryFrame m #[(.ref a1)] 3)) t := by
        intro t kt
        refine pre16 _ ?_
        show Steps p.tables e below (T15.setTop (mkF m 34 #[.val (.ref a1), .val (.long (((-st.xp) - st.fd) + st.tz)), .second] [(.int st.nz)])) _
        refine XS.ifNo X15.here hx rfl (hb hby d19_34) rfl ((if0 _ _).trans (feq hc34_17).1) ?_
        refine XS.lloadN X15.here hx rfl (hb hby d19_37) rfl ?_
        refine XS.lconst X15.here hx rfl (hb hby d19_38) ?_
        show Steps p.tables e below (T15.setTop (mkF m 39 #[.val (.ref a1), .val (.long (((-st.xp) - st.fd) + st.tz)), .second] [(.long (0 : Int64)), (.long (((-st.xp) - st.fd) + st.tz))])) _
        refine XS.lcmp X15.here hx rfl (hb hby d19_39) rfl ?_
        show Steps p.tables e below (T15.setTop (mkF m 40 #[.val (.ref a1), .val (.long (((-st.xp) - st.fd) + st.tz)), .second] [(.int (lcmpW (((-st.xp) - st.fd) + st.tz) (0 : Int64)))])) _
        exact kt
      by_cases hc40_19 : (((-st.xp) - st.fd) + st.tz) < (0 : Int64)
      ·
        have hv : own_is st = (0 : Int32) := by unfold own_is own_sc; rw [if_neg hc4_3, if_neg hc34_17, if_pos hc40_19]
        obtain ⟨fs, hr, hrun, hended, hW, hsame⟩ := X15.leave (v := some (.int (own_is st))) (fun h => by rw [Bd.returns] at h; cases h)
        refine ⟨_, _, pre18 _ ?_, hrun, hended, _, _, rfl, ?_, ⟨_, rfl⟩, hW, hsame.mono (by decide) (by decide)⟩
        ·
          show Steps p.tables e below (T15.setTop (mkF m 40 #[.val (.ref a1), .val (.long (((-st.xp) - st.fd) + st.tz)), .second] [(.int (lcmpW (((-st.xp) - st.fd) + st.tz) (0 : Int64)))])) _
          refine XS.ifYes X15.here hx rfl (pc0 := 40) (pc' := 47) rfl (hb hby d19_40) rfl ((if0 _ _).trans (tlt ((lw_lt _ _).mpr hc40_19)).1) (by decide) (by decide) ?_
          refine XS.iconst X15.here hx rfl (hb hby d19_47) ?_
          show Steps p.tables e below (T15.setTop (mkF m 48 #[.val (.ref a1), .val (.long (((-st.xp) - st.fd) + st.tz)), .second] [(.int (0 : Int32))])) _
          rw [hv] at hr
          exact retN X15 hx (t := .boolean) Bd.returns (by simp) (hb hby d19_48) hr
        ·
          show Q19 Z a1 st h0 n0 _ T15.heap _
          rw [e15]
          exact ⟨rfl, N0, rfl⟩
      ·
        have hv : own_is st = (1 : Int32) := by unfold own_is own_sc; rw [if_neg hc4_3, if_neg hc34_17, if_neg hc40_19]
        obtain ⟨fs, hr, hrun, hended, hW, hsame⟩ := X15.leave (v := some (.int (own_is st))) (fun h => by rw [Bd.returns] at h; cases h)
        refine ⟨_, _, pre18 _ ?_, hrun, hended, _, _, rfl, ?_, ⟨_, rfl⟩, hW, hsame.mono (by decide) (by decide)⟩
        ·
          show Steps p.tables e below (T15.setTop (mkF m 40 #[.val (.ref a1), .val (.long (((-st.xp) - st.fd) + st.tz)), .second] [(.int (lcmpW (((-st.xp) - st.fd) + st.tz) (0 : Int64)))])) _
          refine XS.ifNo X15.here hx rfl (hb hby d19_40) rfl ((if0 _ _).trans (flt (fun q => hc40_19 ((lw_lt _ _).mp q))).1) ?_
          refine XS.iconst X15.here hx rfl (hb hby d19_43) ?_
          refine XS.goto X15.here hx rfl (pc0 := 44) (pc' := 48) rfl (hb hby d19_44) (by decide) (by decide) ?_
          show Steps p.tables e below (T15.setTop (mkF m 48 #[.val (.ref a1), .val (.long (((-st.xp) - st.fd) + st.tz)), .second] [(.int (1 : Int32))])) _
          rw [hv] at hr
          exact retN X15 hx (t := .boolean) Bd.returns (by simp) (hb hby d19_48) hr
        ·
          show Q19 Z a1 st h0 n0 _ T15.heap _
          rw [e15]
          exact ⟨rfl, N0, rfl⟩
theorem d11_2 : decode prog_64_method_4_code 2 = .ok (.iload_n 2, 1) := by decide +kernel
theorem d11_3 : decode prog_64_method_4_code 3 = .ok (.aload_n 1, 1) := by decide +kernel
theorem d11_4 : decode prog_64_method_4_code 4 = .ok (.invokeinterface 50 1, 5) := by decide +kernel
theorem d11_9 : decode prog_64_method_4_code 9 = .ok (.if_icmp .ge 223, 3) := by decide +kernel
theorem d11_12 : decode prog_64_method_4_code 12 = .ok (.aload_n 1, 1) := by decide +kernel
theorem d11_13 : decode prog_64_method_4_code 13 = .ok (.iload_n 2, 1) := by decide +kernel
theorem d11_14 : decode prog_64_method_4_code 14 = .ok (.invokeinterface 56 2, 5) := by decide +kernel
theorem d11_19 : decode prog_64_method_4_code 19 = .ok (.istore_n 3, 1) := by decide +kernel
theorem d11_20 : decode prog_64_method_4_code 20 = .ok (.aload_n 0, 1) := by decide +kernel
theorem d11_21 : decode prog_64_method_4_code 21 = .ok (.getfield 25, 3) := by decide +kernel
theorem d11_24 : decode prog_64_method_4_code 24 = .ok (.ifCond .eq 79, 3) := by decide +kernel
theorem d11_27 : decode prog_64_method_4_code 27 = .ok (.iload_n 3, 1) := by decide +kernel
theorem d11_28 : decode prog_64_method_4_code 28 = .ok (.bipush 45, 2) := by decide +kernel
theorem d11_30 : decode prog_64_method_4_code 30 = .ok (.if_icmp .ne 11, 3) := by decide +kernel
theorem d11_33 : decode prog_64_method_4_code 33 = .ok (.aload_n 0, 1) := by decide +kernel
theorem d11_34 : decode prog_64_method_4_code 34 = .ok (.iconst 1, 1) := by decide +kernel
theorem d11_35 : decode prog_64_method_4_code 35 = .ok (.putfield 31, 3) := by decide +kernel
theorem d11_38 : decode prog_64_method_4_code 38 = .ok (.goto 188, 3) := by decide +kernel
theorem d11_41 : decode prog_64_method_4_code 41 = .ok (.iload_n 3, 1) := by decide +kernel
theorem d11_42 : decode prog_64_method_4_code 42 = .ok (.bipush 43, 2) := by decide +kernel
theorem d11_44 : decode prog_64_method_4_code 44 = .ok (.if_icmp .eq 182, 3) := by decide +kernel
theorem d11_47 : decode prog_64_method_4_code 47 = .ok (.aload_n 0, 1) := by decide +kernel
theorem d11_48 : decode prog_64_method_4_code 48 = .ok (.aload_n 0, 1) := by decide +kernel
theorem d11_49 : decode prog_64_method_4_code 49 = .ok (.getfield 44, 3) := by decide +kernel
theorem d11_52 : decode prog_64_method_4_code 52 = .ok (.ldc2_w 60, 3) := by decide +kernel
theorem d11_55 : decode prog_64_method_4_code 55 = .ok (.lcmp, 1) := by decide +kernel
theorem d11_56 : decode prog_64_method_4_code 56 = .ok (.ifCond .ge 20, 3) := by decide +kernel
theorem d11_59 : decode prog_64_method_4_code 59 = .ok (.aload_n 0, 1) := by decide +kernel
theorem d11_60 : decode prog_64_method_4_code 60 = .ok (.getfield 44, 3) := by decide +kernel
theorem d11_63 : decode prog_64_method_4_code 63 = .ok (.ldc2_w 62, 3) := by decide +kernel
theorem d11_66 : decode prog_64_method_4_code 66 = .ok (.lmul, 1) := by decide +kernel
theorem d11_67 : decode prog_64_method_4_code 67 = .ok (.iload_n 3, 1) := by decide +kernel
theorem d11_68 : decode prog_64_method_4_code 68 = .ok (.bipush 48, 2) := by decide +kernel
theorem d11_70 : decode prog_64_method_4_code 70 = .ok (.isub, 1) := by decide +kernel
theorem d11_71 : decode prog_64_method_4_code 71 = .ok (.i2l, 1) := by decide +kernel
theorem d11_72 : decode prog_64_method_4_code 72 = .ok (.ladd, 1) := by decide +kernel
theorem d11_73 : decode prog_64_method_4_code 73 = .ok (.goto 6, 3) := by decide +kernel
theorem d11_76 : decode prog_64_method_4_code 76 = .ok (.ldc2_w 64, 3) := by decide +kernel
theorem d11_79 : decode prog_64_method_4_code 79 = .ok (.putfield 44, 3) := by decide +kernel
theorem d11_82 : decode prog_64_method_4_code 82 = .ok (.aload_n 0, 1) := by decide +kernel
theorem d11_83 : decode prog_64_method_4_code 83 = .ok (.getfield 13, 3) := by decide +kernel
theorem d11_86 : decode prog_64_method_4_code 86 = .ok (.ifnull 140, 3) := by decide +kernel
theorem d11_103 : decode prog_64_method_4_code 103 = .ok (.iload_n 3, 1) := by decide +kernel
theorem d11_104 : decode prog_64_method_4_code 104 = .ok (.bipush 46, 2) := by decide +kernel
theorem d11_106 : decode prog_64_method_4_code 106 = .ok (.if_icmp .ne 11, 3) := by decide +kernel
theorem d11_109 : decode prog_64_method_4_code 109 = .ok (.aload_n 0, 1) := by decide +kernel
theorem d11_110 : decode prog_64_method_4_code 110 = .ok (.iconst 1, 1) := by decide +kernel
theorem d11_111 : decode prog_64_method_4_code 111 = .ok (.putfield 21, 3) := by decide +kernel
theorem d11_114 : decode prog_64_method_4_code 114 = .ok (.goto 112, 3) := by decide +kernel
theorem d11_117 : decode prog_64_method_4_code 117 = .ok (.iload_n 3, 1) := by decide +kernel
theorem d11_118 : decode prog_64_method_4_code 118 = .ok (.bipush 101, 2) := by decide +kernel
theorem d11_120 : decode prog_64_method_4_code 120 = .ok (.if_icmp .eq 9, 3) := by decide +kernel
theorem d11_123 : decode prog_64_method_4_code 123 = .ok (.iload_n 3, 1) := by decide +kernel
theorem d11_124 : decode prog_64_method_4_code 124 = .ok (.bipush 69, 2) := by decide +kernel
theorem d11_126 : decode prog_64_method_4_code 126 = .ok (.if_icmp .ne 11, 3) := by decide +kernel
theorem d11_129 : decode prog_64_method_4_code 129 = .ok (.aload_n 0, 1) := by decide +kernel
theorem d11_130 : decode prog_64_method_4_code 130 = .ok (.iconst 1, 1) := by decide +kernel
theorem d11_131 : decode prog_64_method_4_code 131 = .ok (.putfield 25, 3) := by decide +kernel
theorem d11_134 : decode prog_64_method_4_code 134 = .ok (.goto 92, 3) := by decide +kernel
theorem d11_137 : decode prog_64_method_4_code 137 = .ok (.iload_n 3, 1) := by decide +kernel
theorem d11_138 : decode prog_64_method_4_code 138 = .ok (.bipush 45, 2) := by decide +kernel
theorem d11_140 : decode prog_64_method_4_code 140 = .ok (.if_icmp .ne 11, 3) := by decide +kernel
theorem d11_143 : decode prog_64_method_4_code 143 = .ok (.aload_n 0, 1) := by decide +kernel
theorem d11_144 : decode prog_64_method_4_code 144 = .ok (.iconst 1, 1) := by decide +kernel
theorem d11_145 : decode prog_64_method_4_code 145 = .ok (.putfield 28, 3) := by decide +kernel
theorem d11_148 : decode prog_64_method_4_code 148 = .ok (.goto 78, 3) := by decide +kernel
theorem d11_151 : decode prog_64_method_4_code 151 = .ok (.iload_n 3, 1) := by decide +kernel
theorem d11_152 : decode prog_64_method_4_code 152 = .ok (.bipush 48, 2) := by decide +kernel
theorem d11_154 : decode prog_64_method_4_code 154 = .ok (.if_icmp .ne 16, 3) := by decide +kernel
theorem d11_157 : decode prog_64_method_4_code 157 = .ok (.aload_n 0, 1) := by decide +kernel
theorem d11_158 : decode prog_64_method_4_code 158 = .ok (.dup, 1) := by decide +kernel
theorem d11_159 : decode prog_64_method_4_code 159 = .ok (.getfield 37, 3) := by decide +kernel
theorem d11_162 : decode prog_64_method_4_code 162 = .ok (.lconst 1, 1) := by decide +kernel
theorem d11_163 : decode prog_64_method_4_code 163 = .ok (.ladd, 1) := by decide +kernel
theorem d11_164 : decode prog_64_method_4_code 164 = .ok (.putfield 37, 3) := by decide +kernel
theorem d11_167 : decode prog_64_method_4_code 167 = .ok (.goto 42, 3) := by decide +kernel
theorem d11_170 : decode prog_64_method_4_code 170 = .ok (.aload_n 0, 1) := by decide +kernel
theorem d11_171 : decode prog_64_method_4_code 171 = .ok (.getfield 7, 3) := by decide +kernel
theorem d11_174 : decode prog_64_method_4_code 174 = .ok (.ifnull 25, 3) := by decide +kernel
theorem d11_199 : decode prog_64_method_4_code 199 = .ok (.aload_n 0, 1) := by decide +kernel
theorem d11_200 : decode prog_64_method_4_code 200 = .ok (.iconst 1, 1) := by decide +kernel
theorem d11_201 : decode prog_64_method_4_code 201 = .ok (.putfield 34, 3) := by decide +kernel
theorem d11_204 : decode prog_64_method_4_code 204 = .ok (.aload_n 0, 1) := by decide +kernel
theorem d11_205 : decode prog_64_method_4_code 205 = .ok (.lconst 0, 1) := by decide +kernel
theorem d11_206 : decode prog_64_method_4_code 206 = .ok (.putfield 37, 3) := by decide +kernel
theorem d11_209 : decode prog_64_method_4_code 209 = .ok (.aload_n 0, 1) := by decide +kernel
theorem d11_210 : decode prog_64_method_4_code 210 = .ok (.getfield 21, 3) := by decide +kernel
theorem d11_213 : decode prog_64_method_4_code 213 = .ok (.ifCond .eq 13, 3) := by decide +kernel
theorem d11_216 : decode prog_64_method_4_code 216 = .ok (.aload_n 0, 1) := by decide +kernel
theorem d11_217 : decode prog_64_method_4_code 217 = .ok (.dup, 1) := by decide +kernel
theorem d11_218 : decode prog_64_method_4_code 218 = .ok (.getfield 41, 3) := by decide +kernel
theorem d11_221 : decode prog_64_method_4_code 221 = .ok (.lconst 1, 1) := by decide +kernel
theorem d11_222 : decode prog_64_method_4_code 222 = .ok (.ladd, 1) := by decide +kernel
theorem d11_223 : decode prog_64_method_4_code 223 = .ok (.putfield 41, 3) := by decide +kernel
theorem d11_226 : decode prog_64_method_4_code 226 = .ok (.iinc 2 1, 3) := by decide +kernel
theorem d11_229 : decode prog_64_method_4_code 229 = .ok (.goto (-227), 3) := by decide +kernel
theorem pd___I : parseMethodDescriptor "()I" = some ⟨[], some .int⟩ := by decide +kernel
theorem pd__I_C : parseMethodDescriptor "(I)C" = some ⟨[.int], some .char⟩ := by decide +kernel
set_option maxRecDepth 65536 in
set_option maxHeartbeats 40000000 in
theorem own_turn {p : Program} {l : Launch} {e : Env} {s : State} {m : MethodId} {args : Array Value} {below : List Frame} {meth : Method} {c : Code} {T0 : State} {locs : List Loc} {Z : State} {a0 : Array Value} {h0 : Heap} {n0 : Nat} {a1 x : Addr} {i : Nat} {sl : Slot} {cs : List Int32} {st : own_S} {G1 : Int32} {fm : Value}
    (X0 : Stand p l e ({ frames := 5, cells := 0, slots := 0, locals := 66 } : Room) s m args below meth c T0 locs 0 0) (hx : p.tables.exec = Jvm.exec) (hZ : Z.Warmed39 s.vm) (hw : ∀ d ∈ tables_1, d.before a0 Z = true) (hby : c.code = prog_64_method_4_code) (hml : c.maxLocals = 4) (hown : s.vm.findClass "com/example/reed/reed/engine/Integrality" = some m.cls) (e0 : T0.heap = h0) (N0 : Fr n0 locs) (Z0 : n0 ≤ h0.size) (OLD0 : Old Z n0 h0) (SCS : Sta Z Z.heap "java/lang/String" "COMPACT_STRINGS" "Z" (.int G1)) (P5 : ¬ (G1 = (0 : Int32))) (SSI : Sta Z Z.heap "jdk/internal/util/Preconditions" "SIOOBE_FORMATTER" "Ljava/util/function/BiFunction;" fm) (rfm : fm.isRef = true) (g_a1 : n0 ≤ a1) (FG : own_F Z h0 a1 st) (XSt : own_str Z h0 x cs) (hcs : ∀ c ∈ cs, own_c255 c) (hlen : cs.length ≤ 4000) (hi : i < cs.length) (hin : (Int32.ofNat i) < (Int32.ofNat cs.length)) (hsl : sl = .unset ∨ ∃ q, sl = .val (.int q)) :
    ∃ (T' : State) (locs' : List Loc), Stand p l e ({ frames := 5, cells := 0, slots := 0, locals := 66 } : Room) s m args below meth c T' locs' 0 0 ∧ Fr n0 locs' ∧ Keep h0 T'.heap [a1] ∧ own_F Z T'.heap a1 (own_step st (cs.getD i 0)) ∧ ∀ t, Steps p.tables e below (T'.setTop (mkF m 2 #[.val (.ref a1), .val (.ref x), .val (.int ((Int32.ofNat i) + (1 : Int32))), .val (.int (cs.getD i 0))] [])) t → Steps p.tables e below (T0.setTop (mkF m 2 #[.val (.ref a1), .val (.ref x), .val (.int (Int32.ofNat i)), sl] [])) t := by
  obtain ⟨E_a1, F_significand, F_exponentDigits, F_inFraction, F_inExponent, F_negative, F_negativeExponent, F_nonZero, F_trailingZeros, F_fractionDigits, F_exponent⟩ := id FG
  obtain ⟨xt, xk, xe, xc, xv, xa⟩ := id XSt
  have nxa : x ≠ a1 := xe.ne E_a1 (by decide)
  have pre0 : ∀ t, Steps p.tables e below (T0.setTop (mkF m 2 #[.val (.ref a1), .val (.ref x), .val (.int (Int32.ofNat i)), sl] [])) t → Steps p.tables e below (T0.setTop (mkF m 2 #[.val (.ref a1), .val (.ref x), .val (.int (Int32.ofNat i)), sl] [])) t := fun t k => k
  have K0 := Keep.refl h0 ([a1] : List Addr)
  have OL2 : Old Z n0 h0 := OLD0.keep K0 (allS g_a1 all0)
  obtain ⟨cq1, kq1', q1a, q1b, q1c⟩ := isOf hZ e0 xe
  obtain ⟨_, _, ⟨T1, L1, k1, n1⟩, -, X1, ⟨Lc1, hQ1, l1, y1, z1⟩, st1⟩ := X0.interfaceBack hx (xi := (⟨"java/lang/CharSequence", "length", "()I"⟩ : MethodName)) (y := (⟨"java/lang/String", "length", "()I"⟩ : MethodName)) hown (mvT hZ (hw _ (List.mem_of_getElem? (i := 59) rfl))) (mvT hZ (hw _ (List.mem_of_getElem? (i := 60) rfl))) (mvT hZ (hw _ (List.mem_of_getElem? (i := 61) rfl))) (mvT hZ (hw _ (List.mem_of_getElem? (i := 62) rfl))) (mvT hZ (hw _ (List.mem_of_getElem? (i := 63) rfl))) (mvT hZ (hw _ (List.mem_of_getElem? (i := 64) rfl))) (mvT hZ (hw _ (List.mem_of_getElem? (i := 65) rfl))) (mvT hZ (hw _ (List.mem_of_getElem? (i := 66) rfl))) (by decide) (StrChars.Road.lenW (W := 1) hZ (hwsL a0 Z hw) (kI := 4) (hw _ (List.mem_of_getElem? (i := 6) rfl)) xe xv xc xa (StrChars.Road.codOf rfl (fun c hc => (hcs c hc).2)) (own_up hcs) (SCS.ext OL2.2) P5 hlen (by decide) (by decide)) q1a q1b q1c (g := (mkF m 4 #[.val (.ref a1), .val (.ref x), .val (.int (Int32.ofNat i)), sl] [(.ref x), (.int (Int32.ofNat i))])) rfl (by rw [hml]; rfl) (Steps.refl _) (argsL := []) (rest := [(.int (Int32.ofNat i))]) (lenOf pd___I rfl) rfl (by show 2 * 0 + _ ≤ _; exact Nat.le_of_eq rfl) (hb hby d11_4) (fun _ _ => ⟨rfl, e0, (by decide : 0 + 0 ≤ _), (by decide : 0 + 0 ≤ _)⟩)
  dsimp only [Pt.U, Pt.locs, Pt.cells, Pt.slots] at X1 l1 y1 z1 st1 hQ1
  subst l1 y1 z1
  obtain ⟨rfl, rfl, hq1⟩ := hQ1
  rw [List.append_nil] at X1
  have E1 : Ext h0 T1.heap := by rw [hq1]; exact ⟨Nat.le_refl _, fun _ _ q => q⟩
  have K1 := K0.ext E1
  have hk3 : (Int32.ofNat i) < (Int32.ofNat cs.length) := hin
  have OL5 : Old Z n0 T1.heap := OLD0.keep K1 (allS g_a1 all0)
  have c6 := (xe.ext E1)
  have c7 := (xv.ext E1)
  have c8 := (xc.ext E1)
  have c9 := (xa.ext E1)
  obtain ⟨cq4, kq4', q4a, q4b, q4c⟩ := isOf hZ rfl c6
  obtain ⟨_, _, ⟨T4, L4, k4, n4⟩, -, X4, ⟨Lc4, hQ4, l4, y4, z4⟩, st4⟩ := X1.interfaceBack hx (xi := (⟨"java/lang/CharSequence", "charAt", "(I)C"⟩ : MethodName)) (y := (⟨"java/lang/String", "charAt", "(I)C"⟩ : MethodName)) hown (mvT hZ (hw _ (List.mem_of_getElem? (i := 73) rfl))) (mvT hZ (hw _ (List.mem_of_getElem? (i := 74) rfl))) (mvT hZ (hw _ (List.mem_of_getElem? (i := 75) rfl))) (mvT hZ (hw _ (List.mem_of_getElem? (i := 76) rfl))) (mvT hZ (hw _ (List.mem_of_getElem? (i := 77) rfl))) (mvT hZ (hw _ (List.mem_of_getElem? (i := 78) rfl))) (mvT hZ (hw _ (List.mem_of_getElem? (i := 79) rfl))) (mvT hZ (hw _ (List.mem_of_getElem? (i := 66) rfl))) (by decide) (StrChars.Road.chN (W := 0) hZ (hwsC a0 Z hw) (kI := 4) (hw _ (List.mem_of_getElem? (i := 6) rfl)) (i := i) c6 c7 c8 c9 (StrChars.Road.codOf rfl (fun c hc => (hcs c hc).2)) (own_up hcs) (SCS.ext OL5.2) P5 (SSI.ext OL5.2) rfm hlen hi rfl (by decide) (by decide)) q4a q4b q4c (g := (mkF m 14 #[.val (.ref a1), .val (.ref x), .val (.int (Int32.ofNat i)), sl] [(.int (Int32.ofNat i)), (.ref x)])) rfl (by rw [hml]; rfl) (Steps.refl _) (argsL := [(.int (Int32.ofNat i))]) (rest := []) (lenOf pd__I_C rfl) rfl (by show 2 * 0 + _ ≤ _; exact Nat.le_of_eq rfl) (hb hby d11_14) (fun _ _ => ⟨rfl, rfl, (by decide : 0 + 0 ≤ _), (by decide : 0 + 0 ≤ _)⟩)
  dsimp only [Pt.U, Pt.locs, Pt.cells, Pt.slots] at X4 l4 y4 z4 st4 hQ4
  subst l4 y4 z4
  obtain ⟨rfl, rfl, hq4⟩ := hQ4
  rw [List.append_nil] at X4
  have E4 : Ext T1.heap T4.heap := by rw [hq4]; exact ⟨Nat.le_refl _, fun _ _ q => q⟩
  have K4 := K1.ext E4
  have c10 := ((F_inExponent.ext E1).ext E4)
  obtain ⟨T11, X11, e11, st11⟩ := getF X4 hx hZ hown (host := "") (Or.inl (hw _ (List.mem_of_getElem? (i := 98) rfl))) Via.refl rfl c10 (g := (mkF m 21 #[.val (.ref a1), .val (.ref x), .val (.int (Int32.ofNat i)), .val (.int (cs.getD i 0))] [(.ref a1)])) rfl rfl (hb hby d11_21)
  have pre12 : ∀ t, Steps p.tables e below (T11.setTop (mkF m 24 #[.val (.ref a1), .val (.ref x), .val (.int (Int32.ofNat i)), .val (.int (cs.getD i 0))] [(.int st.ex)])) t → Steps p.tables e below (T0.setTop (mkF m 2 #[.val (.ref a1), .val (.ref x), .val (.int (Int32.ofNat i)), sl] [])) t := by
    intro t kt
    refine pre0 _ ?_
    show Steps p.tables e below (T0.setTop (mkF m 2 #[.val (.ref a1), .val (.ref x), .val (.int (Int32.ofNat i)), sl] [])) _
    refine XS.iloadN X0.here hx rfl (hb hby d11_2) rfl ?_
    refine XS.aloadN X0.here hx rfl (hb hby d11_3) rfl rfl ?_
    show Steps p.tables e below (T0.setTop (mkF m 4 #[.val (.ref a1), .val (.ref x), .val (.int (Int32.ofNat i)), sl] [(.ref x), (.int (Int32.ofNat i))])) _
    refine st1.trans ?_
    show Steps p.tables e below (T1.setTop (mkF m 9 #[.val (.ref a1), .val (.ref x), .val (.int (Int32.ofNat i)), sl] [(.int (Int32.ofNat cs.length)), (.int (Int32.ofNat i))])) _
    refine XS.icmpNo X1.here hx rfl (hb hby d11_9) rfl (tlt hk3).2.1 ?_
    refine XS.aloadN X1.here hx rfl (hb hby d11_12) rfl rfl ?_
    refine XS.iloadN X1.here hx rfl (hb hby d11_13) rfl ?_
    show Steps p.tables e below (T1.setTop (mkF m 14 #[.val (.ref a1), .val (.ref x), .val (.int (Int32.ofNat i)), sl] [(.int (Int32.ofNat i)), (.ref x)])) _
    refine st4.trans ?_
    show Steps p.tables e below (T4.setTop (mkF m 19 #[.val (.ref a1), .val (.ref x), .val (.int (Int32.ofNat i)), sl] [(.int (cs.getD i 0))])) _
    refine XS.istoreN X4.here hx rfl (hb hby d11_19) rfl (l' := #[.val (.ref a1), .val (.ref x), .val (.int (Int32.ofNat i)), .val (.int (cs.getD i 0))]) (by rcases hsl with rfl | ⟨q, rfl⟩ <;> rfl) ?_
    refine XS.aloadN X4.here hx rfl (hb hby d11_20) rfl rfl ?_
    show Steps p.tables e below (T4.setTop (mkF m 21 #[.val (.ref a1), .val (.ref x), .val (.int (Int32.ofNat i)), .val (.int (cs.getD i 0))] [(.ref a1)])) _
    refine st11 _ ?_
    show Steps p.tables e below (T11.setTop (mkF m 24 #[.val (.ref a1), .val (.ref x), .val (.int (Int32.ofNat i)), .val (.int (cs.getD i 0))] [(.int st.ex)])) _
    exact kt
  by_cases hc24_13 : st.ex = (0 : Int32)
  ·
    have pre14 : ∀ t, Steps p.tables e below (T11.setTop (mkF m 106 #[.val (.ref a1), .val (.ref x), .val (.int (Int32.ofNat i)), .val (.int (cs.getD i 0))] [(.int (46 : Int32)), (.int (cs.getD i 0))])) t → Steps p.tables e below (T0.setTop (mkF m 2 #[.val (.ref a1), .val (.ref x), .val (.int (Int32.ofNat i)), sl] [])) t := by
      intro t kt
      refine pre12 _ ?_
      show Steps p.tables e below (T11.setTop (mkF m 24 #[.val (.ref a1), .val (.ref x), .val (.int (Int32.ofNat i)), .val (.int (cs.getD i 0))] [(.int st.ex)])) _
      refine XS.ifYes X11.here hx rfl (pc0 := 24) (pc' := 103) rfl (hb hby d11_24) rfl ((if0 _ _).trans (teq hc24_13).1) (by decide) (by decide) ?_
      refine XS.iloadN X11.here hx rfl (hb hby d11_103) rfl ?_
      refine XS.bipush X11.here hx rfl (hb hby d11_104) ?_
      show Steps p.tables e below (T11.setTop (mkF m 106 #[.val (.ref a1), .val (.ref x), .val (.int (Int32.ofNat i)), .val (.int (cs.getD i 0))] [(.int (46 : Int32)), (.int (cs.getD i 0))])) _
      exact kt
    by_cases hc106_15 : (cs.getD i 0) = (46 : Int32)
    ·
      have c16 := ((E_a1.ext E1).ext E4)
      have c17 := ((F_inFraction.ext E1).ext E4)
      obtain ⟨T18, h18, X18, e18, W18, st18⟩ := putFN X11 hx hZ hown (hw _ (List.mem_of_getElem? (i := 104) rfl)) Via.refl e11 c17 c16 (Or.inl (hw _ (List.mem_of_getElem? (i := 105) rfl))) (hw _ (List.mem_of_getElem? (i := 44) rfl)) (ty := .boolean) (v := (.int (1 : Int32))) (v' := (.int (nar .boolean (1 : Int32)))) (by decide) rfl (fits_nar_bool _) (g := (mkF m 111 #[.val (.ref a1), .val (.ref x), .val (.int (Int32.ofNat i)), .val (.int (cs.getD i 0))] [(.int (1 : Int32)), (.ref a1)])) rfl rfl (hb hby d11_111)
      have Fw18 := c17.same W18
      have K18 := K4.wr W18 (Or.inl (List.mem_of_getElem? (i := 0) rfl))
      have N18 := Fr.snoc X18 N0 g_a1
      have c19 := (c16.wr W18)
      have c20 := (((F_significand.ext E1).ext E4).other W18 (Or.inr (slot_ne (Or.inr (hw _ (List.mem_of_getElem? (i := 51) rfl))) (Or.inl (hw _ (List.mem_of_getElem? (i := 105) rfl))) (by decide) (t := (.object "com/example/reed/reed/engine/Digits")) (t' := .boolean) (by decide) (by decide))))
      have c21 := (((F_exponentDigits.ext E1).ext E4).other W18 (Or.inr (slot_ne (Or.inr (hw _ (List.mem_of_getElem? (i := 53) rfl))) (Or.inl (hw _ (List.mem_of_getElem? (i := 105) rfl))) (by decide) (t := (.object "com/example/reed/reed/engine/Digits")) (t' := .boolean) (by decide) (by decide))))
      have c22 := (c10.other W18 (Or.inr (slot_ne (Or.inl (hw _ (List.mem_of_getElem? (i := 99) rfl))) (Or.inl (hw _ (List.mem_of_getElem? (i := 105) rfl))) (by decide) (t := .boolean) (t' := .boolean) (by decide) (by decide))))
      have c23 := (((F_negative.ext E1).ext E4).other W18 (Or.inr (slot_ne (Or.inl (hw _ (List.mem_of_getElem? (i := 137) rfl))) (Or.inl (hw _ (List.mem_of_getElem? (i := 105) rfl))) (by decide) (t := .boolean) (t' := .boolean) (by decide) (by decide))))
      have c24 := (((F_negativeExponent.ext E1).ext E4).other W18 (Or.inr (slot_ne (Or.inl (hw _ (List.mem_of_getElem? (i := 112) rfl))) (Or.inl (hw _ (List.mem_of_getElem? (i := 105) rfl))) (by decide) (t := .boolean) (t' := .boolean) (by decide) (by decide))))
      have c25 := (((F_nonZero.ext E1).ext E4).other W18 (Or.inr (slot_ne (Or.inl (hw _ (List.mem_of_getElem? (i := 101) rfl))) (Or.inl (hw _ (List.mem_of_getElem? (i := 105) rfl))) (by decide) (t := .boolean) (t' := .boolean) (by decide) (by decide))))
      have c26 := (((F_trailingZeros.ext E1).ext E4).other W18 (Or.inr (slot_ne (Or.inl (hw _ (List.mem_of_getElem? (i := 103) rfl))) (Or.inl (hw _ (List.mem_of_getElem? (i := 105) rfl))) (by decide) (t := .long) (t' := .boolean) (by decide) (by decide))))
      have c27 := (((F_fractionDigits.ext E1).ext E4).other W18 (Or.inr (slot_ne (Or.inl (hw _ (List.mem_of_getElem? (i := 116) rfl))) (Or.inl (hw _ (List.mem_of_getElem? (i := 105) rfl))) (by decide) (t := .long) (t' := .boolean) (by decide) (by decide))))
      have c28 := (((F_exponent.ext E1).ext E4).other W18 (Or.inr (slot_ne (Or.inl (hw _ (List.mem_of_getElem? (i := 114) rfl))) (Or.inl (hw _ (List.mem_of_getElem? (i := 105) rfl))) (by decide) (t := .long) (t' := .boolean) (by decide) (by decide))))
      have pre29 : ∀ t, Steps p.tables e below (T18.setTop (mkF m 2 #[.val (.ref a1), .val (.ref x), .val (.int ((Int32.ofNat i) + (1 : Int32))), .val (.int (cs.getD i 0))] [])) t → Steps p.tables e below (T0.setTop (mkF m 2 #[.val (.ref a1), .val (.ref x), .val (.int (Int32.ofNat i)), sl] [])) t := by
        intro t kt
        refine pre14 _ ?_
        show Steps p.tables e below (T11.setTop (mkF m 106 #[.val (.ref a1), .val (.ref x), .val (.int (Int32.ofNat i)), .val (.int (cs.getD i 0))] [(.int (46 : Int32)), (.int (cs.getD i 0))])) _
        refine XS.icmpNo X11.here hx rfl (hb hby d11_106) rfl (teq hc106_15).2 ?_
        refine XS.aloadN X11.here hx rfl (hb hby d11_109) rfl rfl ?_
        refine XS.iconst X11.here hx rfl (hb hby d11_110) ?_
        show Steps p.tables e below (T11.setTop (mkF m 111 #[.val (.ref a1), .val (.ref x), .val (.int (Int32.ofNat i)), .val (.int (cs.getD i 0))] [(.int (1 : Int32)), (.ref a1)])) _
        refine st18 _ ?_
        show Steps p.tables e below (T18.setTop (mkF m 114 #[.val (.ref a1), .val (.ref x), .val (.int (Int32.ofNat i)), .val (.int (cs.getD i 0))] [])) _
        refine XS.goto X18.here hx rfl (pc0 := 114) (pc' := 226) rfl (hb hby d11_114) (by decide) (by decide) ?_
        refine XS.iinc X18.here hx rfl (hb hby d11_226) rfl (l' := #[.val (.ref a1), .val (.ref x), .val (.int ((Int32.ofNat i) + (1 : Int32))), .val (.int (cs.getD i 0))]) rfl ?_
        refine XS.goto X18.here hx rfl (pc0 := 229) (pc' := 2) rfl (hb hby d11_229) (by decide) (by decide) ?_
        show Steps p.tables e below (T18.setTop (mkF m 2 #[.val (.ref a1), .val (.ref x), .val (.int ((Int32.ofNat i) + (1 : Int32))), .val (.int (cs.getD i 0))] [])) _
        exact kt
      refine ⟨_, _, X18, N18, ?_, ?_, pre29⟩
      · rw [e18]; exact K18
      · unfold own_step; rw [if_pos hc24_13, if_pos hc106_15]; rw [e18]; exact ⟨c19, c20, c21, Fw18, c22, c23, c24, c25, c26, c27, c28⟩
    ·
      have pre30 : ∀ t, Steps p.tables e below (T11.setTop (mkF m 120 #[.val (.ref a1), .val (.ref x), .val (.int (Int32.ofNat i)), .val (.int (cs.getD i 0))] [(.int (101 : Int32)), (.int (cs.getD i 0))])) t → Steps p.tables e below (T0.setTop (mkF m 2 #[.val (.ref a1), .val (.ref x), .val (.int (Int32.ofNat i)), sl] [])) t := by
        intro t kt
        refine pre14 _ ?_
        show Steps p.tables e below (T11.setTop (mkF m 106 #[.val (.ref a1), .val (.ref x), .val (.int (Int32.ofNat i)), .val (.int (cs.getD i 0))] [(.int (46 : Int32)), (.int (cs.getD i 0))])) _
        refine XS.icmpYes X11.here hx rfl (pc0 := 106) (pc' := 117) rfl (hb hby d11_106) rfl (feq hc106_15).2 (by decide) (by decide) ?_
        refine XS.iloadN X11.here hx rfl (hb hby d11_117) rfl ?_
        refine XS.bipush X11.here hx rfl (hb hby d11_118) ?_
        show Steps p.tables e below (T11.setTop (mkF m 120 #[.val (.ref a1), .val (.ref x), .val (.int (Int32.ofNat i)), .val (.int (cs.getD i 0))] [(.int (101 : Int32)), (.int (cs.getD i 0))])) _
        exact kt
      by_cases hc120_31 : (cs.getD i 0) = (101 : Int32)
      ·
        have c32 := ((E_a1.ext E1).ext E4)
        obtain ⟨T33, h33, X33, e33, W33, st33⟩ := putFN X11 hx hZ hown (hw _ (List.mem_of_getElem? (i := 98) rfl)) Via.refl e11 c10 c32 (Or.inl (hw _ (List.mem_of_getElem? (i := 99) rfl))) (hw _ (List.mem_of_getElem? (i := 44) rfl)) (ty := .boolean) (v := (.int (1 : Int32))) (v' := (.int (nar .boolean (1 : Int32)))) (by decide) rfl (fits_nar_bool _) (g := (mkF m 131 #[.val (.ref a1), .val (.ref x), .val (.int (Int32.ofNat i)), .val (.int (cs.getD i 0))] [(.int (1 : Int32)), (.ref a1)])) rfl rfl (hb hby d11_131)
        have Fw33 := c10.same W33
        have K33 := K4.wr W33 (Or.inl (List.mem_of_getElem? (i := 0) rfl))
        have N33 := Fr.snoc X33 N0 g_a1
        have c34 := (c32.wr W33)
        have c35 := (((F_significand.ext E1).ext E4).other W33 (Or.inr (slot_ne (Or.inr (hw _ (List.mem_of_getElem? (i := 51) rfl))) (Or.inl (hw _ (List.mem_of_getElem? (i := 99) rfl))) (by decide) (t := (.object "com/example/reed/reed/engine/Digits")) (t' := .boolean) (by decide) (by decide))))
        have c36 := (((F_exponentDigits.ext E1).ext E4).other W33 (Or.inr (slot_ne (Or.inr (hw _ (List.mem_of_getElem? (i := 53) rfl))) (Or.inl (hw _ (List.mem_of_getElem? (i := 99) rfl))) (by decide) (t := (.object "com/example/reed/reed/engine/Digits")) (t' := .boolean) (by decide) (by decide))))
        have c37 := (((F_inFraction.ext E1).ext E4).other W33 (Or.inr (slot_ne (Or.inl (hw _ (List.mem_of_getElem? (i := 105) rfl))) (Or.inl (hw _ (List.mem_of_getElem? (i := 99) rfl))) (by decide) (t := .boolean) (t' := .boolean) (by decide) (by decide))))
        have c38 := (((F_negative.ext E1).ext E4).other W33 (Or.inr (slot_ne (Or.inl (hw _ (List.mem_of_getElem? (i := 137) rfl))) (Or.inl (hw _ (List.mem_of_getElem? (i := 99) rfl))) (by decide) (t := .boolean) (t' := .boolean) (by decide) (by decide))))
        have c39 := (((F_negativeExponent.ext E1).ext E4).other W33 (Or.inr (slot_ne (Or.inl (hw _ (List.mem_of_getElem? (i := 112) rfl))) (Or.inl (hw _ (List.mem_of_getElem? (i := 99) rfl))) (by decide) (t := .boolean) (t' := .boolean) (by decide) (by decide))))
        have c40 := (((F_nonZero.ext E1).ext E4).other W33 (Or.inr (slot_ne (Or.inl (hw _ (List.mem_of_getElem? (i := 101) rfl))) (Or.inl (hw _ (List.mem_of_getElem? (i := 99) rfl))) (by decide) (t := .boolean) (t' := .boolean) (by decide) (by decide))))
        have c41 := (((F_trailingZeros.ext E1).ext E4).other W33 (Or.inr (slot_ne (Or.inl (hw _ (List.mem_of_getElem? (i := 103) rfl))) (Or.inl (hw _ (List.mem_of_getElem? (i := 99) rfl))) (by decide) (t := .long) (t' := .boolean) (by decide) (by decide))))
        have c42 := (((F_fractionDigits.ext E1).ext E4).other W33 (Or.inr (slot_ne (Or.inl (hw _ (List.mem_of_getElem? (i := 116) rfl))) (Or.inl (hw _ (List.mem_of_getElem? (i := 99) rfl))) (by decide) (t := .long) (t' := .boolean) (by decide) (by decide))))
        have c43 := (((F_exponent.ext E1).ext E4).other W33 (Or.inr (slot_ne (Or.inl (hw _ (List.mem_of_getElem? (i := 114) rfl))) (Or.inl (hw _ (List.mem_of_getElem? (i := 99) rfl))) (by decide) (t := .long) (t' := .boolean) (by decide) (by decide))))
        have pre44 : ∀ t, Steps p.tables e below (T33.setTop (mkF m 2 #[.val (.ref a1), .val (.ref x), .val (.int ((Int32.ofNat i) + (1 : Int32))), .val (.int (cs.getD i 0))] [])) t → Steps p.tables e below (T0.setTop (mkF m 2 #[.val (.ref a1), .val (.ref x), .val (.int (Int32.ofNat i)), sl] [])) t := by
          intro t kt
          refine pre30 _ ?_
          show Steps p.tables e below (T11.setTop (mkF m 120 #[.val (.ref a1), .val (.ref x), .val (.int (Int32.ofNat i)), .val (.int (cs.getD i 0))] [(.int (101 : Int32)), (.int (cs.getD i 0))])) _
          refine XS.icmpYes X11.here hx rfl (pc0 := 120) (pc' := 129) rfl (hb hby d11_120) rfl (teq hc120_31).1 (by decide) (by decide) ?_
          refine XS.aloadN X11.here hx rfl (hb hby d11_129) rfl rfl ?_
          refine XS.iconst X11.here hx rfl (hb hby d11_130) ?_
          show Steps p.tables e below (T11.setTop (mkF m 131 #[.val (.ref a1), .val (.ref x), .val (.int (Int32.ofNat i)), .val (.int (cs.getD i 0))] [(.int (1 : Int32)), (.ref a1)])) _
          refine st33 _ ?_
          show Steps p.tables e below (T33.setTop (mkF m 134 #[.val (.ref a1), .val (.ref x), .val (.int (Int32.ofNat i)), .val (.int (cs.getD i 0))] [])) _
          refine XS.goto X33.here hx rfl (pc0 := 134) (pc' := 226) rfl (hb hby d11_134) (by decide) (by decide) ?_
          refine XS.iinc X33.here hx rfl (hb hby d11_226) rfl (l' := #[.val (.ref a1), .val (.ref x), .val (.int ((Int32.ofNat i) + (1 : Int32))), .val (.int (cs.getD i 0))]) rfl ?_
          refine XS.goto X33.here hx rfl (pc0 := 229) (pc' := 2) rfl (hb hby d11_229) (by decide) (by decide) ?_
          show Steps p.tables e below (T33.setTop (mkF m 2 #[.val (.ref a1), .val (.ref x), .val (.int ((Int32.ofNat i) + (1 : Int32))), .val (.int (cs.getD i 0))] [])) _
          exact kt
        refine ⟨_, _, X33, N33, ?_, ?_, pre44⟩
        · rw [e33]; exact K33
        · unfold own_step; rw [if_pos hc24_13, if_neg hc106_15, if_pos hc120_31]; rw [e33]; exact ⟨c34, c35, c36, c37, Fw33, c38, c39, c40, c41, c42, c43⟩
      ·
        have pre45 : ∀ t, Steps p.tables e below (T11.setTop (mkF m 126 #[.val (.ref a1), .val (.ref x), .val (.int (Int32.ofNat i)), .val (.int (cs.getD i 0))] [(.int (69 : Int32)), (.int (cs.getD i 0))])) t → Steps p.tables e below (T0.setTop (mkF m 2 #[.val (.ref a1), .val (.ref x), .val (.int (Int32.ofNat i)), sl] [])) t := by
          intro t kt
          refine pre30 _ ?_
          show Steps p.tables e below (T11.setTop (mkF m 120 #[.val (.ref a1), .val (.ref x), .val (.int (Int32.ofNat i)), .val (.int (cs.getD i 0))] [(.int (101 : Int32)), (.int (cs.getD i 0))])) _
          refine XS.icmpNo X11.here hx rfl (hb hby d11_120) rfl (feq hc120_31).1 ?_
          refine XS.iloadN X11.here hx rfl (hb hby d11_123) rfl ?_
          refine XS.bipush X11.here hx rfl (hb hby d11_124) ?_
          show Steps p.tables e below (T11.setTop (mkF m 126 #[.val (.ref a1), .val (.ref x), .val (.int (Int32.ofNat i)), .val (.int (cs.getD i 0))] [(.int (69 : Int32)), (.int (cs.getD i 0))])) _
          exact kt
        by_cases hc126_46 : (cs.getD i 0) = (69 : Int32)
        ·
          have c47 := ((E_a1.ext E1).ext E4)
          obtain ⟨T48, h48, X48, e48, W48, st48⟩ := putFN X11 hx hZ hown (hw _ (List.mem_of_getElem? (i := 98) rfl)) Via.refl e11 c10 c47 (Or.inl (hw _ (List.mem_of_getElem? (i := 99) rfl))) (hw _ (List.mem_of_getElem? (i := 44) rfl)) (ty := .boolean) (v := (.int (1 : Int32))) (v' := (.int (nar .boolean (1 : Int32)))) (by decide) rfl (fits_nar_bool _) (g := (mkF m 131 #[.val (.ref a1), .val (.ref x), .val (.int (Int32.ofNat i)), .val (.int (cs.getD i 0))] [(.int (1 : Int32)), (.ref a1)])) rfl rfl (hb hby d11_131)
          have Fw48 := c10.same W48
          have K48 := K4.wr W48 (Or.inl (List.mem_of_getElem? (i := 0) rfl))
          have N48 := Fr.snoc X48 N0 g_a1
          have c49 := (c47.wr W48)
          have c50 := (((F_significand.ext E1).ext E4).other W48 (Or.inr (slot_ne (Or.inr (hw _ (List.mem_of_getElem? (i := 51) rfl))) (Or.inl (hw _ (List.mem_of_getElem? (i := 99) rfl))) (by decide) (t := (.object "com/example/reed/reed/engine/Digits")) (t' := .boolean) (by decide) (by decide))))
          have c51 := (((F_exponentDigits.ext E1).ext E4).other W48 (Or.inr (slot_ne (Or.inr (hw _ (List.mem_of_getElem? (i := 53) rfl))) (Or.inl (hw _ (List.mem_of_getElem? (i := 99) rfl))) (by decide) (t := (.object "com/example/reed/reed/engine/Digits")) (t' := .boolean) (by decide) (by decide))))
          have c52 := (((F_inFraction.ext E1).ext E4).other W48 (Or.inr (slot_ne (Or.inl (hw _ (List.mem_of_getElem? (i := 105) rfl))) (Or.inl (hw _ (List.mem_of_getElem? (i := 99) rfl))) (by decide) (t := .boolean) (t' := .boolean) (by decide) (by decide))))
          have c53 := (((F_negative.ext E1).ext E4).other W48 (Or.inr (slot_ne (Or.inl (hw _ (List.mem_of_getElem? (i := 137) rfl))) (Or.inl (hw _ (List.mem_of_getElem? (i := 99) rfl))) (by decide) (t := .boolean) (t' := .boolean) (by decide) (by decide))))
          have c54 := (((F_negativeExponent.ext E1).ext E4).other W48 (Or.inr (slot_ne (Or.inl (hw _ (List.mem_of_getElem? (i := 112) rfl))) (Or.inl (hw _ (List.mem_of_getElem? (i := 99) rfl))) (by decide) (t := .boolean) (t' := .boolean) (by decide) (by decide))))
          have c55 := (((F_nonZero.ext E1).ext E4).other W48 (Or.inr (slot_ne (Or.inl (hw _ (List.mem_of_getElem? (i := 101) rfl))) (Or.inl (hw _ (List.mem_of_getElem? (i := 99) rfl))) (by decide) (t := .boolean) (t' := .boolean) (by decide) (by decide))))
          have c56 := (((F_trailingZeros.ext E1).ext E4).other W48 (Or.inr (slot_ne (Or.inl (hw _ (List.mem_of_getElem? (i := 103) rfl))) (Or.inl (hw _ (List.mem_of_getElem? (i := 99) rfl))) (by decide) (t := .long) (t' := .boolean) (by decide) (by decide))))
          have c57 := (((F_fractionDigits.ext E1).ext E4).other W48 (Or.inr (slot_ne (Or.inl (hw _ (List.mem_of_getElem? (i := 116) rfl))) (Or.inl (hw _ (List.mem_of_getElem? (i := 99) rfl))) (by decide) (t := .long) (t' := .boolean) (by decide) (by decide))))
          have c58 := (((F_exponent.ext E1).ext E4).other W48 (Or.inr (slot_ne (Or.inl (hw _ (List.mem_of_getElem? (i := 114) rfl))) (Or.inl (hw _ (List.mem_of_getElem? (i := 99) rfl))) (by decide) (t := .long) (t' := .boolean) (by decide) (by decide))))
          have pre59 : ∀ t, Steps p.tables e below (T48.setTop (mkF m 2 #[.val (.ref a1), .val (.ref x), .val (.int ((Int32.ofNat i) + (1 : Int32))), .val (.int (cs.getD i 0))] [])) t → Steps p.tables e below (T0.setTop (mkF m 2 #[.val (.ref a1), .val (.ref x), .val (.int (Int32.ofNat i)), sl] [])) t := by
            intro t kt
            refine pre45 _ ?_
            show Steps p.tables e below (T11.setTop (mkF m 126 #[.val (.ref a1), .val (.ref x), .val (.int (Int32.ofNat i)), .val (.int (cs.getD i 0))] [(.int (69 : Int32)), (.int (cs.getD i 0))])) _
            refine XS.icmpNo X11.here hx rfl (hb hby d11_126) rfl (teq hc126_46).2 ?_
            refine XS.aloadN X11.here hx rfl (hb hby d11_129) rfl rfl ?_
            refine XS.iconst X11.here hx rfl (hb hby d11_130) ?_
            show Steps p.tables e below (T11.setTop (mkF m 131 #[.val (.ref a1), .val (.ref x), .val (.int (Int32.ofNat i)), .val (.int (cs.getD i 0))] [(.int (1 : Int32)), (.ref a1)])) _
            refine st48 _ ?_
            show Steps p.tables e below (T48.setTop (mkF m 134 #[.val (.ref a1), .val (.ref x), .val (.int (Int32.ofNat i)), .val (.int (cs.getD i 0))] [])) _
            refine XS.goto X48.here hx rfl (pc0 := 134) (pc' := 226) rfl (hb hby d11_134) (by decide) (by decide) ?_
            refine XS.iinc X48.here hx rfl (hb hby d11_226) rfl (l' := #[.val (.ref a1), .val (.ref x), .val (.int ((Int32.ofNat i) + (1 : Int32))), .val (.int (cs.getD i 0))]) rfl ?_
            refine XS.goto X48.here hx rfl (pc0 := 229) (pc' := 2) rfl (hb hby d11_229) (by decide) (by decide) ?_
            show Steps p.tables e below (T48.setTop (mkF m 2 #[.val (.ref a1), .val (.ref x), .val (.int ((Int32.ofNat i) + (1 : Int32))), .val (.int (cs.getD i 0))] [])) _
            exact kt
          refine ⟨_, _, X48, N48, ?_, ?_, pre59⟩
          · rw [e48]; exact K48
          · unfold own_step; rw [if_pos hc24_13, if_neg hc106_15, if_neg hc120_31, if_pos hc126_46]; rw [e48]; exact ⟨c49, c50, c51, c52, Fw48, c53, c54, c55, c56, c57, c58⟩
        ·
          have pre60 : ∀ t, Steps p.tables e below (T11.setTop (mkF m 140 #[.val (.ref a1), .val (.ref x), .val (.int (Int32.ofNat i)), .val (.int (cs.getD i 0))] [(.int (45 : Int32)), (.int (cs.getD i 0))])) t → Steps p.tables e below (T0.setTop (mkF m 2 #[.val (.ref a1), .val (.ref x), .val (.int (Int32.ofNat i)), sl] [])) t := by
            intro t kt
            refine pre45 _ ?_
            show Steps p.tables e below (T11.setTop (mkF m 126 #[.val (.ref a1), .val (.ref x), .val (.int (Int32.ofNat i)), .val (.int (cs.getD i 0))] [(.int (69 : Int32)), (.int (cs.getD i 0))])) _
            refine XS.icmpYes X11.here hx rfl (pc0 := 126) (pc' := 137) rfl (hb hby d11_126) rfl (feq hc126_46).2 (by decide) (by decide) ?_
            refine XS.iloadN X11.here hx rfl (hb hby d11_137) rfl ?_
            refine XS.bipush X11.here hx rfl (hb hby d11_138) ?_
            show Steps p.tables e below (T11.setTop (mkF m 140 #[.val (.ref a1), .val (.ref x), .val (.int (Int32.ofNat i)), .val (.int (cs.getD i 0))] [(.int (45 : Int32)), (.int (cs.getD i 0))])) _
            exact kt
          by_cases hc140_61 : (cs.getD i 0) = (45 : Int32)
          ·
            have c62 := ((E_a1.ext E1).ext E4)
            have c63 := ((F_negative.ext E1).ext E4)
            obtain ⟨T64, h64, X64, e64, W64, st64⟩ := putFN X11 hx hZ hown (hw _ (List.mem_of_getElem? (i := 136) rfl)) Via.refl e11 c63 c62 (Or.inl (hw _ (List.mem_of_getElem? (i := 137) rfl))) (hw _ (List.mem_of_getElem? (i := 44) rfl)) (ty := .boolean) (v := (.int (1 : Int32))) (v' := (.int (nar .boolean (1 : Int32)))) (by decide) rfl (fits_nar_bool _) (g := (mkF m 145 #[.val (.ref a1), .val (.ref x), .val (.int (Int32.ofNat i)), .val (.int (cs.getD i 0))] [(.int (1 : Int32)), (.ref a1)])) rfl rfl (hb hby d11_145)
            have Fw64 := c63.same W64
            have K64 := K4.wr W64 (Or.inl (List.mem_of_getElem? (i := 0) rfl))
            have N64 := Fr.snoc X64 N0 g_a1
            have c65 := (c62.wr W64)
            have c66 := (((F_significand.ext E1).ext E4).other W64 (Or.inr (slot_ne (Or.inr (hw _ (List.mem_of_getElem? (i := 51) rfl))) (Or.inl (hw _ (List.mem_of_getElem? (i := 137) rfl))) (by decide) (t := (.object "com/example/reed/reed/engine/Digits")) (t' := .boolean) (by decide) (by decide))))
            have c67 := (((F_exponentDigits.ext E1).ext E4).other W64 (Or.inr (slot_ne (Or.inr (hw _ (List.mem_of_getElem? (i := 53) rfl))) (Or.inl (hw _ (List.mem_of_getElem? (i := 137) rfl))) (by decide) (t := (.object "com/example/reed/reed/engine/Digits")) (t' := .boolean) (by decide) (by decide))))
            have c68 := (((F_inFraction.ext E1).ext E4).other W64 (Or.inr (slot_ne (Or.inl (hw _ (List.mem_of_getElem? (i := 105) rfl))) (Or.inl (hw _ (List.mem_of_getElem? (i := 137) rfl))) (by decide) (t := .boolean) (t' := .boolean) (by decide) (by decide))))
            have c69 := (c10.other W64 (Or.inr (slot_ne (Or.inl (hw _ (List.mem_of_getElem? (i := 99) rfl))) (Or.inl (hw _ (List.mem_of_getElem? (i := 137) rfl))) (by decide) (t := .boolean) (t' := .boolean) (by decide) (by decide))))
            have c70 := (((F_negativeExponent.ext E1).ext E4).other W64 (Or.inr (slot_ne (Or.inl (hw _ (List.mem_of_getElem? (i := 112) rfl))) (Or.inl (hw _ (List.mem_of_getElem? (i := 137) rfl))) (by decide) (t := .boolean) (t' := .boolean) (by decide) (by decide))))
            have c71 := (((F_nonZero.ext E1).ext E4).other W64 (Or.inr (slot_ne (Or.inl (hw _ (List.mem_of_getElem? (i := 101) rfl))) (Or.inl (hw _ (List.mem_of_getElem? (i := 137) rfl))) (by decide) (t := .boolean) (t' := .boolean) (by decide) (by decide))))
            have c72 := (((F_trailingZeros.ext E1).ext E4).other W64 (Or.inr (slot_ne (Or.inl (hw _ (List.mem_of_getElem? (i := 103) rfl))) (Or.inl (hw _ (List.mem_of_getElem? (i := 137) rfl))) (by decide) (t := .long) (t' := .boolean) (by decide) (by decide))))
            have c73 := (((F_fractionDigits.ext E1).ext E4).other W64 (Or.inr (slot_ne (Or.inl (hw _ (List.mem_of_getElem? (i := 116) rfl))) (Or.inl (hw _ (List.mem_of_getElem? (i := 137) rfl))) (by decide) (t := .long) (t' := .boolean) (by decide) (by decide))))
            have c74 := (((F_exponent.ext E1).ext E4).other W64 (Or.inr (slot_ne (Or.inl (hw _ (List.mem_of_getElem? (i := 114) rfl))) (Or.inl (hw _ (List.mem_of_getElem? (i := 137) rfl))) (by decide) (t := .long) (t' := .boolean) (by decide) (by decide))))
            have pre75 : ∀ t, Steps p.tables e below (T64.setTop (mkF m 2 #[.val (.ref a1), .val (.ref x), .val (.int ((Int32.ofNat i) + (1 : Int32))), .val (.int (cs.getD i 0))] [])) t → Steps p.tables e below (T0.setTop (mkF m 2 #[.val (.ref a1), .val (.ref x), .val (.int (Int32.ofNat i)), sl] [])) t := by
              intro t kt
              refine pre60 _ ?_
              show Steps p.tables e below (T11.setTop (mkF m 140 #[.val (.ref a1), .val (.ref x), .val (.int (Int32.ofNat i)), .val (.int (cs.getD i 0))] [(.int (45 : Int32)), (.int (cs.getD i 0))])) _
              refine XS.icmpNo X11.here hx rfl (hb hby d11_140) rfl (teq hc140_61).2 ?_
              refine XS.aloadN X11.here hx rfl (hb hby d11_143) rfl rfl ?_
              refine XS.iconst X11.here hx rfl (hb hby d11_144) ?_
              show Steps p.tables e below (T11.setTop (mkF m 145 #[.val (.ref a1), .val (.ref x), .val (.int (Int32.ofNat i)), .val (.int (cs.getD i 0))] [(.int (1 : Int32)), (.ref a1)])) _
              refine st64 _ ?_
              show Steps p.tables e below (T64.setTop (mkF m 148 #[.val (.ref a1), .val (.ref x), .val (.int (Int32.ofNat i)), .val (.int (cs.getD i 0))] [])) _
              refine XS.goto X64.here hx rfl (pc0 := 148) (pc' := 226) rfl (hb hby d11_148) (by decide) (by decide) ?_
              refine XS.iinc X64.here hx rfl (hb hby d11_226) rfl (l' := #[.val (.ref a1), .val (.ref x), .val (.int ((Int32.ofNat i) + (1 : Int32))), .val (.int (cs.getD i 0))]) rfl ?_
              refine XS.goto X64.here hx rfl (pc0 := 229) (pc' := 2) rfl (hb hby d11_229) (by decide) (by decide) ?_
              show Steps p.tables e below (T64.setTop (mkF m 2 #[.val (.ref a1), .val (.ref x), .val (.int ((Int32.ofNat i) + (1 : Int32))), .val (.int (cs.getD i 0))] [])) _
              exact kt
            refine ⟨_, _, X64, N64, ?_, ?_, pre75⟩
            · rw [e64]; exact K64
            · unfold own_step; rw [if_pos hc24_13, if_neg hc106_15, if_neg hc120_31, if_neg hc126_46, if_pos hc140_61]; rw [e64]; exact ⟨c65, c66, c67, c68, c69, Fw64, c70, c71, c72, c73, c74⟩
          ·
            have pre76 : ∀ t, Steps p.tables e below (T11.setTop (mkF m 154 #[.val (.ref a1), .val (.ref x), .val (.int (Int32.ofNat i)), .val (.int (cs.getD i 0))] [(.int (48 : Int32)), (.int (cs.getD i 0))])) t → Steps p.tables e below (T0.setTop (mkF m 2 #[.val (.ref a1), .val (.ref x), .val (.int (Int32.ofNat i)), sl] [])) t := by
              intro t kt
              refine pre60 _ ?_
              show Steps p.tables e below (T11.setTop (mkF m 140 #[.val (.ref a1), .val (.ref x), .val (.int (Int32.ofNat i)), .val (.int (cs.getD i 0))] [(.int (45 : Int32)), (.int (cs.getD i 0))])) _
              refine XS.icmpYes X11.here hx rfl (pc0 := 140) (pc' := 151) rfl (hb hby d11_140) rfl (feq hc140_61).2 (by decide) (by decide) ?_
              refine XS.iloadN X11.here hx rfl (hb hby d11_151) rfl ?_
              refine XS.bipush X11.here hx rfl (hb hby d11_152) ?_
              show Steps p.tables e below (T11.setTop (mkF m 154 #[.val (.ref a1), .val (.ref x), .val (.int (Int32.ofNat i)), .val (.int (cs.getD i 0))] [(.int (48 : Int32)), (.int (cs.getD i 0))])) _
              exact kt
            by_cases hc154_77 : (cs.getD i 0) = (48 : Int32)
            ·
              have c78 := ((F_trailingZeros.ext E1).ext E4)
              obtain ⟨T79, X79, e79, st79⟩ := getF X11 hx hZ hown (host := "") (Or.inl (hw _ (List.mem_of_getElem? (i := 102) rfl))) Via.refl e11 c78 (g := (mkF m 159 #[.val (.ref a1), .val (.ref x), .val (.int (Int32.ofNat i)), .val (.int (cs.getD i 0))] [(.ref a1), (.ref a1)])) rfl rfl (hb hby d11_159)
              have c80 := ((E_a1.ext E1).ext E4)
              obtain ⟨T81, h81, X81, e81, W81, st81⟩ := putF X79 hx hZ hown (host := "") (Or.inl (hw _ (List.mem_of_getElem? (i := 102) rfl))) Via.refl e79 c78 c80 (Or.inl (hw _ (List.mem_of_getElem? (i := 103) rfl))) (hw _ (List.mem_of_getElem? (i := 44) rfl)) (ty := .long) (by decide) rfl rfl (g := (mkF m 164 #[.val (.ref a1), .val (.ref x), .val (.int (Int32.ofNat i)), .val (.int (cs.getD i 0))] [(.long (st.tz + (1 : Int64))), (.ref a1)])) rfl rfl (hb hby d11_164)
              have Fw81 := c78.same W81
              have K81 := K4.wr W81 (Or.inl (List.mem_of_getElem? (i := 0) rfl))
              have N81 := Fr.snoc X81 N0 g_a1
              have c82 := (((F_inFraction.ext E1).ext E4).other W81 (Or.inr (slot_ne (Or.inl (hw _ (List.mem_of_getElem? (i := 105) rfl))) (Or.inl (hw _ (List.mem_of_getElem? (i := 103) rfl))) (by decide) (t := .boolean) (t' := .long) (by decide) (by decide))))
              obtain ⟨T83, X83, e83, st83⟩ := getF X81 hx hZ hown (host := "") (Or.inl (hw _ (List.mem_of_getElem? (i := 104) rfl))) Via.refl e81 c82 (g := (mkF m 210 #[.val (.ref a1), .val (.ref x), .val (.int (Int32.ofNat i)), .val (.int (cs.getD i 0))] [(.ref a1)])) rfl rfl (hb hby d11_210)
              have pre84 : ∀ t, Steps p.tables e below (T83.setTop (mkF m 213 #[.val (.ref a1), .val (.ref x), .val (.int (Int32.ofNat i)), .val (.int (cs.getD i 0))] [(.int st.fr)])) t → Steps p.tables e below (T0.setTop (mkF m 2 #[.val (.ref a1), .val (.ref x), .val (.int (Int32.ofNat i)), sl] [])) t := by
                intro t kt
                refine pre76 _ ?_
                show Steps p.tables e below (T11.setTop (mkF m 154 #[.val (.ref a1), .val (.ref x), .val (.int (Int32.ofNat i)), .val (.int (cs.getD i 0))] [(.int (48 : Int32)), (.int (cs.getD i 0))])) _
                refine XS.icmpNo X11.here hx rfl (hb hby d11_154) rfl (teq hc154_77).2 ?_
                refine XS.aloadN X11.here hx rfl (hb hby d11_157) rfl rfl ?_
                refine XS.dup X11.here hx rfl (hb hby d11_158) rfl rfl ?_
                show Steps p.tables e below (T11.setTop (mkF m 159 #[.val (.ref a1), .val (.ref x), .val (.int (Int32.ofNat i)), .val (.int (cs.getD i 0))] [(.ref a1), (.ref a1)])) _
                refine st79 _ ?_
                show Steps p.tables e below (T79.setTop (mkF m 162 #[.val (.ref a1), .val (.ref x), .val (.int (Int32.ofNat i)), .val (.int (cs.getD i 0))] [(.long st.tz), (.ref a1)])) _
                refine XS.lconst X79.here hx rfl (hb hby d11_162) ?_
                refine XS.ladd X79.here hx rfl (hb hby d11_163) rfl ?_
                show Steps p.tables e below (T79.setTop (mkF m 164 #[.val (.ref a1), .val (.ref x), .val (.int (Int32.ofNat i)), .val (.int (cs.getD i 0))] [(.long (st.tz + (1 : Int64))), (.ref a1)])) _
                refine st81 _ ?_
                show Steps p.tables e below (T81.setTop (mkF m 167 #[.val (.ref a1), .val (.ref x), .val (.int (Int32.ofNat i)), .val (.int (cs.getD i 0))] [])) _
                refine XS.goto X81.here hx rfl (pc0 := 167) (pc' := 209) rfl (hb hby d11_167) (by decide) (by decide) ?_
                refine XS.aloadN X81.here hx rfl (hb hby d11_209) rfl rfl ?_
                show Steps p.tables e below (T81.setTop (mkF m 210 #[.val (.ref a1), .val (.ref x), .val (.int (Int32.ofNat i)), .val (.int (cs.getD i 0))] [(.ref a1)])) _
                refine st83 _ ?_
                show Steps p.tables e below (T83.setTop (mkF m 213 #[.val (.ref a1), .val (.ref x), .val (.int (Int32.ofNat i)), .val (.int (cs.getD i 0))] [(.int st.fr)])) _
                exact kt
              by_cases hc213_85 : st.fr = (0 : Int32)
              ·
                have c86 := (c80.wr W81)
                have c87 := (((F_significand.ext E1).ext E4).other W81 (Or.inr (slot_ne (Or.inr (hw _ (List.mem_of_getElem? (i := 51) rfl))) (Or.inl (hw _ (List.mem_of_getElem? (i := 103) rfl))) (by decide) (t := (.object "com/example/reed/reed/engine/Digits")) (t' := .long) (by decide) (by decide))))
                have c88 := (((F_exponentDigits.ext E1).ext E4).other W81 (Or.inr (slot_ne (Or.inr (hw _ (List.mem_of_getElem? (i := 53) rfl))) (Or.inl (hw _ (List.mem_of_getElem? (i := 103) rfl))) (by decide) (t := (.object "com/example/reed/reed/engine/Digits")) (t' := .long) (by decide) (by decide))))
                have c89 := (c10.other W81 (Or.inr (slot_ne (Or.inl (hw _ (List.mem_of_getElem? (i := 99) rfl))) (Or.inl (hw _ (List.mem_of_getElem? (i := 103) rfl))) (by decide) (t := .boolean) (t' := .long) (by decide) (by decide))))
                have c90 := (((F_negative.ext E1).ext E4).other W81 (Or.inr (slot_ne (Or.inl (hw _ (List.mem_of_getElem? (i := 137) rfl))) (Or.inl (hw _ (List.mem_of_getElem? (i := 103) rfl))) (by decide) (t := .boolean) (t' := .long) (by decide) (by decide))))
                have c91 := (((F_negativeExponent.ext E1).ext E4).other W81 (Or.inr (slot_ne (Or.inl (hw _ (List.mem_of_getElem? (i := 112) rfl))) (Or.inl (hw _ (List.mem_of_getElem? (i := 103) rfl))) (by decide) (t := .boolean) (t' := .long) (by decide) (by decide))))
                have c92 := (((F_nonZero.ext E1).ext E4).other W81 (Or.inr (slot_ne (Or.inl (hw _ (List.mem_of_getElem? (i := 101) rfl))) (Or.inl (hw _ (List.mem_of_getElem? (i := 103) rfl))) (by decide) (t := .boolean) (t' := .long) (by decide) (by decide))))
                have c93 := (((F_fractionDigits.ext E1).ext E4).other W81 (Or.inr (slot_ne (Or.inl (hw _ (List.mem_of_getElem? (i := 116) rfl))) (Or.inl (hw _ (List.mem_of_getElem? (i := 103) rfl))) (by decide) (t := .long) (t' := .long) (by decide) (by decide))))
                have c94 := (((F_exponent.ext E1).ext E4).other W81 (Or.inr (slot_ne (Or.inl (hw _ (List.mem_of_getElem? (i := 114) rfl))) (Or.inl (hw _ (List.mem_of_getElem? (i := 103) rfl))) (by decide) (t := .long) (t' := .long) (by decide) (by decide))))
                have pre95 : ∀ t, Steps p.tables e below (T83.setTop (mkF m 2 #[.val (.ref a1), .val (.ref x), .val (.int ((Int32.ofNat i) + (1 : Int32))), .val (.int (cs.getD i 0))] [])) t → Steps p.tables e below (T0.setTop (mkF m 2 #[.val (.ref a1), .val (.ref x), .val (.int (Int32.ofNat i)), sl] [])) t := by
                  intro t kt
                  refine pre84 _ ?_
                  show Steps p.tables e below (T83.setTop (mkF m 213 #[.val (.ref a1), .val (.ref x), .val (.int (Int32.ofNat i)), .val (.int (cs.getD i 0))] [(.int st.fr)])) _
                  refine XS.ifYes X83.here hx rfl (pc0 := 213) (pc' := 226) rfl (hb hby d11_213) rfl ((if0 _ _).trans (teq hc213_85).1) (by decide) (by decide) ?_
                  refine XS.iinc X83.here hx rfl (hb hby d11_226) rfl (l' := #[.val (.ref a1), .val (.ref x), .val (.int ((Int32.ofNat i) + (1 : Int32))), .val (.int (cs.getD i 0))]) rfl ?_
                  refine XS.goto X83.here hx rfl (pc0 := 229) (pc' := 2) rfl (hb hby d11_229) (by decide) (by decide) ?_
                  show Steps p.tables e below (T83.setTop (mkF m 2 #[.val (.ref a1), .val (.ref x), .val (.int ((Int32.ofNat i) + (1 : Int32))), .val (.int (cs.getD i 0))] [])) _
                  exact kt
                refine ⟨_, _, X83, N81, ?_, ?_, pre95⟩
                · rw [e83]; exact K81
                · unfold own_step; rw [if_pos hc24_13, if_neg hc106_15, if_neg hc120_31, if_neg hc126_46, if_neg hc140_61, if_pos hc154_77, if_pos hc213_85]; rw [e83]; exact ⟨c86, c87, c88, c82, c89, c90, c91, c92, Fw81, c93, c94⟩
              ·
                have c96 := (((F_fractionDigits.ext E1).ext E4).other W81 (Or.inr (slot_ne (Or.inl (hw _ (List.mem_of_getElem? (i := 116) rfl))) (Or.inl (hw _ (List.mem_of_getElem? (i := 103) rfl))) (by decide) (t := .long) (t' := .long) (by decide) (by decide))))
                obtain ⟨T97, X97, e97, st97⟩ := getF X83 hx hZ hown (host := "") (Or.inl (hw _ (List.mem_of_getElem? (i := 115) rfl))) Via.refl e83 c96 (g := (mkF m 218 #[.val (.ref a1), .val (.ref x), .val (.int (Int32.ofNat i)), .val (.int (cs.getD i 0))] [(.ref a1), (.ref a1)])) rfl rfl (hb hby d11_218)
                have c98 := (c80.wr W81)
                obtain ⟨T99, h99, X99, e99, W99, st99⟩ := putF X97 hx hZ hown (host := "") (Or.inl (hw _ (List.mem_of_getElem? (i := 115) rfl))) Via.refl e97 c96 c98 (Or.inl (hw _ (List.mem_of_getElem? (i := 116) rfl))) (hw _ (List.mem_of_getElem? (i := 44) rfl)) (ty := .long) (by decide) rfl rfl (g := (mkF m 223 #[.val (.ref a1), .val (.ref x), .val (.int (Int32.ofNat i)), .val (.int (cs.getD i 0))] [(.long (st.fd + (1 : Int64))), (.ref a1)])) rfl rfl (hb hby d11_223)
                have Fw99 := c96.same W99
                have K99 := K81.wr W99 (Or.inl (List.mem_of_getElem? (i := 0) rfl))
                have N99 := Fr.snoc X99 N81 g_a1
                have c100 := (c98.wr W99)
                have c101 := ((((F_significand.ext E1).ext E4).other W81 (Or.inr (slot_ne (Or.inr (hw _ (List.mem_of_getElem? (i := 51) rfl))) (Or.inl (hw _ (List.mem_of_getElem? (i := 103) rfl))) (by decide) (t := (.object "com/example/reed/reed/engine/Digits")) (t' := .long) (by decide) (by decide)))).other W99 (Or.inr (slot_ne (Or.inr (hw _ (List.mem_of_getElem? (i := 51) rfl))) (Or.inl (hw _ (List.mem_of_getElem? (i := 116) rfl))) (by decide) (t := (.object "com/example/reed/reed/engine/Digits")) (t' := .long) (by decide) (by decide))))
                have c102 := ((((F_exponentDigits.ext E1).ext E4).other W81 (Or.inr (slot_ne (Or.inr (hw _ (List.mem_of_getElem? (i := 53) rfl))) (Or.inl (hw _ (List.mem_of_getElem? (i := 103) rfl))) (by decide) (t := (.object "com/example/reed/reed/engine/Digits")) (t' := .long) (by decide) (by decide)))).other W99 (Or.inr (slot_ne (Or.inr (hw _ (List.mem_of_getElem? (i := 53) rfl))) (Or.inl (hw _ (List.mem_of_getElem? (i := 116) rfl))) (by decide) (t := (.object "com/example/reed/reed/engine/Digits")) (t' := .long) (by decide) (by decide))))
                have c103 := (c82.other W99 (Or.inr (slot_ne (Or.inl (hw _ (List.mem_of_getElem? (i := 105) rfl))) (Or.inl (hw _ (List.mem_of_getElem? (i := 116) rfl))) (by decide) (t := .boolean) (t' := .long) (by decide) (by decide))))
                have c104 := ((c10.other W81 (Or.inr (slot_ne (Or.inl (hw _ (List.mem_of_getElem? (i := 99) rfl))) (Or.inl (hw _ (List.mem_of_getElem? (i := 103) rfl))) (by decide) (t := .boolean) (t' := .long) (by decide) (by decide)))).other W99 (Or.inr (slot_ne (Or.inl (hw _ (List.mem_of_getElem? (i := 99) rfl))) (Or.inl (hw _ (List.mem_of_getElem? (i := 116) rfl))) (by decide) (t := .boolean) (t' := .long) (by decide) (by decide))))
                have c105 := ((((F_negative.ext E1).ext E4).other W81 (Or.inr (slot_ne (Or.inl (hw _ (List.mem_of_getElem? (i := 137) rfl))) (Or.inl (hw _ (List.mem_of_getElem? (i := 103) rfl))) (by decide) (t := .boolean) (t' := .long) (by decide) (by decide)))).other W99 (Or.inr (slot_ne (Or.inl (hw _ (List.mem_of_getElem? (i := 137) rfl))) (Or.inl (hw _ (List.mem_of_getElem? (i := 116) rfl))) (by decide) (t := .boolean) (t' := .long) (by decide) (by decide))))
                have c106 := ((((F_negativeExponent.ext E1).ext E4).other W81 (Or.inr (slot_ne (Or.inl (hw _ (List.mem_of_getElem? (i := 112) rfl))) (Or.inl (hw _ (List.mem_of_getElem? (i := 103) rfl))) (by decide) (t := .boolean) (t' := .long) (by decide) (by decide)))).other W99 (Or.inr (slot_ne (Or.inl (hw _ (List.mem_of_getElem? (i := 112) rfl))) (Or.inl (hw _ (List.mem_of_getElem? (i := 116) rfl))) (by decide) (t := .boolean) (t' := .long) (by decide) (by decide))))
                have c107 := ((((F_nonZero.ext E1).ext E4).other W81 (Or.inr (slot_ne (Or.inl (hw _ (List.mem_of_getElem? (i := 101) rfl))) (Or.inl (hw _ (List.mem_of_getElem? (i := 103) rfl))) (by decide) (t := .boolean) (t' := .long) (by decide) (by decide)))).other W99 (Or.inr (slot_ne (Or.inl (hw _ (List.mem_of_getElem? (i := 101) rfl))) (Or.inl (hw _ (List.mem_of_getElem? (i := 116) rfl))) (by decide) (t := .boolean) (t' := .long) (by decide) (by decide))))
                have c108 := (Fw81.other W99 (Or.inr (slot_ne (Or.inl (hw _ (List.mem_of_getElem? (i := 103) rfl))) (Or.inl (hw _ (List.mem_of_getElem? (i := 116) rfl))) (by decide) (t := .long) (t' := .long) (by decide) (by decide))))
                have c109 := ((((F_exponent.ext E1).ext E4).other W81 (Or.inr (slot_ne (Or.inl (hw _ (List.mem_of_getElem? (i := 114) rfl))) (Or.inl (hw _ (List.mem_of_getElem? (i := 103) rfl))) (by decide) (t := .long) (t' := .long) (by decide) (by decide)))).other W99 (Or.inr (slot_ne (Or.inl (hw _ (List.mem_of_getElem? (i := 114) rfl))) (Or.inl (hw _ (List.mem_of_getElem? (i := 116) rfl))) (by decide) (t := .long) (t' := .long) (by decide) (by decide))))
                have pre110 : ∀ t, Steps p.tables e below (T99.setTop (mkF m 2 #[.val (.ref a1), .val (.ref x), .val (.int ((Int32.ofNat i) + (1 : Int32))), .val (.int (cs.getD i 0))] [])) t → Steps p.tables e below (T0.setTop (mkF m 2 #[.val (.ref a1), .val (.ref x), .val (.int (Int32.ofNat i)), sl] [])) t := by
                  intro t kt
                  refine pre84 _ ?_
                  show Steps p.tables e below (T83.setTop (mkF m 213 #[.val (.ref a1), .val (.ref x), .val (.int (Int32.ofNat i)), .val (.int (cs.getD i 0))] [(.int st.fr)])) _
                  refine XS.ifNo X83.here hx rfl (hb hby d11_213) rfl ((if0 _ _).trans (feq hc213_85).1) ?_
                  refine XS.aloadN X83.here hx rfl (hb hby d11_216) rfl rfl ?_
                  refine XS.dup X83.here hx rfl (hb hby d11_217) rfl rfl ?_
                  show Steps p.tables e below (T83.setTop (mkF m 218 #[.val (.ref a1), .val (.ref x), .val (.int (Int32.ofNat i)), .val (.int (cs.getD i 0))] [(.ref a1), (.ref a1)])) _
                  refine st97 _ ?_
                  show Steps p.tables e below (T97.setTop (mkF m 221 #[.val (.ref a1), .val (.ref x), .val (.int (Int32.ofNat i)), .val (.int (cs.getD i 0))] [(.long st.fd), (.ref a1)])) _
                  refine XS.lconst X97.here hx rfl (hb hby d11_221) ?_
                  refine XS.ladd X97.here hx rfl (hb hby d11_222) rfl ?_
                  show Steps p.tables e below (T97.setTop (mkF m 223 #[.val (.ref a1), .val (.ref x), .val (.int (Int32.ofNat i)), .val (.int (cs.getD i 0))] [(.long (st.fd + (1 : Int64))), (.ref a1)])) _
                  refine st99 _ ?_
                  show Steps p.tables e below (T99.setTop (mkF m 226 #[.val (.ref a1), .val (.ref x), .val (.int (Int32.ofNat i)), .val (.int (cs.getD i 0))] [])) _
                  refine XS.iinc X99.here hx rfl (hb hby d11_226) rfl (l' := #[.val (.ref a1), .val (.ref x), .val (.int ((Int32.ofNat i) + (1 : Int32))), .val (.int (cs.getD i 0))]) rfl ?_
                  refine XS.goto X99.here hx rfl (pc0 := 229) (pc' := 2) rfl (hb hby d11_229) (by decide) (by decide) ?_
                  show Steps p.tables e below (T99.setTop (mkF m 2 #[.val (.ref a1), .val (.ref x), .val (.int ((Int32.ofNat i) + (1 : Int32))), .val (.int (cs.getD i 0))] [])) _
                  exact kt
                refine ⟨_, _, X99, N99, ?_, ?_, pre110⟩
                · rw [e99]; exact K99
                · unfold own_step; rw [if_pos hc24_13, if_neg hc106_15, if_neg hc120_31, if_neg hc126_46, if_neg hc140_61, if_pos hc154_77, if_neg hc213_85]; rw [e99]; exact ⟨c100, c101, c102, c103, c104, c105, c106, c107, c108, Fw99, c109⟩
            ·
              have c111 := ((F_significand.ext E1).ext E4)
              obtain ⟨T112, X112, e112, st112⟩ := getF X11 hx hZ hown (host := "") (Or.inl (hw _ (List.mem_of_getElem? (i := 50) rfl))) Via.refl e11 c111 (g := (mkF m 171 #[.val (.ref a1), .val (.ref x), .val (.int (Int32.ofNat i)), .val (.int (cs.getD i 0))] [(.ref a1)])) rfl rfl (hb hby d11_171)
              have c113 := ((E_a1.ext E1).ext E4)
              have c114 := ((F_nonZero.ext E1).ext E4)
              obtain ⟨T115, h115, X115, e115, W115, st115⟩ := putFN X112 hx hZ hown (hw _ (List.mem_of_getElem? (i := 100) rfl)) Via.refl e112 c114 c113 (Or.inl (hw _ (List.mem_of_getElem? (i := 101) rfl))) (hw _ (List.mem_of_getElem? (i := 44) rfl)) (ty := .boolean) (v := (.int (1 : Int32))) (v' := (.int (nar .boolean (1 : Int32)))) (by decide) rfl (fits_nar_bool _) (g := (mkF m 201 #[.val (.ref a1), .val (.ref x), .val (.int (Int32.ofNat i)), .val (.int (cs.getD i 0))] [(.int (1 : Int32)), (.ref a1)])) rfl rfl (hb hby d11_201)
              have Fw115 := c114.same W115
              have K115 := K4.wr W115 (Or.inl (List.mem_of_getElem? (i := 0) rfl))
              have N115 := Fr.snoc X115 N0 g_a1
              have c116 := (c113.wr W115)
              have c117 := (((F_trailingZeros.ext E1).ext E4).other W115 (Or.inr (slot_ne (Or.inl (hw _ (List.mem_of_getElem? (i := 103) rfl))) (Or.inl (hw _ (List.mem_of_getElem? (i := 101) rfl))) (by decide) (t := .long) (t' := .boolean) (by decide) (by decide))))
              obtain ⟨T118, h118, X118, e118, W118, st118⟩ := putF X115 hx hZ hown (host := "") (Or.inl (hw _ (List.mem_of_getElem? (i := 102) rfl))) Via.refl e115 c117 c116 (Or.inl (hw _ (List.mem_of_getElem? (i := 103) rfl))) (hw _ (List.mem_of_getElem? (i := 44) rfl)) (ty := .long) (by decide) rfl rfl (g := (mkF m 206 #[.val (.ref a1), .val (.ref x), .val (.int (Int32.ofNat i)), .val (.int (cs.getD i 0))] [(.long (0 : Int64)), (.ref a1)])) rfl rfl (hb hby d11_206)
              have Fw118 := c117.same W118
              have K118 := K115.wr W118 (Or.inl (List.mem_of_getElem? (i := 0) rfl))
              have N118 := Fr.snoc X118 N115 g_a1
              have c119 := ((((F_inFraction.ext E1).ext E4).other W115 (Or.inr (slot_ne (Or.inl (hw _ (List.mem_of_getElem? (i := 105) rfl))) (Or.inl (hw _ (List.mem_of_getElem? (i := 101) rfl))) (by decide) (t := .boolean) (t' := .boolean) (by decide) (by decide)))).other W118 (Or.inr (slot_ne (Or.inl (hw _ (List.mem_of_getElem? (i := 105) rfl))) (Or.inl (hw _ (List.mem_of_getElem? (i := 103) rfl))) (by decide) (t := .boolean) (t' := .long) (by decide) (by decide))))
              obtain ⟨T120, X120, e120, st120⟩ := getF X118 hx hZ hown (host := "") (Or.inl (hw _ (List.mem_of_getElem? (i := 104) rfl))) Via.refl e118 c119 (g := (mkF m 210 #[.val (.ref a1), .val (.ref x), .val (.int (Int32.ofNat i)), .val (.int (cs.getD i 0))] [(.ref a1)])) rfl rfl (hb hby d11_210)
              have pre121 : ∀ t, Steps p.tables e below (T120.setTop (mkF m 213 #[.val (.ref a1), .val (.ref x), .val (.int (Int32.ofNat i)), .val (.int (cs.getD i 0))] [(.int st.fr)])) t → Steps p.tables e below (T0.setTop (mkF m 2 #[.val (.ref a1), .val (.ref x), .val (.int (Int32.ofNat i)), sl] [])) t := by
                intro t kt
                refine pre76 _ ?_
                show Steps p.tables e below (T11.setTop (mkF m 154 #[.val (.ref a1), .val (.ref x), .val (.int (Int32.ofNat i)), .val (.int (cs.getD i 0))] [(.int (48 : Int32)), (.int (cs.getD i 0))])) _
                refine XS.icmpYes X11.here hx rfl (pc0 := 154) (pc' := 170) rfl (hb hby d11_154) rfl (feq hc154_77).2 (by decide) (by decide) ?_
                refine XS.aloadN X11.here hx rfl (hb hby d11_170) rfl rfl ?_
                show Steps p.tables e below (T11.setTop (mkF m 171 #[.val (.ref a1), .val (.ref x), .val (.int (Int32.ofNat i)), .val (.int (cs.getD i 0))] [(.ref a1)])) _
                refine st112 _ ?_
                show Steps p.tables e below (T112.setTop (mkF m 174 #[.val (.ref a1), .val (.ref x), .val (.int (Int32.ofNat i)), .val (.int (cs.getD i 0))] [.null])) _
                refine XS.ifnullYes X112.here hx rfl (pc0 := 174) (pc' := 199) rfl (hb hby d11_174) rfl (by decide) (by decide) ?_
                refine XS.aloadN X112.here hx rfl (hb hby d11_199) rfl rfl ?_
                refine XS.iconst X112.here hx rfl (hb hby d11_200) ?_
                show Steps p.tables e below (T112.setTop (mkF m 201 #[.val (.ref a1), .val (.ref x), .val (.int (Int32.ofNat i)), .val (.int (cs.getD i 0))] [(.int (1 : Int32)), (.ref a1)])) _
                refine st115 _ ?_
                show Steps p.tables e below (T115.setTop (mkF m 204 #[.val (.ref a1), .val (.ref x), .val (.int (Int32.ofNat i)), .val (.int (cs.getD i 0))] [])) _
                refine XS.aloadN X115.here hx rfl (hb hby d11_204) rfl rfl ?_
                refine XS.lconst X115.here hx rfl (hb hby d11_205) ?_
                show Steps p.tables e below (T115.setTop (mkF m 206 #[.val (.ref a1), .val (.ref x), .val (.int (Int32.ofNat i)), .val (.int (cs.getD i 0))] [(.long (0 : Int64)), (.ref a1)])) _
                refine st118 _ ?_
                show Steps p.tables e below (T118.setTop (mkF m 209 #[.val (.ref a1), .val (.ref x), .val (.int (Int32.ofNat i)), .val (.int (cs.getD i 0))] [])) _
                refine XS.aloadN X118.here hx rfl (hb hby d11_209) rfl rfl ?_
                show Steps p.tables e below (T118.setTop (mkF m 210 #[.val (.ref a1), .val (.ref x), .val (.int (Int32.ofNat i)), .val (.int (cs.getD i 0))] [(.ref a1)])) _
                refine st120 _ ?_
                show Steps p.tables e below (T120.setTop (mkF m 213 #[.val (.ref a1), .val (.ref x), .val (.int (Int32.ofNat i)), .val (.int (cs.getD i 0))] [(.int st.fr)])) _
                exact kt
              by_cases hc213_122 : st.fr = (0 : Int32)
              ·
                have c123 := (c116.wr W118)
                have c124 := ((c111.other W115 (Or.inr (slot_ne (Or.inr (hw _ (List.mem_of_getElem? (i := 51) rfl))) (Or.inl (hw _ (List.mem_of_getElem? (i := 101) rfl))) (by decide) (t := (.object "com/example/reed/reed/engine/Digits")) (t' := .boolean) (by decide) (by decide)))).other W118 (Or.inr (slot_ne (Or.inr (hw _ (List.mem_of_getElem? (i := 51) rfl))) (Or.inl (hw _ (List.mem_of_getElem? (i := 103) rfl))) (by decide) (t := (.object "com/example/reed/reed/engine/Digits")) (t' := .long) (by decide) (by decide))))
                have c125 := ((((F_exponentDigits.ext E1).ext E4).other W115 (Or.inr (slot_ne (Or.inr (hw _ (List.mem_of_getElem? (i := 53) rfl))) (Or.inl (hw _ (List.mem_of_getElem? (i := 101) rfl))) (by decide) (t := (.object "com/example/reed/reed/engine/Digits")) (t' := .boolean) (by decide) (by decide)))).other W118 (Or.inr (slot_ne (Or.inr (hw _ (List.mem_of_getElem? (i := 53) rfl))) (Or.inl (hw _ (List.mem_of_getElem? (i := 103) rfl))) (by decide) (t := (.object "com/example/reed/reed/engine/Digits")) (t' := .long) (by decide) (by decide))))
                have c126 := ((c10.other W115 (Or.inr (slot_ne (Or.inl (hw _ (List.mem_of_getElem? (i := 99) rfl))) (Or.inl (hw _ (List.mem_of_getElem? (i := 101) rfl))) (by decide) (t := .boolean) (t' := .boolean) (by decide) (by decide)))).other W118 (Or.inr (slot_ne (Or.inl (hw _ (List.mem_of_getElem? (i := 99) rfl))) (Or.inl (hw _ (List.mem_of_getElem? (i := 103) rfl))) (by decide) (t := .boolean) (t' := .long) (by decide) (by decide))))
                have c127 := ((((F_negative.ext E1).ext E4).other W115 (Or.inr (slot_ne (Or.inl (hw _ (List.mem_of_getElem? (i := 137) rfl))) (Or.inl (hw _ (List.mem_of_getElem? (i := 101) rfl))) (by decide) (t := .boolean) (t' := .boolean) (by decide) (by decide)))).other W118 (Or.inr (slot_ne (Or.inl (hw _ (List.mem_of_getElem? (i := 137) rfl))) (Or.inl (hw _ (List.mem_of_getElem? (i := 103) rfl))) (by decide) (t := .boolean) (t' := .long) (by decide) (by decide))))
                have c128 := ((((F_negativeExponent.ext E1).ext E4).other W115 (Or.inr (slot_ne (Or.inl (hw _ (List.mem_of_getElem? (i := 112) rfl))) (Or.inl (hw _ (List.mem_of_getElem? (i := 101) rfl))) (by decide) (t := .boolean) (t' := .boolean) (by decide) (by decide)))).other W118 (Or.inr (slot_ne (Or.inl (hw _ (List.mem_of_getElem? (i := 112) rfl))) (Or.inl (hw _ (List.mem_of_getElem? (i := 103) rfl))) (by decide) (t := .boolean) (t' := .long) (by decide) (by decide))))
                have c129 := (Fw115.other W118 (Or.inr (slot_ne (Or.inl (hw _ (List.mem_of_getElem? (i := 101) rfl))) (Or.inl (hw _ (List.mem_of_getElem? (i := 103) rfl))) (by decide) (t := .boolean) (t' := .long) (by decide) (by decide))))
                have c130 := ((((F_fractionDigits.ext E1).ext E4).other W115 (Or.inr (slot_ne (Or.inl (hw _ (List.mem_of_getElem? (i := 116) rfl))) (Or.inl (hw _ (List.mem_of_getElem? (i := 101) rfl))) (by decide) (t := .long) (t' := .boolean) (by decide) (by decide)))).other W118 (Or.inr (slot_ne (Or.inl (hw _ (List.mem_of_getElem? (i := 116) rfl))) (Or.inl (hw _ (List.mem_of_getElem? (i := 103) rfl))) (by decide) (t := .long) (t' := .long) (by decide) (by decide))))
                have c131 := ((((F_exponent.ext E1).ext E4).other W115 (Or.inr (slot_ne (Or.inl (hw _ (List.mem_of_getElem? (i := 114) rfl))) (Or.inl (hw _ (List.mem_of_getElem? (i := 101) rfl))) (by decide) (t := .long) (t' := .boolean) (by decide) (by decide)))).other W118 (Or.inr (slot_ne (Or.inl (hw _ (List.mem_of_getElem? (i := 114) rfl))) (Or.inl (hw _ (List.mem_of_getElem? (i := 103) rfl))) (by decide) (t := .long) (t' := .long) (by decide) (by decide))))
                have pre132 : ∀ t, Steps p.tables e below (T120.setTop (mkF m 2 #[.val (.ref a1), .val (.ref x), .val (.int ((Int32.ofNat i) + (1 : Int32))), .val (.int (cs.getD i 0))] [])) t → Steps p.tables e below (T0.setTop (mkF m 2 #[.val (.ref a1), .val (.ref x), .val (.int (Int32.ofNat i)), sl] [])) t := by
                  intro t kt
                  refine pre121 _ ?_
                  show Steps p.tables e below (T120.setTop (mkF m 213 #[.val (.ref a1), .val (.ref x), .val (.int (Int32.ofNat i)), .val (.int (cs.getD i 0))] [(.int st.fr)])) _
                  refine XS.ifYes X120.here hx rfl (pc0 := 213) (pc' := 226) rfl (hb hby d11_213) rfl ((if0 _ _).trans (teq hc213_122).1) (by decide) (by decide) ?_
                  refine XS.iinc X120.here hx rfl (hb hby d11_226) rfl (l' := #[.val (.ref a1), .val (.ref x), .val (.int ((Int32.ofNat i) + (1 : Int32))), .val (.int (cs.getD i 0))]) rfl ?_
                  refine XS.goto X120.here hx rfl (pc0 := 229) (pc' := 2) rfl (hb hby d11_229) (by decide) (by decide) ?_
                  show Steps p.tables e below (T120.setTop (mkF m 2 #[.val (.ref a1), .val (.ref x), .val (.int ((Int32.ofNat i) + (1 : Int32))), .val (.int (cs.getD i 0))] [])) _
                  exact kt
                refine ⟨_, _, X120, N118, ?_, ?_, pre132⟩
                · rw [e120]; exact K118
                · unfold own_step; rw [if_pos hc24_13, if_neg hc106_15, if_neg hc120_31, if_neg hc126_46, if_neg hc140_61, if_neg hc154_77, if_pos hc213_122]; rw [e120]; exact ⟨c123, c124, c125, c119, c126, c127, c128, c129, Fw118, c130, c131⟩
              ·
                have c133 := ((((F_fractionDigits.ext E1).ext E4).other W115 (Or.inr (slot_ne (Or.inl (hw _ (List.mem_of_getElem? (i := 116) rfl))) (Or.inl (hw _ (List.mem_of_getElem? (i := 101) rfl))) (by decide) (t := .long) (t' := .boolean) (by decide) (by decide)))).other W118 (Or.inr (slot_ne (Or.inl (hw _ (List.mem_of_getElem? (i := 116) rfl))) (Or.inl (hw _ (List.mem_of_getElem? (i := 103) rfl))) (by decide) (t := .long) (t' := .long) (by decide) (by decide))))
                obtain ⟨T134, X134, e134, st134⟩ := getF X120 hx hZ hown (host := "") (Or.inl (hw _ (List.mem_of_getElem? (i := 115) rfl))) Via.refl e120 c133 (g := (mkF m 218 #[.val (.ref a1), .val (.ref x), .val (.int (Int32.ofNat i)), .val (.int (cs.getD i 0))] [(.ref a1), (.ref a1)])) rfl rfl (hb hby d11_218)
                have c135 := (c116.wr W118)
                obtain ⟨T136, h136, X136, e136, W136, st136⟩ := putF X134 hx hZ hown (host := "") (Or.inl (hw _ (List.mem_of_getElem? (i := 115) rfl))) Via.refl e134 c133 c135 (Or.inl (hw _ (List.mem_of_getElem? (i := 116) rfl))) (hw _ (List.mem_of_getElem? (i := 44) rfl)) (ty := .long) (by decide) rfl rfl (g := (mkF m 223 #[.val (.ref a1), .val (.ref x), .val (.int (Int32.ofNat i)), .val (.int (cs.getD i 0))] [(.long (st.fd + (1 : Int64))), (.ref a1)])) rfl rfl (hb hby d11_223)
                have Fw136 := c133.same W136
                have K136 := K118.wr W136 (Or.inl (List.mem_of_getElem? (i := 0) rfl))
                have N136 := Fr.snoc X136 N118 g_a1
                have c137 := (c135.wr W136)
                have c138 := (((c111.other W115 (Or.inr (slot_ne (Or.inr (hw _ (List.mem_of_getElem? (i := 51) rfl))) (Or.inl (hw _ (List.mem_of_getElem? (i := 101) rfl))) (by decide) (t := (.object "com/example/reed/reed/engine/Digits")) (t' := .boolean) (by decide) (by decide)))).other W118 (Or.inr (slot_ne (Or.inr (hw _ (List.mem_of_getElem? (i := 51) rfl))) (Or.inl (hw _ (List.mem_of_getElem? (i := 103) rfl))) (by decide) (t := (.object "com/example/reed/reed/engine/Digits")) (t' := .long) (by decide) (by decide)))).other W136 (Or.inr (slot_ne (Or.inr (hw _ (List.mem_of_getElem? (i := 51) rfl))) (Or.inl (hw _ (List.mem_of_getElem? (i := 116) rfl))) (by decide) (t := (.object "com/example/reed/reed/engine/Digits")) (t' := .long) (by decide) (by decide))))
                have c139 := (((((F_exponentDigits.ext E1).ext E4).other W115 (Or.inr (slot_ne (Or.inr (hw _ (List.mem_of_getElem? (i := 53) rfl))) (Or.inl (hw _ (List.mem_of_getElem? (i := 101) rfl))) (by decide) (t := (.object "com/example/reed/reed/engine/Digits")) (t' := .boolean) (by decide) (by decide)))).other W118 (Or.inr (slot_ne (Or.inr (hw _ (List.mem_of_getElem? (i := 53) rfl))) (Or.inl (hw _ (List.mem_of_getElem? (i := 103) rfl))) (by decide) (t := (.object "com/example/reed/reed/engine/Digits")) (t' := .long) (by decide) (by decide)))).other W136 (Or.inr (slot_ne (Or.inr (hw _ (List.mem_of_getElem? (i := 53) rfl))) (Or.inl (hw _ (List.mem_of_getElem? (i := 116) rfl))) (by decide) (t := (.object "com/example/reed/reed/engine/Digits")) (t' := .long) (by decide) (by decide))))
                have c140 := (c119.other W136 (Or.inr (slot_ne (Or.inl (hw _ (List.mem_of_getElem? (i := 105) rfl))) (Or.inl (hw _ (List.mem_of_getElem? (i := 116) rfl))) (by decide) (t := .boolean) (t' := .long) (by decide) (by decide))))
                have c141 := (((c10.other W115 (Or.inr (slot_ne (Or.inl (hw _ (List.mem_of_getElem? (i := 99) rfl))) (Or.inl (hw _ (List.mem_of_getElem? (i := 101) rfl))) (by decide) (t := .boolean) (t' := .boolean) (by decide) (by decide)))).other W118 (Or.inr (slot_ne (Or.inl (hw _ (List.mem_of_getElem? (i := 99) rfl))) (Or.inl (hw _ (List.mem_of_getElem? (i := 103) rfl))) (by decide) (t := .boolean) (t' := .long) (by decide) (by decide)))).other W136 (Or.inr (slot_ne (Or.inl (hw _ (List.mem_of_getElem? (i := 99) rfl))) (Or.inl (hw _ (List.mem_of_getElem? (i := 116) rfl))) (by decide) (t := .boolean) (t' := .long) (by decide) (by decide))))
                have c142 := (((((F_negative.ext E1).ext E4).other W115 (Or.inr (slot_ne (Or.inl (hw _ (List.mem_of_getElem? (i := 137) rfl))) (Or.inl (hw _ (List.mem_of_getElem? (i := 101) rfl))) (by decide) (t := .boolean) (t' := .boolean) (by decide) (by decide)))).other W118 (Or.inr (slot_ne (Or.inl (hw _ (List.mem_of_getElem? (i := 137) rfl))) (Or.inl (hw _ (List.mem_of_getElem? (i := 103) rfl))) (by decide) (t := .boolean) (t' := .long) (by decide) (by decide)))).other W136 (Or.inr (slot_ne (Or.inl (hw _ (List.mem_of_getElem? (i := 137) rfl))) (Or.inl (hw _ (List.mem_of_getElem? (i := 116) rfl))) (by decide) (t := .boolean) (t' := .long) (by decide) (by decide))))
                have c143 := (((((F_negativeExponent.ext E1).ext E4).other W115 (Or.inr (slot_ne (Or.inl (hw _ (List.mem_of_getElem? (i := 112) rfl))) (Or.inl (hw _ (List.mem_of_getElem? (i := 101) rfl))) (by decide) (t := .boolean) (t' := .boolean) (by decide) (by decide)))).other W118 (Or.inr (slot_ne (Or.inl (hw _ (List.mem_of_getElem? (i := 112) rfl))) (Or.inl (hw _ (List.mem_of_getElem? (i := 103) rfl))) (by decide) (t := .boolean) (t' := .long) (by decide) (by decide)))).other W136 (Or.inr (slot_ne (Or.inl (hw _ (List.mem_of_getElem? (i := 112) rfl))) (Or.inl (hw _ (List.mem_of_getElem? (i := 116) rfl))) (by decide) (t := .boolean) (t' := .long) (by decide) (by decide))))
                have c144 := ((Fw115.other W118 (Or.inr (slot_ne (Or.inl (hw _ (List.mem_of_getElem? (i := 101) rfl))) (Or.inl (hw _ (List.mem_of_getElem? (i := 103) rfl))) (by decide) (t := .boolean) (t' := .long) (by decide) (by decide)))).other W136 (Or.inr (slot_ne (Or.inl (hw _ (List.mem_of_getElem? (i := 101) rfl))) (Or.inl (hw _ (List.mem_of_getElem? (i := 116) rfl))) (by decide) (t := .boolean) (t' := .long) (by decide) (by decide))))
                have c145 := (Fw118.other W136 (Or.inr (slot_ne (Or.inl (hw _ (List.mem_of_getElem? (i := 103) rfl))) (Or.inl (hw _ (List.mem_of_getElem? (i := 116) rfl))) (by decide) (t := .long) (t' := .long) (by decide) (by decide))))
                have c146 := (((((F_exponent.ext E1).ext E4).other W115 (Or.inr (slot_ne (Or.inl (hw _ (List.mem_of_getElem? (i := 114) rfl))) (Or.inl (hw _ (List.mem_of_getElem? (i := 101) rfl))) (by decide) (t := .long) (t' := .boolean) (by decide) (by decide)))).other W118 (Or.inr (slot_ne (Or.inl (hw _ (List.mem_of_getElem? (i := 114) rfl))) (Or.inl (hw _ (List.mem_of_getElem? (i := 103) rfl))) (by decide) (t := .long) (t' := .long) (by decide) (by decide)))).other W136 (Or.inr (slot_ne (Or.inl (hw _ (List.mem_of_getElem? (i := 114) rfl))) (Or.inl (hw _ (List.mem_of_getElem? (i := 116) rfl))) (by decide) (t := .long) (t' := .long) (by decide) (by decide))))
                have pre147 : ∀ t, Steps p.tables e below (T136.setTop (mkF m 2 #[.val (.ref a1), .val (.ref x), .val (.int ((Int32.ofNat i) + (1 : Int32))), .val (.int (cs.getD i 0))] [])) t → Steps p.tables e below (T0.setTop (mkF m 2 #[.val (.ref a1), .val (.ref x), .val (.int (Int32.ofNat i)), sl] [])) t := by
                  intro t kt
                  refine pre121 _ ?_
                  show Steps p.tables e below (T120.setTop (mkF m 213 #[.val (.ref a1), .val (.ref x), .val (.int (Int32.ofNat i)), .val (.int (cs.getD i 0))] [(.int st.fr)])) _
                  refine XS.ifNo X120.here hx rfl (hb hby d11_213) rfl ((if0 _ _).trans (feq hc213_122).1) ?_
                  refine XS.aloadN X120.here hx rfl (hb hby d11_216) rfl rfl ?_
                  refine XS.dup X120.here hx rfl (hb hby d11_217) rfl rfl ?_
                  show Steps p.tables e below (T120.setTop (mkF m 218 #[.val (.ref a1), .val (.ref x), .val (.int (Int32.ofNat i)), .val (.int (cs.getD i 0))] [(.ref a1), (.ref a1)])) _
                  refine st134 _ ?_
                  show Steps p.tables e below (T134.setTop (mkF m 221 #[.val (.ref a1), .val (.ref x), .val (.int (Int32.ofNat i)), .val (.int (cs.getD i 0))] [(.long st.fd), (.ref a1)])) _
                  refine XS.lconst X134.here hx rfl (hb hby d11_221) ?_
                  refine XS.ladd X134.here hx rfl (hb hby d11_222) rfl ?_
                  show Steps p.tables e below (T134.setTop (mkF m 223 #[.val (.ref a1), .val (.ref x), .val (.int (Int32.ofNat i)), .val (.int (cs.getD i 0))] [(.long (st.fd + (1 : Int64))), (.ref a1)])) _
                  refine st136 _ ?_
                  show Steps p.tables e below (T136.setTop (mkF m 226 #[.val (.ref a1), .val (.ref x), .val (.int (Int32.ofNat i)), .val (.int (cs.getD i 0))] [])) _
                  refine XS.iinc X136.here hx rfl (hb hby d11_226) rfl (l' := #[.val (.ref a1), .val (.ref x), .val (.int ((Int32.ofNat i) + (1 : Int32))), .val (.int (cs.getD i 0))]) rfl ?_
                  refine XS.goto X136.here hx rfl (pc0 := 229) (pc' := 2) rfl (hb hby d11_229) (by decide) (by decide) ?_
                  show Steps p.tables e below (T136.setTop (mkF m 2 #[.val (.ref a1), .val (.ref x), .val (.int ((Int32.ofNat i) + (1 : Int32))), .val (.int (cs.getD i 0))] [])) _
                  exact kt
                refine ⟨_, _, X136, N136, ?_, ?_, pre147⟩
                · rw [e136]; exact K136
                · unfold own_step; rw [if_pos hc24_13, if_neg hc106_15, if_neg hc120_31, if_neg hc126_46, if_neg hc140_61, if_neg hc154_77, if_neg hc213_122]; rw [e136]; exact ⟨c137, c138, c139, c140, c141, c142, c143, c144, c145, Fw136, c146⟩
  ·
    have pre148 : ∀ t, Steps p.tables e below (T11.setTop (mkF m 30 #[.val (.ref a1), .val (.ref x), .val (.int (Int32.ofNat i)), .val (.int (cs.getD i 0))] [(.int (45 : Int32)), (.int (cs.getD i 0))])) t → Steps p.tables e below (T0.setTop (mkF m 2 #[.val (.ref a1), .val (.ref x), .val (.int (Int32.ofNat i)), sl] [])) t := by
      intro t kt
      refine pre12 _ ?_
      show Steps p.tables e below (T11.setTop (mkF m 24 #[.val (.ref a1), .val (.ref x), .val (.int (Int32.ofNat i)), .val (.int (cs.getD i 0))] [(.int st.ex)])) _
      refine XS.ifNo X11.here hx rfl (hb hby d11_24) rfl ((if0 _ _).trans (feq hc24_13).1) ?_
      refine XS.iloadN X11.here hx rfl (hb hby d11_27) rfl ?_
      refine XS.bipush X11.here hx rfl (hb hby d11_28) ?_
      show Steps p.tables e below (T11.setTop (mkF m 30 #[.val (.ref a1), .val (.ref x), .val (.int (Int32.ofNat i)), .val (.int (cs.getD i 0))] [(.int (45 : Int32)), (.int (cs.getD i 0))])) _
      exact kt
    by_cases hc30_149 : (cs.getD i 0) = (45 : Int32)
    ·
      have c150 := ((E_a1.ext E1).ext E4)
      have c151 := ((F_negativeExponent.ext E1).ext E4)
      obtain ⟨T152, h152, X152, e152, W152, st152⟩ := putFN X11 hx hZ hown (hw _ (List.mem_of_getElem? (i := 111) rfl)) Via.refl e11 c151 c150 (Or.inl (hw _ (List.mem_of_getElem? (i := 112) rfl))) (hw _ (List.mem_of_getElem? (i := 44) rfl)) (ty := .boolean) (v := (.int (1 : Int32))) (v' := (.int (nar .boolean (1 : Int32)))) (by decide) rfl (fits_nar_bool _) (g := (mkF m 35 #[.val (.ref a1), .val (.ref x), .val (.int (Int32.ofNat i)), .val (.int (cs.getD i 0))] [(.int (1 : Int32)), (.ref a1)])) rfl rfl (hb hby d11_35)
      have Fw152 := c151.same W152
      have K152 := K4.wr W152 (Or.inl (List.mem_of_getElem? (i := 0) rfl))
      have N152 := Fr.snoc X152 N0 g_a1
      have c153 := (c150.wr W152)
      have c154 := (((F_significand.ext E1).ext E4).other W152 (Or.inr (slot_ne (Or.inr (hw _ (List.mem_of_getElem? (i := 51) rfl))) (Or.inl (hw _ (List.mem_of_getElem? (i := 112) rfl))) (by decide) (t := (.object "com/example/reed/reed/engine/Digits")) (t' := .boolean) (by decide) (by decide))))
      have c155 := (((F_exponentDigits.ext E1).ext E4).other W152 (Or.inr (slot_ne (Or.inr (hw _ (List.mem_of_getElem? (i := 53) rfl))) (Or.inl (hw _ (List.mem_of_getElem? (i := 112) rfl))) (by decide) (t := (.object "com/example/reed/reed/engine/Digits")) (t' := .boolean) (by decide) (by decide))))
      have c156 := (((F_inFraction.ext E1).ext E4).other W152 (Or.inr (slot_ne (Or.inl (hw _ (List.mem_of_getElem? (i := 105) rfl))) (Or.inl (hw _ (List.mem_of_getElem? (i := 112) rfl))) (by decide) (t := .boolean) (t' := .boolean) (by decide) (by decide))))
      have c157 := (c10.other W152 (Or.inr (slot_ne (Or.inl (hw _ (List.mem_of_getElem? (i := 99) rfl))) (Or.inl (hw _ (List.mem_of_getElem? (i := 112) rfl))) (by decide) (t := .boolean) (t' := .boolean) (by decide) (by decide))))
      have c158 := (((F_negative.ext E1).ext E4).other W152 (Or.inr (slot_ne (Or.inl (hw _ (List.mem_of_getElem? (i := 137) rfl))) (Or.inl (hw _ (List.mem_of_getElem? (i := 112) rfl))) (by decide) (t := .boolean) (t' := .boolean) (by decide) (by decide))))
      have c159 := (((F_nonZero.ext E1).ext E4).other W152 (Or.inr (slot_ne (Or.inl (hw _ (List.mem_of_getElem? (i := 101) rfl))) (Or.inl (hw _ (List.mem_of_getElem? (i := 112) rfl))) (by decide) (t := .boolean) (t' := .boolean) (by decide) (by decide))))
      have c160 := (((F_trailingZeros.ext E1).ext E4).other W152 (Or.inr (slot_ne (Or.inl (hw _ (List.mem_of_getElem? (i := 103) rfl))) (Or.inl (hw _ (List.mem_of_getElem? (i := 112) rfl))) (by decide) (t := .long) (t' := .boolean) (by decide) (by decide))))
      have c161 := (((F_fractionDigits.ext E1).ext E4).other W152 (Or.inr (slot_ne (Or.inl (hw _ (List.mem_of_getElem? (i := 116) rfl))) (Or.inl (hw _ (List.mem_of_getElem? (i := 112) rfl))) (by decide) (t := .long) (t' := .boolean) (by decide) (by decide))))
      have c162 := (((F_exponent.ext E1).ext E4).other W152 (Or.inr (slot_ne (Or.inl (hw _ (List.mem_of_getElem? (i := 114) rfl))) (Or.inl (hw _ (List.mem_of_getElem? (i := 112) rfl))) (by decide) (t := .long) (t' := .boolean) (by decide) (by decide))))
      have pre163 : ∀ t, Steps p.tables e below (T152.setTop (mkF m 2 #[.val (.ref a1), .val (.ref x), .val (.int ((Int32.ofNat i) + (1 : Int32))), .val (.int (cs.getD i 0))] [])) t → Steps p.tables e below (T0.setTop (mkF m 2 #[.val (.ref a1), .val (.ref x), .val (.int (Int32.ofNat i)), sl] [])) t := by
        intro t kt
        refine pre148 _ ?_
        show Steps p.tables e below (T11.setTop (mkF m 30 #[.val (.ref a1), .val (.ref x), .val (.int (Int32.ofNat i)), .val (.int (cs.getD i 0))] [(.int (45 : Int32)), (.int (cs.getD i 0))])) _
        refine XS.icmpNo X11.here hx rfl (hb hby d11_30) rfl (teq hc30_149).2 ?_
        refine XS.aloadN X11.here hx rfl (hb hby d11_33) rfl rfl ?_
        refine XS.iconst X11.here hx rfl (hb hby d11_34) ?_
        show Steps p.tables e below (T11.setTop (mkF m 35 #[.val (.ref a1), .val (.ref x), .val (.int (Int32.ofNat i)), .val (.int (cs.getD i 0))] [(.int (1 : Int32)), (.ref a1)])) _
        refine st152 _ ?_
        show Steps p.tables e below (T152.setTop (mkF m 38 #[.val (.ref a1), .val (.ref x), .val (.int (Int32.ofNat i)), .val (.int (cs.getD i 0))] [])) _
        refine XS.goto X152.here hx rfl (pc0 := 38) (pc' := 226) rfl (hb hby d11_38) (by decide) (by decide) ?_
        refine XS.iinc X152.here hx rfl (hb hby d11_226) rfl (l' := #[.val (.ref a1), .val (.ref x), .val (.int ((Int32.ofNat i) + (1 : Int32))), .val (.int (cs.getD i 0))]) rfl ?_
        refine XS.goto X152.here hx rfl (pc0 := 229) (pc' := 2) rfl (hb hby d11_229) (by decide) (by decide) ?_
        show Steps p.tables e below (T152.setTop (mkF m 2 #[.val (.ref a1), .val (.ref x), .val (.int ((Int32.ofNat i) + (1 : Int32))), .val (.int (cs.getD i 0))] [])) _
        exact kt
      refine ⟨_, _, X152, N152, ?_, ?_, pre163⟩
      · rw [e152]; exact K152
      · unfold own_step; rw [if_neg hc24_13, if_pos hc30_149]; rw [e152]; exact ⟨c153, c154, c155, c156, c157, c158, Fw152, c159, c160, c161, c162⟩
    ·
      have pre164 : ∀ t, Steps p.tables e below (T11.setTop (mkF m 44 #[.val (.ref a1), .val (.ref x), .val (.int (Int32.ofNat i)), .val (.int (cs.getD i 0))] [(.int (43 : Int32)), (.int (cs.getD i 0))])) t → Steps p.tables e below (T0.setTop (mkF m 2 #[.val (.ref a1), .val (.ref x), .val (.int (Int32.ofNat i)), sl] [])) t := by
        intro t kt
        refine pre148 _ ?_
        show Steps p.tables e below (T11.setTop (mkF m 30 #[.val (.ref a1), .val (.ref x), .val (.int (Int32.ofNat i)), .val (.int (cs.getD i 0))] [(.int (45 : Int32)), (.int (cs.getD i 0))])) _
        refine XS.icmpYes X11.here hx rfl (pc0 := 30) (pc' := 41) rfl (hb hby d11_30) rfl (feq hc30_149).2 (by decide) (by decide) ?_
        refine XS.iloadN X11.here hx rfl (hb hby d11_41) rfl ?_
        refine XS.bipush X11.here hx rfl (hb hby d11_42) ?_
        show Steps p.tables e below (T11.setTop (mkF m 44 #[.val (.ref a1), .val (.ref x), .val (.int (Int32.ofNat i)), .val (.int (cs.getD i 0))] [(.int (43 : Int32)), (.int (cs.getD i 0))])) _
        exact kt
      by_cases hc44_165 : (cs.getD i 0) = (43 : Int32)
      ·
        have c166 := ((E_a1.ext E1).ext E4)
        have c167 := ((F_significand.ext E1).ext E4)
        have c168 := ((F_exponentDigits.ext E1).ext E4)
        have c169 := ((F_inFraction.ext E1).ext E4)
        have c170 := ((F_negative.ext E1).ext E4)
        have c171 := ((F_negativeExponent.ext E1).ext E4)
        have c172 := ((F_nonZero.ext E1).ext E4)
        have c173 := ((F_trailingZeros.ext E1).ext E4)
        have c174 := ((F_fractionDigits.ext E1).ext E4)
        have c175 := ((F_exponent.ext E1).ext E4)
        have pre176 : ∀ t, Steps p.tables e below (T11.setTop (mkF m 2 #[.val (.ref a1), .val (.ref x), .val (.int ((Int32.ofNat i) + (1 : Int32))), .val (.int (cs.getD i 0))] [])) t → Steps p.tables e below (T0.setTop (mkF m 2 #[.val (.ref a1), .val (.ref x), .val (.int (Int32.ofNat i)), sl] [])) t := by
          intro t kt
          refine pre164 _ ?_
          show Steps p.tables e below (T11.setTop (mkF m 44 #[.val (.ref a1), .val (.ref x), .val (.int (Int32.ofNat i)), .val (.int (cs.getD i 0))] [(.int (43 : Int32)), (.int (cs.getD i 0))])) _
          refine XS.icmpYes X11.here hx rfl (pc0 := 44) (pc' := 226) rfl (hb hby d11_44) rfl (teq hc44_165).1 (by decide) (by decide) ?_
          refine XS.iinc X11.here hx rfl (hb hby d11_226) rfl (l' := #[.val (.ref a1), .val (.ref x), .val (.int ((Int32.ofNat i) + (1 : Int32))), .val (.int (cs.getD i 0))]) rfl ?_
          refine XS.goto X11.here hx rfl (pc0 := 229) (pc' := 2) rfl (hb hby d11_229) (by decide) (by decide) ?_
          show Steps p.tables e below (T11.setTop (mkF m 2 #[.val (.ref a1), .val (.ref x), .val (.int ((Int32.ofNat i) + (1 : Int32))), .val (.int (cs.getD i 0))] [])) _
          exact kt
        refine ⟨_, _, X11, N0, ?_, ?_, pre176⟩
        · rw [e11]; exact K4
        · unfold own_step; rw [if_neg hc24_13, if_neg hc30_149, if_pos hc44_165]; rw [e11]; exact ⟨c166, c167, c168, c169, c10, c170, c171, c172, c173, c174, c175⟩
      ·
        have c177 := ((F_exponent.ext E1).ext E4)
        obtain ⟨T178, X178, e178, st178⟩ := getF X11 hx hZ hown (host := "") (Or.inl (hw _ (List.mem_of_getElem? (i := 113) rfl))) Via.refl e11 c177 (g := (mkF m 49 #[.val (.ref a1), .val (.ref x), .val (.int (Int32.ofNat i)), .val (.int (cs.getD i 0))] [(.ref a1), (.ref a1)])) rfl rfl (hb hby d11_49)
        have pre179 : ∀ t, Steps p.tables e below (T178.setTop (mkF m 56 #[.val (.ref a1), .val (.ref x), .val (.int (Int32.ofNat i)), .val (.int (cs.getD i 0))] [(.int (lcmpW st.xp (115292150460684697 : Int64))), (.ref a1)])) t → Steps p.tables e below (T0.setTop (mkF m 2 #[.val (.ref a1), .val (.ref x), .val (.int (Int32.ofNat i)), sl] [])) t := by
          intro t kt
          refine pre164 _ ?_
          show Steps p.tables e below (T11.setTop (mkF m 44 #[.val (.ref a1), .val (.ref x), .val (.int (Int32.ofNat i)), .val (.int (cs.getD i 0))] [(.int (43 : Int32)), (.int (cs.getD i 0))])) _
          refine XS.icmpNo X11.here hx rfl (hb hby d11_44) rfl (feq hc44_165).1 ?_
          refine XS.aloadN X11.here hx rfl (hb hby d11_47) rfl rfl ?_
          refine XS.aloadN X11.here hx rfl (hb hby d11_48) rfl rfl ?_
          show Steps p.tables e below (T11.setTop (mkF m 49 #[.val (.ref a1), .val (.ref x), .val (.int (Int32.ofNat i)), .val (.int (cs.getD i 0))] [(.ref a1), (.ref a1)])) _
          refine st178 _ ?_
          show Steps p.tables e below (T178.setTop (mkF m 52 #[.val (.ref a1), .val (.ref x), .val (.int (Int32.ofNat i)), .val (.int (cs.getD i 0))] [(.long st.xp), (.ref a1)])) _
          refine X178.ldc2Long hx hown (mvT hZ (hw _ (List.mem_of_getElem? (i := 133) rfl))) (g := (mkF m 52 #[.val (.ref a1), .val (.ref x), .val (.int (Int32.ofNat i)), .val (.int (cs.getD i 0))] [(.long st.xp), (.ref a1)])) rfl (hb hby d11_52) _ ?_
          show Steps p.tables e below (T178.setTop (mkF m 55 #[.val (.ref a1), .val (.ref x), .val (.int (Int32.ofNat i)), .val (.int (cs.getD i 0))] [(.long (115292150460684697 : Int64)), (.long st.xp), (.ref a1)])) _
          refine XS.lcmp X178.here hx rfl (hb hby d11_55) rfl ?_
          show Steps p.tables e below (T178.setTop (mkF m 56 #[.val (.ref a1), .val (.ref x), .val (.int (Int32.ofNat i)), .val (.int (cs.getD i 0))] [(.int (lcmpW st.xp (115292150460684697 : Int64))), (.ref a1)])) _
          exact kt
        by_cases hc56_180 : st.xp < (115292150460684697 : Int64)
        ·
          obtain ⟨T181, X181, e181, st181⟩ := getF X178 hx hZ hown (host := "") (Or.inl (hw _ (List.mem_of_getElem? (i := 113) rfl))) Via.refl e178 c177 (g := (mkF m 60 #[.val (.ref a1), .val (.ref x), .val (.int (Int32.ofNat i)), .val (.int (cs.getD i 0))] [(.ref a1), (.ref a1)])) rfl rfl (hb hby d11_60)
          have c182 := ((E_a1.ext E1).ext E4)
          obtain ⟨T183, h183, X183, e183, W183, st183⟩ := putF X181 hx hZ hown (host := "") (Or.inl (hw _ (List.mem_of_getElem? (i := 113) rfl))) Via.refl e181 c177 c182 (Or.inl (hw _ (List.mem_of_getElem? (i := 114) rfl))) (hw _ (List.mem_of_getElem? (i := 44) rfl)) (ty := .long) (by decide) rfl rfl (g := (mkF m 79 #[.val (.ref a1), .val (.ref x), .val (.int (Int32.ofNat i)), .val (.int (cs.getD i 0))] [(.long ((st.xp * (10 : Int64)) + (((cs.getD i 0) - (48 : Int32)).toInt64))), (.ref a1)])) rfl rfl (hb hby d11_79)
          have Fw183 := c177.same W183
          have K183 := K4.wr W183 (Or.inl (List.mem_of_getElem? (i := 0) rfl))
          have N183 := Fr.snoc X183 N0 g_a1
          have c184 := (((F_exponentDigits.ext E1).ext E4).other W183 (Or.inr (slot_ne (Or.inr (hw _ (List.mem_of_getElem? (i := 53) rfl))) (Or.inl (hw _ (List.mem_of_getElem? (i := 114) rfl))) (by decide) (t := (.object "com/example/reed/reed/engine/Digits")) (t' := .long) (by decide) (by decide))))
          obtain ⟨T185, X185, e185, st185⟩ := getF X183 hx hZ hown (host := "") (Or.inl (hw _ (List.mem_of_getElem? (i := 52) rfl))) Via.refl e183 c184 (g := (mkF m 83 #[.val (.ref a1), .val (.ref x), .val (.int (Int32.ofNat i)), .val (.int (cs.getD i 0))] [(.ref a1)])) rfl rfl (hb hby d11_83)
          have c186 := (c182.wr W183)
          have c187 := (((F_significand.ext E1).ext E4).other W183 (Or.inr (slot_ne (Or.inr (hw _ (List.mem_of_getElem? (i := 51) rfl))) (Or.inl (hw _ (List.mem_of_getElem? (i := 114) rfl))) (by decide) (t := (.object "com/example/reed/reed/engine/Digits")) (t' := .long) (by decide) (by decide))))
          have c188 := (((F_inFraction.ext E1).ext E4).other W183 (Or.inr (slot_ne (Or.inl (hw _ (List.mem_of_getElem? (i := 105) rfl))) (Or.inl (hw _ (List.mem_of_getElem? (i := 114) rfl))) (by decide) (t := .boolean) (t' := .long) (by decide) (by decide))))
          have c189 := (c10.other W183 (Or.inr (slot_ne (Or.inl (hw _ (List.mem_of_getElem? (i := 99) rfl))) (Or.inl (hw _ (List.mem_of_getElem? (i := 114) rfl))) (by decide) (t := .boolean) (t' := .long) (by decide) (by decide))))
          have c190 := (((F_negative.ext E1).ext E4).other W183 (Or.inr (slot_ne (Or.inl (hw _ (List.mem_of_getElem? (i := 137) rfl))) (Or.inl (hw _ (List.mem_of_getElem? (i := 114) rfl))) (by decide) (t := .boolean) (t' := .long) (by decide) (by decide))))
          have c191 := (((F_negativeExponent.ext E1).ext E4).other W183 (Or.inr (slot_ne (Or.inl (hw _ (List.mem_of_getElem? (i := 112) rfl))) (Or.inl (hw _ (List.mem_of_getElem? (i := 114) rfl))) (by decide) (t := .boolean) (t' := .long) (by decide) (by decide))))
          have c192 := (((F_nonZero.ext E1).ext E4).other W183 (Or.inr (slot_ne (Or.inl (hw _ (List.mem_of_getElem? (i := 101) rfl))) (Or.inl (hw _ (List.mem_of_getElem? (i := 114) rfl))) (by decide) (t := .boolean) (t' := .long) (by decide) (by decide))))
          have c193 := (((F_trailingZeros.ext E1).ext E4).other W183 (Or.inr (slot_ne (Or.inl (hw _ (List.mem_of_getElem? (i := 103) rfl))) (Or.inl (hw _ (List.mem_of_getElem? (i := 114) rfl))) (by decide) (t := .long) (t' := .long) (by decide) (by decide))))
          have c194 := (((F_fractionDigits.ext E1).ext E4).other W183 (Or.inr (slot_ne (Or.inl (hw _ (List.mem_of_getElem? (i := 116) rfl))) (Or.inl (hw _ (List.mem_of_getElem? (i := 114) rfl))) (by decide) (t := .long) (t' := .long) (by decide) (by decide))))
          have pre195 : ∀ t, Steps p.tables e below (T185.setTop (mkF m 2 #[.val (.ref a1), .val (.ref x), .val (.int ((Int32.ofNat i) + (1 : Int32))), .val (.int (cs.getD i 0))] [])) t → Steps p.tables e below (T0.setTop (mkF m 2 #[.val (.ref a1), .val (.ref x), .val (.int (Int32.ofNat i)), sl] [])) t := by
            intro t kt
            refine pre179 _ ?_
            show Steps p.tables e below (T178.setTop (mkF m 56 #[.val (.ref a1), .val (.ref x), .val (.int (Int32.ofNat i)), .val (.int (cs.getD i 0))] [(.int (lcmpW st.xp (115292150460684697 : Int64))), (.ref a1)])) _
            refine XS.ifNo X178.here hx rfl (hb hby d11_56) rfl ((if0 _ _).trans (tlt ((lw_lt _ _).mpr hc56_180)).2.1) ?_
            refine XS.aloadN X178.here hx rfl (hb hby d11_59) rfl rfl ?_
            show Steps p.tables e below (T178.setTop (mkF m 60 #[.val (.ref a1), .val (.ref x), .val (.int (Int32.ofNat i)), .val (.int (cs.getD i 0))] [(.ref a1), (.ref a1)])) _
            refine st181 _ ?_
            show Steps p.tables e below (T181.setTop (mkF m 63 #[.val (.ref a1), .val (.ref x), .val (.int (Int32.ofNat i)), .val (.int (cs.getD i 0))] [(.long st.xp), (.ref a1)])) _
            refine X181.ldc2Long hx hown (mvT hZ (hw _ (List.mem_of_getElem? (i := 134) rfl))) (g := (mkF m 63 #[.val (.ref a1), .val (.ref x), .val (.int (Int32.ofNat i)), .val (.int (cs.getD i 0))] [(.long st.xp), (.ref a1)])) rfl (hb hby d11_63) _ ?_
            show Steps p.tables e below (T181.setTop (mkF m 66 #[.val (.ref a1), .val (.ref x), .val (.int (Int32.ofNat i)), .val (.int (cs.getD i 0))] [(.long (10 : Int64)), (.long st.xp), (.ref a1)])) _
            refine XS.lmul X181.here hx rfl (hb hby d11_66) rfl ?_
            refine XS.iloadN X181.here hx rfl (hb hby d11_67) rfl ?_
            refine XS.bipush X181.here hx rfl (hb hby d11_68) ?_
            show Steps p.tables e below (T181.setTop (mkF m 70 #[.val (.ref a1), .val (.ref x), .val (.int (Int32.ofNat i)), .val (.int (cs.getD i 0))] [(.int (48 : Int32)), (.int (cs.getD i 0)), (.long (st.xp * (10 : Int64))), (.ref a1)])) _
            refine XS.isub X181.here hx rfl (hb hby d11_70) rfl ?_
            refine XS.i2l X181.here hx rfl (hb hby d11_71) rfl ?_
            refine XS.ladd X181.here hx rfl (hb hby d11_72) rfl ?_
            show Steps p.tables e below (T181.setTop (mkF m 73 #[.val (.ref a1), .val (.ref x), .val (.int (Int32.ofNat i)), .val (.int (cs.getD i 0))] [(.long ((st.xp * (10 : Int64)) + (((cs.getD i 0) - (48 : Int32)).toInt64))), (.ref a1)])) _
            refine XS.goto X181.here hx rfl (pc0 := 73) (pc' := 79) rfl (hb hby d11_73) (by decide) (by decide) ?_
            show Steps p.tables e below (T181.setTop (mkF m 79 #[.val (.ref a1), .val (.ref x), .val (.int (Int32.ofNat i)), .val (.int (cs.getD i 0))] [(.long ((st.xp * (10 : Int64)) + (((cs.getD i 0) - (48 : Int32)).toInt64))), (.ref a1)])) _
            refine st183 _ ?_
            show Steps p.tables e below (T183.setTop (mkF m 82 #[.val (.ref a1), .val (.ref x), .val (.int (Int32.ofNat i)), .val (.int (cs.getD i 0))] [])) _
            refine XS.aloadN X183.here hx rfl (hb hby d11_82) rfl rfl ?_
            show Steps p.tables e below (T183.setTop (mkF m 83 #[.val (.ref a1), .val (.ref x), .val (.int (Int32.ofNat i)), .val (.int (cs.getD i 0))] [(.ref a1)])) _
            refine st185 _ ?_
            show Steps p.tables e below (T185.setTop (mkF m 86 #[.val (.ref a1), .val (.ref x), .val (.int (Int32.ofNat i)), .val (.int (cs.getD i 0))] [.null])) _
            refine XS.ifnullYes X185.here hx rfl (pc0 := 86) (pc' := 226) rfl (hb hby d11_86) rfl (by decide) (by decide) ?_
            refine XS.iinc X185.here hx rfl (hb hby d11_226) rfl (l' := #[.val (.ref a1), .val (.ref x), .val (.int ((Int32.ofNat i) + (1 : Int32))), .val (.int (cs.getD i 0))]) rfl ?_
            refine XS.goto X185.here hx rfl (pc0 := 229) (pc' := 2) rfl (hb hby d11_229) (by decide) (by decide) ?_
            show Steps p.tables e below (T185.setTop (mkF m 2 #[.val (.ref a1), .val (.ref x), .val (.int ((Int32.ofNat i) + (1 : Int32))), .val (.int (cs.getD i 0))] [])) _
            exact kt
          refine ⟨_, _, X185, N183, ?_, ?_, pre195⟩
          · rw [e185]; exact K183
          · unfold own_step; rw [if_neg hc24_13, if_neg hc30_149, if_neg hc44_165, if_pos hc56_180]; rw [e185]; exact ⟨c186, c187, c184, c188, c189, c190, c191, c192, c193, c194, Fw183⟩
        ·
          have c196 := ((E_a1.ext E1).ext E4)
          obtain ⟨T197, h197, X197, e197, W197, st197⟩ := putF X178 hx hZ hown (host := "") (Or.inl (hw _ (List.mem_of_getElem? (i := 113) rfl))) Via.refl e178 c177 c196 (Or.inl (hw _ (List.mem_of_getElem? (i := 114) rfl))) (hw _ (List.mem_of_getElem? (i := 44) rfl)) (ty := .long) (by decide) rfl rfl (g := (mkF m 79 #[.val (.ref a1), .val (.ref x), .val (.int (Int32.ofNat i)), .val (.int (cs.getD i 0))] [(.long (1152921504606846976 : Int64)), (.ref a1)])) rfl rfl (hb hby d11_79)
          have Fw197 := c177.same W197
          have K197 := K4.wr W197 (Or.inl (List.mem_of_getElem? (i := 0) rfl))
          have N197 := Fr.snoc X197 N0 g_a1
          have c198 := (((F_exponentDigits.ext E1).ext E4).other W197 (Or.inr (slot_ne (Or.inr (hw _ (List.mem_of_getElem? (i := 53) rfl))) (Or.inl (hw _ (List.mem_of_getElem? (i := 114) rfl))) (by decide) (t := (.object "com/example/reed/reed/engine/Digits")) (t' := .long) (by decide) (by decide))))
          obtain ⟨T199, X199, e199, st199⟩ := getF X197 hx hZ hown (host := "") (Or.inl (hw _ (List.mem_of_getElem? (i := 52) rfl))) Via.refl e197 c198 (g := (mkF m 83 #[.val (.ref a1), .val (.ref x), .val (.int (Int32.ofNat i)), .val (.int (cs.getD i 0))] [(.ref a1)])) rfl rfl (hb hby d11_83)
          have c200 := (c196.wr W197)
          have c201 := (((F_significand.ext E1).ext E4).other W197 (Or.inr (slot_ne (Or.inr (hw _ (List.mem_of_getElem? (i := 51) rfl))) (Or.inl (hw _ (List.mem_of_getElem? (i := 114) rfl))) (by decide) (t := (.object "com/example/reed/reed/engine/Digits")) (t' := .long) (by decide) (by decide))))
          have c202 := (((F_inFraction.ext E1).ext E4).other W197 (Or.inr (slot_ne (Or.inl (hw _ (List.mem_of_getElem? (i := 105) rfl))) (Or.inl (hw _ (List.mem_of_getElem? (i := 114) rfl))) (by decide) (t := .boolean) (t' := .long) (by decide) (by decide))))
          have c203 := (c10.other W197 (Or.inr (slot_ne (Or.inl (hw _ (List.mem_of_getElem? (i := 99) rfl))) (Or.inl (hw _ (List.mem_of_getElem? (i := 114) rfl))) (by decide) (t := .boolean) (t' := .long) (by decide) (by decide))))
          have c204 := (((F_negative.ext E1).ext E4).other W197 (Or.inr (slot_ne (Or.inl (hw _ (List.mem_of_getElem? (i := 137) rfl))) (Or.inl (hw _ (List.mem_of_getElem? (i := 114) rfl))) (by decide) (t := .boolean) (t' := .long) (by decide) (by decide))))
          have c205 := (((F_negativeExponent.ext E1).ext E4).other W197 (Or.inr (slot_ne (Or.inl (hw _ (List.mem_of_getElem? (i := 112) rfl))) (Or.inl (hw _ (List.mem_of_getElem? (i := 114) rfl))) (by decide) (t := .boolean) (t' := .long) (by decide) (by decide))))
          have c206 := (((F_nonZero.ext E1).ext E4).other W197 (Or.inr (slot_ne (Or.inl (hw _ (List.mem_of_getElem? (i := 101) rfl))) (Or.inl (hw _ (List.mem_of_getElem? (i := 114) rfl))) (by decide) (t := .boolean) (t' := .long) (by decide) (by decide))))
          have c207 := (((F_trailingZeros.ext E1).ext E4).other W197 (Or.inr (slot_ne (Or.inl (hw _ (List.mem_of_getElem? (i := 103) rfl))) (Or.inl (hw _ (List.mem_of_getElem? (i := 114) rfl))) (by decide) (t := .long) (t' := .long) (by decide) (by decide))))
          have c208 := (((F_fractionDigits.ext E1).ext E4).other W197 (Or.inr (slot_ne (Or.inl (hw _ (List.mem_of_getElem? (i := 116) rfl))) (Or.inl (hw _ (List.mem_of_getElem? (i := 114) rfl))) (by decide) (t := .long) (t' := .long) (by decide) (by decide))))
          have pre209 : ∀ t, Steps p.tables e below (T199.setTop (mkF m 2 #[.val (.ref a1), .val (.ref x), .val (.int ((Int32.ofNat i) + (1 : Int32))), .val (.int (cs.getD i 0))] [])) t → Steps p.tables e below (T0.setTop (mkF m 2 #[.val (.ref a1), .val (.ref x), .val (.int (Int32.ofNat i)), sl] [])) t := by
            intro t kt
            refine pre179 _ ?_
            show Steps p.tables e below (T178.setTop (mkF m 56 #[.val (.ref a1), .val (.ref x), .val (.int (Int32.ofNat i)), .val (.int (cs.getD i 0))] [(.int (lcmpW st.xp (115292150460684697 : Int64))), (.ref a1)])) _
            refine XS.ifYes X178.here hx rfl (pc0 := 56) (pc' := 76) rfl (hb hby d11_56) rfl ((if0 _ _).trans (flt (fun q => hc56_180 ((lw_lt _ _).mp q))).2.1) (by decide) (by decide) ?_
            show Steps p.tables e below (T178.setTop (mkF m 76 #[.val (.ref a1), .val (.ref x), .val (.int (Int32.ofNat i)), .val (.int (cs.getD i 0))] [(.ref a1)])) _
            refine X178.ldc2Long hx hown (mvT hZ (hw _ (List.mem_of_getElem? (i := 140) rfl))) (g := (mkF m 76 #[.val (.ref a1), .val (.ref x), .val (.int (Int32.ofNat i)), .val (.int (cs.getD i 0))] [(.ref a1)])) rfl (hb hby d11_76) _ ?_
            show Steps p.tables e below (T178.setTop (mkF m 79 #[.val (.ref a1), .val (.ref x), .val (.int (Int32.ofNat i)), .val (.int (cs.getD i 0))] [(.long (1152921504606846976 : Int64)), (.ref a1)])) _
            refine st197 _ ?_
            show Steps p.tables e below (T197.setTop (mkF m 82 #[.val (.ref a1), .val (.ref x), .val (.int (Int32.ofNat i)), .val (.int (cs.getD i 0))] [])) _
            refine XS.aloadN X197.here hx rfl (hb hby d11_82) rfl rfl ?_
            show Steps p.tables e below (T197.setTop (mkF m 83 #[.val (.ref a1), .val (.ref x), .val (.int (Int32.ofNat i)), .val (.int (cs.getD i 0))] [(.ref a1)])) _
            refine st199 _ ?_
            show Steps p.tables e below (T199.setTop (mkF m 86 #[.val (.ref a1), .val (.ref x), .val (.int (Int32.ofNat i)), .val (.int (cs.getD i 0))] [.null])) _
            refine XS.ifnullYes X199.here hx rfl (pc0 := 86) (pc' := 226) rfl (hb hby d11_86) rfl (by decide) (by decide) ?_
            refine XS.iinc X199.here hx rfl (hb hby d11_226) rfl (l' := #[.val (.ref a1), .val (.ref x), .val (.int ((Int32.ofNat i) + (1 : Int32))), .val (.int (cs.getD i 0))]) rfl ?_
            refine XS.goto X199.here hx rfl (pc0 := 229) (pc' := 2) rfl (hb hby d11_229) (by decide) (by decide) ?_
            show Steps p.tables e below (T199.setTop (mkF m 2 #[.val (.ref a1), .val (.ref x), .val (.int ((Int32.ofNat i) + (1 : Int32))), .val (.int (cs.getD i 0))] [])) _
            exact kt
          refine ⟨_, _, X199, N197, ?_, ?_, pre209⟩
          · rw [e199]; exact K197
          · unfold own_step; rw [if_neg hc24_13, if_neg hc30_149, if_neg hc44_165, if_neg hc56_180]; rw [e199]; exact ⟨c200, c201, c198, c202, c203, c204, c205, c206, c207, c208, Fw197⟩
set_option maxRecDepth 65536 in
theorem own_loop {p : Program} {l : Launch} {e : Env} {s : State} {m : MethodId} {args : Array Value} {below : List Frame} {meth : Method} {c : Code} {Z : State} {a0 : Array Value} {h0 : Heap} {n0 : Nat} {a1 x : Addr} {cs : List Int32} {G1 : Int32} {fm : Value} (hx : p.tables.exec = Jvm.exec) (hZ : Z.Warmed39 s.vm) (hw : ∀ d ∈ tables_1, d.before a0 Z = true) (hby : c.code = prog_64_method_4_code) (hml : c.maxLocals = 4) (hown : s.vm.findClass "com/example/reed/reed/engine/Integrality" = some m.cls) (Z0 : n0 ≤ h0.size) (OLD0 : Old Z n0 h0) (SCS : Sta Z Z.heap "java/lang/String" "COMPACT_STRINGS" "Z" (.int G1)) (P5 : ¬ (G1 = (0 : Int32))) (SSI : Sta Z Z.heap "jdk/internal/util/Preconditions" "SIOOBE_FORMATTER" "Ljava/util/function/BiFunction;" fm) (rfm : fm.isRef = true) (g_a1 : n0 ≤ a1) (XSt : own_str Z h0 x cs) (hcs : ∀ c ∈ cs, own_c255 c) (hlen : cs.length ≤ 4000) :
    ∀ (k i : Nat) (T0 : State) (locs : List Loc) (sl : Slot) (st : own_S), i + k = cs.length → (sl = .unset ∨ ∃ q, sl = .val (.int q)) → Stand p l e ({ frames := 5, cells := 0, slots := 0, locals := 66 } : Room) s m args below meth c T0 locs 0 0 → Fr n0 locs → Keep h0 T0.heap [a1] → own_F Z T0.heap a1 st → own_str Z T0.heap x cs →
      ∃ (T' : State) (locs' : List Loc) (sl' : Slot), Stand p l e ({ frames := 5, cells := 0, slots := 0, locals := 66 } : Room) s m args below meth c T' locs' 0 0 ∧ Fr n0 locs' ∧ Keep h0 T'.heap [a1] ∧ own_F Z T'.heap a1 ((cs.drop i).foldl own_step st) ∧ own_str Z T'.heap x cs ∧ ∀ t, Steps p.tables e below (T'.setTop (mkF m 2 #[.val (.ref a1), .val (.ref x), .val (.int (Int32.ofNat cs.length)), sl'] [])) t → Steps p.tables e below (T0.setTop (mkF m 2 #[.val (.ref a1), .val (.ref x), .val (.int (Int32.ofNat i)), sl] [])) t := by
  intro k
  induction k with
  | zero =>
    intro i T0 locs sl st hik hsl X N K F S
    have hi : i = cs.length := by omega
    subst hi
    rw [List.drop_length]
    exact ⟨T0, locs, sl, X, N, K, F, S, fun t k => k⟩
  | succ k ih =>
    intro i T0 locs sl st hik hsl X N K F S
    have hi : i < cs.length := by omega
    have hin : (Int32.ofNat i) < (Int32.ofNat cs.length) := by
      rw [Int32.lt_iff_toInt_lt, Int32.toInt_ofNat_of_lt (by omega), Int32.toInt_ofNat_of_lt (by omega)]; omega
    obtain ⟨T1, locs1, X1, N1, K1, F1, st1⟩ := own_turn X hx hZ hw hby hml hown rfl N (Nat.le_trans Z0 K.1) (OLD0.keep K (allS g_a1 all0)) SCS P5 SSI rfm g_a1 F S hcs hlen hi hin hsl
    rw [own_i32] at st1
    obtain ⟨T2, locs2, sl2, X2, N2, K2, F2, S2, st2⟩ := ih (i + 1) T1 locs1 _ _ (by omega) (Or.inr ⟨_, rfl⟩) X1 N1 (K.trans K1 (allS (Or.inl (List.mem_of_getElem? (i := 0) rfl)) all0)) F1 (own_strK hw S F.1 K1 (hw _ (List.mem_of_getElem? (i := 44) rfl)))
    have hd : cs.drop i = cs.getD i 0 :: cs.drop (i + 1) := by
      rw [List.drop_eq_getElem_cons hi]; simp [List.getD_eq_getElem?_getD, hi]
    rw [hd]
    exact ⟨T2, locs2, sl2, X2, N2, K2, F2, S2, fun t k => st1 t (st2 t k)⟩
theorem d11_0 : decode prog_64_method_4_code 0 = .ok (.iconst 0, 1) := by decide +kernel
theorem d11_1 : decode prog_64_method_4_code 1 = .ok (.istore_n 2, 1) := by decide +kernel
theorem d11_232 : decode prog_64_method_4_code 232 = .ok (.return_, 1) := by decide +kernel
theorem pn_11 : plainName "com/example/reed/reed/engine/Integrality" = true := by first | (simp [plainName, overriddenIn]; done) | decide +kernel
theorem ef_11 (m : MethodId) (a1 : Addr) (x : Addr) : entryFrame m #[(.ref a1), (.ref x)] 4 = (mkF m 0 #[.val (.ref a1), .val (.ref x), .unset, .unset] []) := by first | (simp [entryFrame, mkF, argsToLocals, Value.category]; done) | rfl
def Q11 (Z : State) (a1 : Addr) (x : Addr) (cs : List Int32) (st : own_S) (G1 : Int32) (fm : Value) (h0 : Heap) (n0 : Nat) (v : Option Value) (h : Heap) (L : List Loc) : Prop := v = none ∧ Fr n0 L ∧ Keep h0 h [a1] ∧ own_F Z h a1 (cs.foldl own_step st)
set_option maxRecDepth 65536 in
set_option maxHeartbeats 40000000 in
theorem rm11 (l : Launch) (Z : State) (a0 : Array Value) (hw : ∀ d ∈ tables_1, d.before a0 Z = true) (ws : List Jvm.Cond) (a1 : Addr) (x : Addr) (cs : List Int32) (st : own_S) (G1 : Int32) (fm : Value) (h0 : Heap) (n0 : Nat) (Z0 : n0 ≤ h0.size) (OLD0 : Old Z n0 h0) (SCS : Sta Z Z.heap "java/lang/String" "COMPACT_STRINGS" "Z" (.int G1)) (P5 : ¬ (G1 = (0 : Int32))) (SSI : Sta Z Z.heap "jdk/internal/util/Preconditions" "SIOOBE_FORMATTER" "Ljava/util/function/BiFunction;" fm) (rfm : fm.isRef = true) (g_a1 : n0 ≤ a1) (FG : own_F Z h0 a1 st) (XSt : own_str Z h0 x cs) (hcs : ∀ c ∈ cs, own_c255 c) (hlen : cs.length ≤ 4000) :
    MetFree l (⟨"com/example/reed/reed/engine/Integrality", "add", "(Ljava/lang/CharSequence;)V"⟩ : MethodName) (head1 (Jvm.Cond.code (⟨"com/example/reed/reed/engine/Integrality", "add", "(Ljava/lang/CharSequence;)V"⟩ : MethodName) prog_64_method_4_code 4 none :: ws) ({ frames := 5, cells := 0, slots := 0, locals := 66 } : Room)) (fun a U => a = #[(.ref a1), (.ref x)] ∧ Z.Warmed39 U.vm ∧ U.heap = h0) (fun _ _ _ _ _ => True) (fun _ U o U' => ∃ v L, o = .returned v ∧ Q11 Z a1 x cs st G1 fm h0 n0 v U'.heap L ∧ FrameEnd U o U' L ({ frames := 5, cells := 0, slots := 0, locals := 66 } : Room).cells ({ frames := 5, cells := 0, slots := 0, locals := 66 } : Room).slots) := by
  refine MetFree.of_bodySF (plainFor_of_name pn_11) hisR ?_
  intro p e s m args below meth c s₁ Bd hml0 hP hK
  obtain ⟨rfl, hZ, hh⟩ := hP
  have hx := Bd.exec
  have hby := Bd.bytes
  have hml : c.maxLocals = 4 := hml0
  have hown : s.vm.findClass "com/example/reed/reed/engine/Integrality" = some m.cls := findClass_of_methodNamed Bd.named
  have hnm := (name_of_methodNamed Bd.named Bd.method).1
  have X0 : Stand p l e ({ frames := 5, cells := 0, slots := 0, locals := 66 } : Room) s m #[(.ref a1), (.ref x)] below meth c s₁ [] 0 0 := Stand.of_body Bd
  have e0 : s₁.heap = h0 := by rw [← hh, Bd.state]; rfl
  have N0 := Fr.nil n0
  have K0 := Keep.refl h0 ([a1] : List Addr)
  have pre0 : ∀ t, Steps p.tables e below (s₁.setTop (mkF m 0 #[.val (.ref a1), .val (.ref x), .unset, .unset] [])) t → Steps p.tables e below (s₁.setTop (entryFrame m #[(.ref a1), (.ref x)] 4)) t := fun t k => castTop (ef_11 m a1 x) k
  have pre1 : ∀ t, Steps p.tables e below (s₁.setTop (mkF m 2 #[.val (.ref a1), .val (.ref x), .val (.int (0 : Int32)), .unset] [])) t → Steps p.tables e below (s₁.setTop (entryFrame m #[(.ref a1), (.ref x)] 4)) t := by
    intro t kt
    refine pre0 _ ?_
    show Steps p.tables e below (s₁.setTop (mkF m 0 #[.val (.ref a1), .val (.ref x), .unset, .unset] [])) _
    refine XS.iconst X0.here hx rfl (hb hby d11_0) ?_
    refine XS.istoreN X0.here hx rfl (hb hby d11_1) rfl (l' := #[.val (.ref a1), .val (.ref x), .val (.int (0 : Int32)), .unset]) rfl ?_
    show Steps p.tables e below (s₁.setTop (mkF m 2 #[.val (.ref a1), .val (.ref x), .val (.int (0 : Int32)), .unset] [])) _
    exact kt
  obtain ⟨T2, L2, sl2, X2, N2, K2, FG2, XSt2, st2⟩ := own_loop hx hZ hw hby hml hown Z0 OLD0 SCS P5 SSI rfm g_a1 XSt hcs hlen cs.length 0 s₁ [] .unset st (by omega) (Or.inl rfl) X0 N0 (by rw [e0]; exact K0) (by rw [e0]; exact FG) (by rw [e0]; exact XSt)
  rw [List.drop_zero] at FG2
  obtain ⟨xt, xk, xe, xc, xv, xa⟩ := id XSt2
  have OL4 : Old Z n0 T2.heap := OLD0.keep K2 (allS g_a1 all0)
  obtain ⟨cq3, kq3', q3a, q3b, q3c⟩ := isOf hZ rfl xe
  obtain ⟨_, _, ⟨T3, L3, k3, n3⟩, -, X3, ⟨Lc3, hQ3, l3, y3, z3⟩, st3⟩ := X2.interfaceBack hx (xi := (⟨"java/lang/CharSequence", "length", "()I"⟩ : MethodName)) (y := (⟨"java/lang/String", "length", "()I"⟩ : MethodName)) hown (mvT hZ (hw _ (List.mem_of_getElem? (i := 59) rfl))) (mvT hZ (hw _ (List.mem_of_getElem? (i := 60) rfl))) (mvT hZ (hw _ (List.mem_of_getElem? (i := 61) rfl))) (mvT hZ (hw _ (List.mem_of_getElem? (i := 62) rfl))) (mvT hZ (hw _ (List.mem_of_getElem? (i := 63) rfl))) (mvT hZ (hw _ (List.mem_of_getElem? (i := 64) rfl))) (mvT hZ (hw _ (List.mem_of_getElem? (i := 65) rfl))) (mvT hZ (hw _ (List.mem_of_getElem? (i := 66) rfl))) (by decide) (StrChars.Road.lenW (W := 1) hZ (hwsL a0 Z hw) (kI := 4) (hw _ (List.mem_of_getElem? (i := 6) rfl)) xe xv xc xa (StrChars.Road.codOf rfl (fun c hc => (hcs c hc).2)) (own_up hcs) (SCS.ext OL4.2) P5 hlen (by decide) (by decide)) q3a q3b q3c (g := (mkF m 4 #[.val (.ref a1), .val (.ref x), .val (.int (Int32.ofNat cs.length)), sl2] [(.ref x), (.int (Int32.ofNat cs.length))])) rfl (by rw [hml]; rfl) (Steps.refl _) (argsL := []) (rest := [(.int (Int32.ofNat cs.length))]) (lenOf pd___I rfl) rfl (by show 2 * 0 + _ ≤ _; exact Nat.le_of_eq rfl) (hb hby d11_4) (fun _ _ => ⟨rfl, rfl, (by decide : 0 + 0 ≤ _), (by decide : 0 + 0 ≤ _)⟩)
  dsimp only [Pt.U, Pt.locs, Pt.cells, Pt.slots] at X3 l3 y3 z3 st3 hQ3
  subst l3 y3 z3
  obtain ⟨rfl, rfl, hq3⟩ := hQ3
  rw [List.append_nil] at X3
  have E3 : Ext T2.heap T3.heap := by rw [hq3]; exact ⟨Nat.le_refl _, fun _ _ q => q⟩
  have K3 := K2.ext E3
  have hk5 : ¬ ((Int32.ofNat cs.length) < (Int32.ofNat cs.length)) := (by rw [Int32.lt_iff_toInt_lt]; omega)
  obtain ⟨fs, hr, hrun, hended, hW, hsame⟩ := X3.leave (v := none) (fun _ => rfl)
  refine ⟨_, _, pre1 _ ?_, hrun, hended, _, _, rfl, ?_, ⟨_, rfl⟩, hW, hsame.mono (by decide) (by decide)⟩
  ·
    show Steps p.tables e below (s₁.setTop (mkF m 2 #[.val (.ref a1), .val (.ref x), .val (.int (0 : Int32)), .unset] [])) _
    refine st2 _ ?_
    show Steps p.tables e below (T2.setTop (mkF m 2 #[.val (.ref a1), .val (.ref x), .val (.int (Int32.ofNat cs.length)), sl2] [])) _
    refine XS.iloadN X2.here hx rfl (hb hby d11_2) rfl ?_
    refine XS.aloadN X2.here hx rfl (hb hby d11_3) rfl rfl ?_
    show Steps p.tables e below (T2.setTop (mkF m 4 #[.val (.ref a1), .val (.ref x), .val (.int (Int32.ofNat cs.length)), sl2] [(.ref x), (.int (Int32.ofNat cs.length))])) _
    refine st3.trans ?_
    show Steps p.tables e below (T3.setTop (mkF m 9 #[.val (.ref a1), .val (.ref x), .val (.int (Int32.ofNat cs.length)), sl2] [(.int (Int32.ofNat cs.length)), (.int (Int32.ofNat cs.length))])) _
    refine XS.icmpYes X3.here hx rfl (pc0 := 9) (pc' := 232) rfl (hb hby d11_9) rfl (flt hk5).2.1 (by decide) (by decide) ?_
    show Steps p.tables e below (T3.setTop (mkF m 232 #[.val (.ref a1), .val (.ref x), .val (.int (Int32.ofNat cs.length)), sl2] [])) _
    exact X3.returnOut hx Bd.returns (hb hby d11_232) hr
  ·
    show Q11 Z a1 x cs st G1 fm h0 n0 _ T3.heap _
    exact ⟨rfl, N2, K3, (by rw [hq3]; exact FG2)⟩
theorem pd___V : parseMethodDescriptor "()V" = some ⟨[], none⟩ := by decide +kernel
theorem pd___Z : parseMethodDescriptor "()Z" = some ⟨[], some .boolean⟩ := by decide +kernel
theorem pd__I_I : parseMethodDescriptor "(I)I" = some ⟨[.int], some .int⟩ := by decide +kernel
theorem pd__Ljava_lang_CharSequence__V : parseMethodDescriptor "(Ljava/lang/CharSequence;)V" = some ⟨[(.object "java/lang/CharSequence")], none⟩ := by decide +kernel
set_option maxRecDepth 65536 in
set_option maxHeartbeats 40000000 in
theorem own_tail {p : Program} {l : Launch} {e : Env} {s : State} {m : MethodId} {args : Array Value} {below : List Frame} {meth : Method} {c : Code} {T0 : State} {locs : List Loc} {Z : State} {a0 : Array Value} {h0 : Heap} {n0 : Nat} {p0 p1 p2 p3 il fl el es up ng i0 i1 i2 f0 f1 f2 y0 y1 sc : Int32} {x1 x2 x3 x4 x5 : Addr} {cs1 cs2 cs3 cs4 cs5 : List Int32} {G1 : Int32} {fm : Value}
    (X0 : Stand p l e room_1 s m args below meth c T0 locs 30 2000) (hx : p.tables.exec = Jvm.exec) (hZ : Z.Warmed39 s.vm) (hw : ∀ d ∈ tables_1, d.before a0 Z = true) (hby : c.code = code) (hml : c.maxLocals = 33) (hown : s.vm.findClass "com/example/reed/reed/engine/IntegralityIsIntegerPinLaw" = some m.cls) (e0 : T0.heap = h0) (N0 : Fr n0 locs) (Z0 : n0 ≤ h0.size) (OLD0 : Old Z n0 h0) (SCS : Sta Z Z.heap "java/lang/String" "COMPACT_STRINGS" "Z" (.int G1)) (P5 : ¬ (G1 = (0 : Int32))) (SSI : Sta Z Z.heap "jdk/internal/util/Preconditions" "SIOOBE_FORMATTER" "Ljava/util/function/BiFunction;" fm) (rfm : fm.isRef = true) (XSt1 : own_str Z h0 x1 cs1) (XSt2 : own_str Z h0 x2 cs2) (XSt3 : own_str Z h0 x3 cs3) (XSt4 : own_str Z h0 x4 cs4) (XSt5 : own_str Z h0 x5 cs5) (hcs1 : ∀ c ∈ cs1, own_c255 c) (hcs2 : ∀ c ∈ cs2, own_c255 c) (hcs3 : ∀ c ∈ cs3, own_c255 c) (hcs4 : ∀ c ∈ cs4, own_c255 c) (hcs5 : ∀ c ∈ cs5, own_c255 c) (hlen1 : cs1.length ≤ 4000) (hlen2 : cs2.length ≤ 4000) (hlen3 : cs3.length ≤ 4000) (hlen4 : cs4.length ≤ 4000) (hlen5 : cs5.length ≤ 4000) (HL : own_is (own_fold cs1 cs2 cs3 cs4 cs5) = own_want il fl el es i0 i1 i2 f0 f1 f2 y0 y1) :
    ∃ (T' : State) (Ls : Array Slot) (locs' : List Loc), Stand p l e room_1 s m args below meth c T' locs' 40 2240 ∧ Fr n0 locs' ∧ h0.size ≤ T'.heap.size ∧ ∀ t, Steps p.tables e below (T'.setTop (mkF m 564 Ls [.int (1 : Int32)])) t → Steps p.tables e below (T0.setTop (mkF m 303 #[.val (.int p0), .val (.int p1), .val (.int p2), .val (.int p3), .val (.int il), .val (.int fl), .val (.int el), .val (.int es), .val (.int up), .val (.int ng), .val (.int i0), .val (.int i1), .val (.int i2), .val (.int f0), .val (.int f1), .val (.int f2), .val (.int y0), .val (.int y1), .val (.ref x1), .val (.ref x2), .val (.ref x3), .val (.int sc), .val (.ref x4), .val (.ref x5), .unset, .unset, .unset, .unset, .unset, .unset, .unset, .unset, .unset] [])) t := by
  have pre0 : ∀ t, Steps p.tables e below (T0.setTop (mkF m 303 #[.val (.int p0), .val (.int p1), .val (.int p2), .val (.int p3), .val (.int il), .val (.int fl), .val (.int el), .val (.int es), .val (.int up), .val (.int ng), .val (.int i0), .val (.int i1), .val (.int i2), .val (.int f0), .val (.int f1), .val (.int f2), .val (.int y0), .val (.int y1), .val (.ref x1), .val (.ref x2), .val (.ref x3), .val (.int sc), .val (.ref x4), .val (.ref x5), .unset, .unset, .unset, .unset, .unset, .unset, .unset, .unset, .unset] [])) t → Steps p.tables e below (T0.setTop (mkF m 303 #[.val (.int p0), .val (.int p1), .val (.int p2), .val (.int p3), .val (.int il), .val (.int fl), .val (.int el), .val (.int es), .val (.int up), .val (.int ng), .val (.int i0), .val (.int i1), .val (.int i2), .val (.int f0), .val (.int f1), .val (.int f2), .val (.int y0), .val (.int y1), .val (.ref x1), .val (.ref x2), .val (.ref x3), .val (.int sc), .val (.ref x4), .val (.ref x5), .unset, .unset, .unset, .unset, .unset, .unset, .unset, .unset, .unset] [])) t := fun t k => k
  have K0 := Keep.refl h0 ([] : List Addr)
  obtain ⟨T1, h1, X1, e1, E1, A1, D1, -, st1⟩ := newO X0 hx hZ hown (hw _ (List.mem_of_getElem? (i := 43) rfl)) (hw _ (List.mem_of_getElem? (i := 44) rfl)) (hw _ (List.mem_of_getElem? (i := 45) rfl)) e0 (g := (mkF m 303 #[.val (.int p0), .val (.int p1), .val (.int p2), .val (.int p3), .val (.int il), .val (.int fl), .val (.int el), .val (.int es), .val (.int up), .val (.int ng), .val (.int i0), .val (.int i1), .val (.int i2), .val (.int f0), .val (.int f1), .val (.int f2), .val (.int y0), .val (.int y1), .val (.ref x1), .val (.ref x2), .val (.ref x3), .val (.int sc), .val (.ref x4), .val (.ref x5), .unset, .unset, .unset, .unset, .unset, .unset, .unset, .unset, .unset] [])) rfl (hb hby at_303) (by decide) (by decide)
  obtain ⟨b1, g1⟩ : ∃ z, z = h0.size := ⟨_, rfl⟩
  rw [← g1] at A1 D1 st1
  have g_b1 : n0 ≤ b1 := Nat.le_trans (Nat.le_trans Z0 K0.1) (Nat.le_of_eq g1.symm)
  have sz_b1 : h0.size ≤ b1 := Nat.le_trans K0.1 (Nat.le_of_eq g1.symm)
  have K1 := K0.ext E1
  have F_significand_b1 : Fld Z h1 b1 "com/example/reed/reed/engine/Integrality" "significand" "Lcom/example/reed/reed/engine/Digits;" .null := D1 (Or.inr (hw _ (List.mem_of_getElem? (i := 51) rfl))) (ty := (.object "com/example/reed/reed/engine/Digits")) (by decide)
  have F_exponentDigits_b1 : Fld Z h1 b1 "com/example/reed/reed/engine/Integrality" "exponentDigits" "Lcom/example/reed/reed/engine/Digits;" .null := D1 (Or.inr (hw _ (List.mem_of_getElem? (i := 53) rfl))) (ty := (.object "com/example/reed/reed/engine/Digits")) (by decide)
  have F_inExponent_b1 : Fld Z h1 b1 "com/example/reed/reed/engine/Integrality" "inExponent" "Z" (.int (0 : Int32)) := D1 (Or.inl (hw _ (List.mem_of_getElem? (i := 99) rfl))) (ty := .boolean) (by decide)
  have F_nonZero_b1 : Fld Z h1 b1 "com/example/reed/reed/engine/Integrality" "nonZero" "Z" (.int (0 : Int32)) := D1 (Or.inl (hw _ (List.mem_of_getElem? (i := 101) rfl))) (ty := .boolean) (by decide)
  have F_trailingZeros_b1 : Fld Z h1 b1 "com/example/reed/reed/engine/Integrality" "trailingZeros" "J" (.long (0 : Int64)) := D1 (Or.inl (hw _ (List.mem_of_getElem? (i := 103) rfl))) (ty := .long) (by decide)
  have F_inFraction_b1 : Fld Z h1 b1 "com/example/reed/reed/engine/Integrality" "inFraction" "Z" (.int (0 : Int32)) := D1 (Or.inl (hw _ (List.mem_of_getElem? (i := 105) rfl))) (ty := .boolean) (by decide)
  have F_negativeExponent_b1 : Fld Z h1 b1 "com/example/reed/reed/engine/Integrality" "negativeExponent" "Z" (.int (0 : Int32)) := D1 (Or.inl (hw _ (List.mem_of_getElem? (i := 112) rfl))) (ty := .boolean) (by decide)
  have F_exponent_b1 : Fld Z h1 b1 "com/example/reed/reed/engine/Integrality" "exponent" "J" (.long (0 : Int64)) := D1 (Or.inl (hw _ (List.mem_of_getElem? (i := 114) rfl))) (ty := .long) (by decide)
  have F_fractionDigits_b1 : Fld Z h1 b1 "com/example/reed/reed/engine/Integrality" "fractionDigits" "J" (.long (0 : Int64)) := D1 (Or.inl (hw _ (List.mem_of_getElem? (i := 116) rfl))) (ty := .long) (by decide)
  have F_negative_b1 : Fld Z h1 b1 "com/example/reed/reed/engine/Integrality" "negative" "Z" (.int (0 : Int32)) := D1 (Or.inl (hw _ (List.mem_of_getElem? (i := 137) rfl))) (ty := .boolean) (by decide)
  have fg0 : own_F Z h1 b1 own_st0 := ⟨A1, F_significand_b1, F_exponentDigits_b1, F_inFraction_b1, F_inExponent_b1, F_negative_b1, F_negativeExponent_b1, F_nonZero_b1, F_trailingZeros_b1, F_fractionDigits_b1, F_exponent_b1⟩
  obtain ⟨_, _, ⟨T2, L2, k2, n2⟩, -, X2, ⟨Lc2, hQ2, l2, y2, z2⟩, st2⟩ := X1.specialBack hx (y := (⟨"com/example/reed/reed/engine/Integrality", "<init>", "()V"⟩ : MethodName)) rfl hown (mvT hZ (hw _ (List.mem_of_getElem? (i := 46) rfl))) (mvT hZ (hw _ (List.mem_of_getElem? (i := 47) rfl))) (mvT hZ (hw _ (List.mem_of_getElem? (i := 48) rfl))) (by decide) (backOf (W := 1) (rm10 l Z a0 hw [] b1 own_st0 h1 n0 (Nat.le_trans Z0 K1.1) fg0 g_b1) hZ (hw _ (List.mem_of_getElem? (i := 48) rfl)) (hw _ (List.mem_of_getElem? (i := 45) rfl)) (by decide) (by decide)) (g := (mkF m 307 #[.val (.int p0), .val (.int p1), .val (.int p2), .val (.int p3), .val (.int il), .val (.int fl), .val (.int el), .val (.int es), .val (.int up), .val (.int ng), .val (.int i0), .val (.int i1), .val (.int i2), .val (.int f0), .val (.int f1), .val (.int f2), .val (.int y0), .val (.int y1), .val (.ref x1), .val (.ref x2), .val (.ref x3), .val (.int sc), .val (.ref x4), .val (.ref x5), .unset, .unset, .unset, .unset, .unset, .unset, .unset, .unset, .unset] [(.ref b1), (.ref b1)])) rfl (by rw [hml]; rfl) (Steps.refl _) (a := b1) (argsL := []) (rest := [(.ref b1)]) (lenOf pd___V rfl) rfl (by show 2 * 0 + _ ≤ _; exact Nat.le_of_eq rfl) (hb hby at_307) (fun _ _ => ⟨rfl, e1, (by decide : 31 + 0 ≤ _), (by decide : 2010 + 0 ≤ _)⟩)
  dsimp only [Pt.U, Pt.locs, Pt.cells, Pt.slots] at X2 l2 y2 z2 st2 hQ2
  subst l2 y2 z2
  obtain ⟨rfl, N2q, kq2, fg2⟩ := hQ2
  have N2 := Fr.app N0 N2q
  have K2 := K1.trans kq2 (allS (Or.inr sz_b1) all0)
  have OLD3 : Old Z n0 T2.heap := OLD0.keep K2 all0
  have c4 := (A1.keep kq2)
  obtain ⟨cq3, kq3, q3a, q3b, q3c⟩ := isOf hZ rfl c4
  obtain ⟨_, _, ⟨T3, L3, k3, n3⟩, -, X3, ⟨Lc3, hQ3, l3, y3, z3⟩, st3⟩ := X2.virtualBack hx (y := (⟨"com/example/reed/reed/engine/Integrality", "add", "(Ljava/lang/CharSequence;)V"⟩ : MethodName)) (z := (⟨"com/example/reed/reed/engine/Integrality", "add", "(Ljava/lang/CharSequence;)V"⟩ : MethodName)) hown (mvT hZ (hw _ (List.mem_of_getElem? (i := 54) rfl))) (mvT hZ (hw _ (List.mem_of_getElem? (i := 55) rfl))) (notFace_of_selects (args := #[]) (mvT hZ (hw _ (List.mem_of_getElem? (i := 57) rfl)))) (mvT hZ (hw _ (List.mem_of_getElem? (i := 57) rfl))) (mvT hZ (hw _ (List.mem_of_getElem? (i := 56) rfl))) (by decide) (backOf (W := 0) (rm11 l Z a0 hw [] b1 x1 cs1 own_st0 G1 fm T2.heap n0 (Nat.le_trans Z0 K2.1) OLD3 SCS P5 SSI rfm g_b1 fg2 (own_strP XSt1 K2) hcs1 hlen1) hZ (hw _ (List.mem_of_getElem? (i := 58) rfl)) (hw _ (List.mem_of_getElem? (i := 45) rfl)) (by decide) (by decide)) q3a q3c (g := (mkF m 316 #[.val (.int p0), .val (.int p1), .val (.int p2), .val (.int p3), .val (.int il), .val (.int fl), .val (.int el), .val (.int es), .val (.int up), .val (.int ng), .val (.int i0), .val (.int i1), .val (.int i2), .val (.int f0), .val (.int f1), .val (.int f2), .val (.int y0), .val (.int y1), .val (.ref x1), .val (.ref x2), .val (.ref x3), .val (.int sc), .val (.ref x4), .val (.ref x5), .val (.ref b1), .unset, .unset, .unset, .unset, .unset, .unset, .unset, .unset] [(.ref x1), (.ref b1)])) rfl (by rw [hml]; rfl) (Steps.refl _) (argsL := [(.ref x1)]) (rest := []) (lenOf pd__Ljava_lang_CharSequence__V rfl) rfl (by show 2 * 0 + _ ≤ _; exact Nat.le_of_eq rfl) (hb hby at_316) (fun _ _ => ⟨rfl, rfl, (by decide : 31 + 0 ≤ _), (by decide : 2010 + 0 ≤ _)⟩)
  dsimp only [Pt.U, Pt.locs, Pt.cells, Pt.slots] at X3 l3 y3 z3 st3 hQ3
  subst l3 y3 z3
  obtain ⟨rfl, N3q, kq3, fg3⟩ := hQ3
  have N3 := Fr.app N2 N3q
  have K3 := K2.trans kq3 (allS (Or.inr sz_b1) all0)
  have OLD5 : Old Z n0 T3.heap := OLD0.keep K3 all0
  have c6 := (c4.keep kq3)
  obtain ⟨cq5, kq5, q5a, q5b, q5c⟩ := isOf hZ rfl c6
  obtain ⟨_, _, ⟨T5, L5, k5, n5⟩, -, X5, ⟨Lc5, hQ5, l5, y5, z5⟩, st5⟩ := X3.virtualBack hx (y := (⟨"com/example/reed/reed/engine/Integrality", "add", "(Ljava/lang/CharSequence;)V"⟩ : MethodName)) (z := (⟨"com/example/reed/reed/engine/Integrality", "add", "(Ljava/lang/CharSequence;)V"⟩ : MethodName)) hown (mvT hZ (hw _ (List.mem_of_getElem? (i := 54) rfl))) (mvT hZ (hw _ (List.mem_of_getElem? (i := 55) rfl))) (notFace_of_selects (args := #[]) (mvT hZ (hw _ (List.mem_of_getElem? (i := 57) rfl)))) (mvT hZ (hw _ (List.mem_of_getElem? (i := 57) rfl))) (mvT hZ (hw _ (List.mem_of_getElem? (i := 56) rfl))) (by decide) (backOf (W := 0) (rm11 l Z a0 hw [] b1 x2 cs2 (cs1.foldl own_step own_st0) G1 fm T3.heap n0 (Nat.le_trans Z0 K3.1) OLD5 SCS P5 SSI rfm g_b1 fg3 (own_strP XSt2 K3) hcs2 hlen2) hZ (hw _ (List.mem_of_getElem? (i := 58) rfl)) (hw _ (List.mem_of_getElem? (i := 45) rfl)) (by decide) (by decide)) q5a q5c (g := (mkF m 323 #[.val (.int p0), .val (.int p1), .val (.int p2), .val (.int p3), .val (.int il), .val (.int fl), .val (.int el), .val (.int es), .val (.int up), .val (.int ng), .val (.int i0), .val (.int i1), .val (.int i2), .val (.int f0), .val (.int f1), .val (.int f2), .val (.int y0), .val (.int y1), .val (.ref x1), .val (.ref x2), .val (.ref x3), .val (.int sc), .val (.ref x4), .val (.ref x5), .val (.ref b1), .unset, .unset, .unset, .unset, .unset, .unset, .unset, .unset] [(.ref x2), (.ref b1)])) rfl (by rw [hml]; rfl) (Steps.refl _) (argsL := [(.ref x2)]) (rest := []) (lenOf pd__Ljava_lang_CharSequence__V rfl) rfl (by show 2 * 0 + _ ≤ _; exact Nat.le_of_eq rfl) (hb hby at_323) (fun _ _ => ⟨rfl, rfl, (by decide : 31 + 0 ≤ _), (by decide : 2010 + 0 ≤ _)⟩)
  dsimp only [Pt.U, Pt.locs, Pt.cells, Pt.slots] at X5 l5 y5 z5 st5 hQ5
  subst l5 y5 z5
  obtain ⟨rfl, N5q, kq5, fg5⟩ := hQ5
  have N5 := Fr.app N3 N5q
  have K5 := K3.trans kq5 (allS (Or.inr sz_b1) all0)
  have OLD7 : Old Z n0 T5.heap := OLD0.keep K5 all0
  have c8 := (c6.keep kq5)
  obtain ⟨cq7, kq7, q7a, q7b, q7c⟩ := isOf hZ rfl c8
  obtain ⟨_, _, ⟨T7, L7, k7, n7⟩, -, X7, ⟨Lc7, hQ7, l7, y7, z7⟩, st7⟩ := X5.virtualBack hx (y := (⟨"com/example/reed/reed/engine/Integrality", "add", "(Ljava/lang/CharSequence;)V"⟩ : MethodName)) (z := (⟨"com/example/reed/reed/engine/Integrality", "add", "(Ljava/lang/CharSequence;)V"⟩ : MethodName)) hown (mvT hZ (hw _ (List.mem_of_getElem? (i := 54) rfl))) (mvT hZ (hw _ (List.mem_of_getElem? (i := 55) rfl))) (notFace_of_selects (args := #[]) (mvT hZ (hw _ (List.mem_of_getElem? (i := 57) rfl)))) (mvT hZ (hw _ (List.mem_of_getElem? (i := 57) rfl))) (mvT hZ (hw _ (List.mem_of_getElem? (i := 56) rfl))) (by decide) (backOf (W := 0) (rm11 l Z a0 hw [] b1 x3 cs3 (cs2.foldl own_step (cs1.foldl own_step own_st0)) G1 fm T5.heap n0 (Nat.le_trans Z0 K5.1) OLD7 SCS P5 SSI rfm g_b1 fg5 (own_strP XSt3 K5) hcs3 hlen3) hZ (hw _ (List.mem_of_getElem? (i := 58) rfl)) (hw _ (List.mem_of_getElem? (i := 45) rfl)) (by decide) (by decide)) q7a q7c (g := (mkF m 330 #[.val (.int p0), .val (.int p1), .val (.int p2), .val (.int p3), .val (.int il), .val (.int fl), .val (.int el), .val (.int es), .val (.int up), .val (.int ng), .val (.int i0), .val (.int i1), .val (.int i2), .val (.int f0), .val (.int f1), .val (.int f2), .val (.int y0), .val (.int y1), .val (.ref x1), .val (.ref x2), .val (.ref x3), .val (.int sc), .val (.ref x4), .val (.ref x5), .val (.ref b1), .unset, .unset, .unset, .unset, .unset, .unset, .unset, .unset] [(.ref x3), (.ref b1)])) rfl (by rw [hml]; rfl) (Steps.refl _) (argsL := [(.ref x3)]) (rest := []) (lenOf pd__Ljava_lang_CharSequence__V rfl) rfl (by show 2 * 0 + _ ≤ _; exact Nat.le_of_eq rfl) (hb hby at_330) (fun _ _ => ⟨rfl, rfl, (by decide : 31 + 0 ≤ _), (by decide : 2010 + 0 ≤ _)⟩)
  dsimp only [Pt.U, Pt.locs, Pt.cells, Pt.slots] at X7 l7 y7 z7 st7 hQ7
  subst l7 y7 z7
  obtain ⟨rfl, N7q, kq7, fg7⟩ := hQ7
  have N7 := Fr.app N5 N7q
  have K7 := K5.trans kq7 (allS (Or.inr sz_b1) all0)
  have OLD9 : Old Z n0 T7.heap := OLD0.keep K7 all0
  have c10 := (c8.keep kq7)
  obtain ⟨cq9, kq9, q9a, q9b, q9c⟩ := isOf hZ rfl c10
  obtain ⟨_, _, ⟨T9, L9, k9, n9⟩, -, X9, ⟨Lc9, hQ9, l9, y9, z9⟩, st9⟩ := X7.virtualBack hx (y := (⟨"com/example/reed/reed/engine/Integrality", "add", "(Ljava/lang/CharSequence;)V"⟩ : MethodName)) (z := (⟨"com/example/reed/reed/engine/Integrality", "add", "(Ljava/lang/CharSequence;)V"⟩ : MethodName)) hown (mvT hZ (hw _ (List.mem_of_getElem? (i := 54) rfl))) (mvT hZ (hw _ (List.mem_of_getElem? (i := 55) rfl))) (notFace_of_selects (args := #[]) (mvT hZ (hw _ (List.mem_of_getElem? (i := 57) rfl)))) (mvT hZ (hw _ (List.mem_of_getElem? (i := 57) rfl))) (mvT hZ (hw _ (List.mem_of_getElem? (i := 56) rfl))) (by decide) (backOf (W := 0) (rm11 l Z a0 hw [] b1 x4 cs4 (cs3.foldl own_step (cs2.foldl own_step (cs1.foldl own_step own_st0))) G1 fm T7.heap n0 (Nat.le_trans Z0 K7.1) OLD9 SCS P5 SSI rfm g_b1 fg7 (own_strP XSt4 K7) hcs4 hlen4) hZ (hw _ (List.mem_of_getElem? (i := 58) rfl)) (hw _ (List.mem_of_getElem? (i := 45) rfl)) (by decide) (by decide)) q9a q9c (g := (mkF m 337 #[.val (.int p0), .val (.int p1), .val (.int p2), .val (.int p3), .val (.int il), .val (.int fl), .val (.int el), .val (.int es), .val (.int up), .val (.int ng), .val (.int i0), .val (.int i1), .val (.int i2), .val (.int f0), .val (.int f1), .val (.int f2), .val (.int y0), .val (.int y1), .val (.ref x1), .val (.ref x2), .val (.ref x3), .val (.int sc), .val (.ref x4), .val (.ref x5), .val (.ref b1), .unset, .unset, .unset, .unset, .unset, .unset, .unset, .unset] [(.ref x4), (.ref b1)])) rfl (by rw [hml]; rfl) (Steps.refl _) (argsL := [(.ref x4)]) (rest := []) (lenOf pd__Ljava_lang_CharSequence__V rfl) rfl (by show 2 * 0 + _ ≤ _; exact Nat.le_of_eq rfl) (hb hby at_337) (fun _ _ => ⟨rfl, rfl, (by decide : 31 + 0 ≤ _), (by decide : 2010 + 0 ≤ _)⟩)
  dsimp only [Pt.U, Pt.locs, Pt.cells, Pt.slots] at X9 l9 y9 z9 st9 hQ9
  subst l9 y9 z9
  obtain ⟨rfl, N9q, kq9, fg9⟩ := hQ9
  have N9 := Fr.app N7 N9q
  have K9 := K7.trans kq9 (allS (Or.inr sz_b1) all0)
  have OLD11 : Old Z n0 T9.heap := OLD0.keep K9 all0
  have c12 := (c10.keep kq9)
  obtain ⟨cq11, kq11, q11a, q11b, q11c⟩ := isOf hZ rfl c12
  obtain ⟨_, _, ⟨T11, L11, k11, n11⟩, -, X11, ⟨Lc11, hQ11, l11, y11, z11⟩, st11⟩ := X9.virtualBack hx (y := (⟨"com/example/reed/reed/engine/Integrality", "add", "(Ljava/lang/CharSequence;)V"⟩ : MethodName)) (z := (⟨"com/example/reed/reed/engine/Integrality", "add", "(Ljava/lang/CharSequence;)V"⟩ : MethodName)) hown (mvT hZ (hw _ (List.mem_of_getElem? (i := 54) rfl))) (mvT hZ (hw _ (List.mem_of_getElem? (i := 55) rfl))) (notFace_of_selects (args := #[]) (mvT hZ (hw _ (List.mem_of_getElem? (i := 57) rfl)))) (mvT hZ (hw _ (List.mem_of_getElem? (i := 57) rfl))) (mvT hZ (hw _ (List.mem_of_getElem? (i := 56) rfl))) (by decide) (backOf (W := 0) (rm11 l Z a0 hw [] b1 x5 cs5 (cs4.foldl own_step (cs3.foldl own_step (cs2.foldl own_step (cs1.foldl own_step own_st0)))) G1 fm T9.heap n0 (Nat.le_trans Z0 K9.1) OLD11 SCS P5 SSI rfm g_b1 fg9 (own_strP XSt5 K9) hcs5 hlen5) hZ (hw _ (List.mem_of_getElem? (i := 58) rfl)) (hw _ (List.mem_of_getElem? (i := 45) rfl)) (by decide) (by decide)) q11a q11c (g := (mkF m 344 #[.val (.int p0), .val (.int p1), .val (.int p2), .val (.int p3), .val (.int il), .val (.int fl), .val (.int el), .val (.int es), .val (.int up), .val (.int ng), .val (.int i0), .val (.int i1), .val (.int i2), .val (.int f0), .val (.int f1), .val (.int f2), .val (.int y0), .val (.int y1), .val (.ref x1), .val (.ref x2), .val (.ref x3), .val (.int sc), .val (.ref x4), .val (.ref x5), .val (.ref b1), .unset, .unset, .unset, .unset, .unset, .unset, .unset, .unset] [(.ref x5), (.ref b1)])) rfl (by rw [hml]; rfl) (Steps.refl _) (argsL := [(.ref x5)]) (rest := []) (lenOf pd__Ljava_lang_CharSequence__V rfl) rfl (by show 2 * 0 + _ ≤ _; exact Nat.le_of_eq rfl) (hb hby at_344) (fun _ _ => ⟨rfl, rfl, (by decide : 31 + 0 ≤ _), (by decide : 2010 + 0 ≤ _)⟩)
  dsimp only [Pt.U, Pt.locs, Pt.cells, Pt.slots] at X11 l11 y11 z11 st11 hQ11
  subst l11 y11 z11
  obtain ⟨rfl, N11q, kq11, fg11⟩ := hQ11
  have N11 := Fr.app N9 N11q
  have K11 := K9.trans kq11 (allS (Or.inr sz_b1) all0)
  have c14 := (c12.keep kq11)
  obtain ⟨cq13, kq13, q13a, q13b, q13c⟩ := isOf hZ rfl c14
  obtain ⟨_, _, ⟨T13, L13, k13, n13⟩, -, X13, ⟨Lc13, hQ13, l13, y13, z13⟩, st13⟩ := X11.virtualBack hx (y := (⟨"com/example/reed/reed/engine/Integrality", "isInteger", "()Z"⟩ : MethodName)) (z := (⟨"com/example/reed/reed/engine/Integrality", "isInteger", "()Z"⟩ : MethodName)) hown (mvT hZ (hw _ (List.mem_of_getElem? (i := 106) rfl))) (mvT hZ (hw _ (List.mem_of_getElem? (i := 107) rfl))) (notFace_of_selects (args := #[]) (mvT hZ (hw _ (List.mem_of_getElem? (i := 109) rfl)))) (mvT hZ (hw _ (List.mem_of_getElem? (i := 109) rfl))) (mvT hZ (hw _ (List.mem_of_getElem? (i := 108) rfl))) (by decide) (backOf (W := 0) (rm19 l Z a0 hw [] b1 (cs5.foldl own_step (cs4.foldl own_step (cs3.foldl own_step (cs2.foldl own_step (cs1.foldl own_step own_st0))))) T11.heap n0 (Nat.le_trans Z0 K11.1) fg11) hZ (hw _ (List.mem_of_getElem? (i := 110) rfl)) (hw _ (List.mem_of_getElem? (i := 45) rfl)) (by decide) (by decide)) q13a q13c (g := (mkF m 349 #[.val (.int p0), .val (.int p1), .val (.int p2), .val (.int p3), .val (.int il), .val (.int fl), .val (.int el), .val (.int es), .val (.int up), .val (.int ng), .val (.int i0), .val (.int i1), .val (.int i2), .val (.int f0), .val (.int f1), .val (.int f2), .val (.int y0), .val (.int y1), .val (.ref x1), .val (.ref x2), .val (.ref x3), .val (.int sc), .val (.ref x4), .val (.ref x5), .val (.ref b1), .unset, .unset, .unset, .unset, .unset, .unset, .unset, .unset] [(.ref b1)])) rfl (by rw [hml]; rfl) (Steps.refl _) (argsL := []) (rest := []) (lenOf pd___Z rfl) rfl (by show 2 * 0 + _ ≤ _; exact Nat.le_of_eq rfl) (hb hby at_349) (fun _ _ => ⟨rfl, rfl, (by decide : 31 + 0 ≤ _), (by decide : 2010 + 0 ≤ _)⟩)
  dsimp only [Pt.U, Pt.locs, Pt.cells, Pt.slots] at X13 l13 y13 z13 st13 hQ13
  subst l13 y13 z13
  obtain ⟨rfl, N13q, hq13⟩ := hQ13
  have N13 := Fr.app N11 N13q
  have E13 : Ext T11.heap T13.heap := by rw [hq13]; exact ⟨Nat.le_refl _, fun _ _ q => q⟩
  have K13 := K11.ext E13
  obtain ⟨v17, hv17⟩ : ∃ z : Int32, z = if il = (2 : Int32) then ((i0 * (10 : Int32)) + i1) else (((i0 * (100 : Int32)) + (i1 * (10 : Int32))) + i2) := ⟨_, rfl⟩
  obtain ⟨v19, hv19⟩ : ∃ z : Int32, z = if il = (1 : Int32) then i0 else v17 := ⟨_, rfl⟩
  have mg20 : ∀ t, Steps p.tables e below (T13.setTop (mkF m 396 #[.val (.int p0), .val (.int p1), .val (.int p2), .val (.int p3), .val (.int il), .val (.int fl), .val (.int el), .val (.int es), .val (.int up), .val (.int ng), .val (.int i0), .val (.int i1), .val (.int i2), .val (.int f0), .val (.int f1), .val (.int f2), .val (.int y0), .val (.int y1), .val (.ref x1), .val (.ref x2), .val (.ref x3), .val (.int sc), .val (.ref x4), .val (.ref x5), .val (.ref b1), .val (.int (own_is (own_fold cs1 cs2 cs3 cs4 cs5))), .unset, .unset, .unset, .unset, .unset, .unset, .unset] [(.int v19)])) t → Steps p.tables e below (T13.setTop (mkF m 357 #[.val (.int p0), .val (.int p1), .val (.int p2), .val (.int p3), .val (.int il), .val (.int fl), .val (.int el), .val (.int es), .val (.int up), .val (.int ng), .val (.int i0), .val (.int i1), .val (.int i2), .val (.int f0), .val (.int f1), .val (.int f2), .val (.int y0), .val (.int y1), .val (.ref x1), .val (.ref x2), .val (.ref x3), .val (.int sc), .val (.ref x4), .val (.ref x5), .val (.ref b1), .val (.int (own_is (own_fold cs1 cs2 cs3 cs4 cs5))), .unset, .unset, .unset, .unset, .unset, .unset, .unset] [(.int (1 : Int32)), (.int il)])) t := by
    intro t kt
    by_cases hm15 : il = (1 : Int32)
    ·
      have ev19 : v19 = i0 := by rw [hv19, if_pos hm15]
      rw [ev19] at kt
      refine (fun t (k : Steps p.tables e below (T13.setTop (mkF m 357 #[.val (.int p0), .val (.int p1), .val (.int p2), .val (.int p3), .val (.int il), .val (.int fl), .val (.int el), .val (.int es), .val (.int up), .val (.int ng), .val (.int i0), .val (.int i1), .val (.int i2), .val (.int f0), .val (.int f1), .val (.int f2), .val (.int y0), .val (.int y1), .val (.ref x1), .val (.ref x2), .val (.ref x3), .val (.int sc), .val (.ref x4), .val (.ref x5), .val (.ref b1), .val (.int (own_is (own_fold cs1 cs2 cs3 cs4 cs5))), .unset, .unset, .unset, .unset, .unset, .unset, .unset] [(.int (1 : Int32)), (.int il)])) t) => k) _ ?_
      refine XS.icmpNo X13.here hx rfl (hb hby at_357) rfl (teq hm15).2 ?_
      refine XS.iload X13.here hx rfl (hb hby at_360) rfl ?_
      refine XS.goto X13.here hx rfl (pc0 := 362) (pc' := 396) rfl (hb hby at_362) (by decide) (by decide) ?_
      show Steps p.tables e below (T13.setTop (mkF m 396 #[.val (.int p0), .val (.int p1), .val (.int p2), .val (.int p3), .val (.int il), .val (.int fl), .val (.int el), .val (.int es), .val (.int up), .val (.int ng), .val (.int i0), .val (.int i1), .val (.int i2), .val (.int f0), .val (.int f1), .val (.int f2), .val (.int y0), .val (.int y1), .val (.ref x1), .val (.ref x2), .val (.ref x3), .val (.int sc), .val (.ref x4), .val (.ref x5), .val (.ref b1), .val (.int (own_is (own_fold cs1 cs2 cs3 cs4 cs5))), .unset, .unset, .unset, .unset, .unset, .unset, .unset] [(.int i0)])) _
      exact kt
    ·
      have ev19 : v19 = v17 := by rw [hv19, if_neg hm15]
      rw [ev19] at kt
      have mg18 : ∀ t, Steps p.tables e below (T13.setTop (mkF m 396 #[.val (.int p0), .val (.int p1), .val (.int p2), .val (.int p3), .val (.int il), .val (.int fl), .val (.int el), .val (.int es), .val (.int up), .val (.int ng), .val (.int i0), .val (.int i1), .val (.int i2), .val (.int f0), .val (.int f1), .val (.int f2), .val (.int y0), .val (.int y1), .val (.ref x1), .val (.ref x2), .val (.ref x3), .val (.int sc), .val (.ref x4), .val (.ref x5), .val (.ref b1), .val (.int (own_is (own_fold cs1 cs2 cs3 cs4 cs5))), .unset, .unset, .unset, .unset, .unset, .unset, .unset] [(.int v17)])) t → Steps p.tables e below (T13.setTop (mkF m 368 #[.val (.int p0), .val (.int p1), .val (.int p2), .val (.int p3), .val (.int il), .val (.int fl), .val (.int el), .val (.int es), .val (.int up), .val (.int ng), .val (.int i0), .val (.int i1), .val (.int i2), .val (.int f0), .val (.int f1), .val (.int f2), .val (.int y0), .val (.int y1), .val (.ref x1), .val (.ref x2), .val (.ref x3), .val (.int sc), .val (.ref x4), .val (.ref x5), .val (.ref b1), .val (.int (own_is (own_fold cs1 cs2 cs3 cs4 cs5))), .unset, .unset, .unset, .unset, .unset, .unset, .unset] [(.int (2 : Int32)), (.int il)])) t := by
        intro t kt
        by_cases hm16 : il = (2 : Int32)
        ·
          have ev17 : v17 = ((i0 * (10 : Int32)) + i1) := by rw [hv17, if_pos hm16]
          rw [ev17] at kt
          refine (fun t (k : Steps p.tables e below (T13.setTop (mkF m 368 #[.val (.int p0), .val (.int p1), .val (.int p2), .val (.int p3), .val (.int il), .val (.int fl), .val (.int el), .val (.int es), .val (.int up), .val (.int ng), .val (.int i0), .val (.int i1), .val (.int i2), .val (.int f0), .val (.int f1), .val (.int f2), .val (.int y0), .val (.int y1), .val (.ref x1), .val (.ref x2), .val (.ref x3), .val (.int sc), .val (.ref x4), .val (.ref x5), .val (.ref b1), .val (.int (own_is (own_fold cs1 cs2 cs3 cs4 cs5))), .unset, .unset, .unset, .unset, .unset, .unset, .unset] [(.int (2 : Int32)), (.int il)])) t) => k) _ ?_
          refine XS.icmpNo X13.here hx rfl (hb hby at_368) rfl (teq hm16).2 ?_
          refine XS.iload X13.here hx rfl (hb hby at_371) rfl ?_
          refine XS.bipush X13.here hx rfl (hb hby at_373) ?_
          show Steps p.tables e below (T13.setTop (mkF m 375 #[.val (.int p0), .val (.int p1), .val (.int p2), .val (.int p3), .val (.int il), .val (.int fl), .val (.int el), .val (.int es), .val (.int up), .val (.int ng), .val (.int i0), .val (.int i1), .val (.int i2), .val (.int f0), .val (.int f1), .val (.int f2), .val (.int y0), .val (.int y1), .val (.ref x1), .val (.ref x2), .val (.ref x3), .val (.int sc), .val (.ref x4), .val (.ref x5), .val (.ref b1), .val (.int (own_is (own_fold cs1 cs2 cs3 cs4 cs5))), .unset, .unset, .unset, .unset, .unset, .unset, .unset] [(.int (10 : Int32)), (.int i0)])) _
          refine XS.imul X13.here hx rfl (hb hby at_375) rfl ?_
          refine XS.iload X13.here hx rfl (hb hby at_376) rfl ?_
          refine XS.iadd X13.here hx rfl (hb hby at_378) rfl ?_
          show Steps p.tables e below (T13.setTop (mkF m 379 #[.val (.int p0), .val (.int p1), .val (.int p2), .val (.int p3), .val (.int il), .val (.int fl), .val (.int el), .val (.int es), .val (.int up), .val (.int ng), .val (.int i0), .val (.int i1), .val (.int i2), .val (.int f0), .val (.int f1), .val (.int f2), .val (.int y0), .val (.int y1), .val (.ref x1), .val (.ref x2), .val (.ref x3), .val (.int sc), .val (.ref x4), .val (.ref x5), .val (.ref b1), .val (.int (own_is (own_fold cs1 cs2 cs3 cs4 cs5))), .unset, .unset, .unset, .unset, .unset, .unset, .unset] [(.int ((i0 * (10 : Int32)) + i1))])) _
          refine XS.goto X13.here hx rfl (pc0 := 379) (pc' := 396) rfl (hb hby at_379) (by decide) (by decide) ?_
          show Steps p.tables e below (T13.setTop (mkF m 396 #[.val (.int p0), .val (.int p1), .val (.int p2), .val (.int p3), .val (.int il), .val (.int fl), .val (.int el), .val (.int es), .val (.int up), .val (.int ng), .val (.int i0), .val (.int i1), .val (.int i2), .val (.int f0), .val (.int f1), .val (.int f2), .val (.int y0), .val (.int y1), .val (.ref x1), .val (.ref x2), .val (.ref x3), .val (.int sc), .val (.ref x4), .val (.ref x5), .val (.ref b1), .val (.int (own_is (own_fold cs1 cs2 cs3 cs4 cs5))), .unset, .unset, .unset, .unset, .unset, .unset, .unset] [(.int ((i0 * (10 : Int32)) + i1))])) _
          exact kt
        ·
          have ev17 : v17 = (((i0 * (100 : Int32)) + (i1 * (10 : Int32))) + i2) := by rw [hv17, if_neg hm16]
          rw [ev17] at kt
          refine (fun t (k : Steps p.tables e below (T13.setTop (mkF m 368 #[.val (.int p0), .val (.int p1), .val (.int p2), .val (.int p3), .val (.int il), .val (.int fl), .val (.int el), .val (.int es), .val (.int up), .val (.int ng), .val (.int i0), .val (.int i1), .val (.int i2), .val (.int f0), .val (.int f1), .val (.int f2), .val (.int y0), .val (.int y1), .val (.ref x1), .val (.ref x2), .val (.ref x3), .val (.int sc), .val (.ref x4), .val (.ref x5), .val (.ref b1), .val (.int (own_is (own_fold cs1 cs2 cs3 cs4 cs5))), .unset, .unset, .unset, .unset, .unset, .unset, .unset] [(.int (2 : Int32)), (.int il)])) t) => k) _ ?_
          refine XS.icmpYes X13.here hx rfl (pc0 := 368) (pc' := 382) rfl (hb hby at_368) rfl (feq hm16).2 (by decide) (by decide) ?_
          refine XS.iload X13.here hx rfl (hb hby at_382) rfl ?_
          refine XS.bipush X13.here hx rfl (hb hby at_384) ?_
          show Steps p.tables e below (T13.setTop (mkF m 386 #[.val (.int p0), .val (.int p1), .val (.int p2), .val (.int p3), .val (.int il), .val (.int fl), .val (.int el), .val (.int es), .val (.int up), .val (.int ng), .val (.int i0), .val (.int i1), .val (.int i2), .val (.int f0), .val (.int f1), .val (.int f2), .val (.int y0), .val (.int y1), .val (.ref x1), .val (.ref x2), .val (.ref x3), .val (.int sc), .val (.ref x4), .val (.ref x5), .val (.ref b1), .val (.int (own_is (own_fold cs1 cs2 cs3 cs4 cs5))), .unset, .unset, .unset, .unset, .unset, .unset, .unset] [(.int (100 : Int32)), (.int i0)])) _
          refine XS.imul X13.here hx rfl (hb hby at_386) rfl ?_
          refine XS.iload X13.here hx rfl (hb hby at_387) rfl ?_
          refine XS.bipush X13.here hx rfl (hb hby at_389) ?_
          show Steps p.tables e below (T13.setTop (mkF m 391 #[.val (.int p0), .val (.int p1), .val (.int p2), .val (.int p3), .val (.int il), .val (.int fl), .val (.int el), .val (.int es), .val (.int up), .val (.int ng), .val (.int i0), .val (.int i1), .val (.int i2), .val (.int f0), .val (.int f1), .val (.int f2), .val (.int y0), .val (.int y1), .val (.ref x1), .val (.ref x2), .val (.ref x3), .val (.int sc), .val (.ref x4), .val (.ref x5), .val (.ref b1), .val (.int (own_is (own_fold cs1 cs2 cs3 cs4 cs5))), .unset, .unset, .unset, .unset, .unset, .unset, .unset] [(.int (10 : Int32)), (.int i1), (.int (i0 * (100 : Int32)))])) _
          refine XS.imul X13.here hx rfl (hb hby at_391) rfl ?_
          refine XS.iadd X13.here hx rfl (hb hby at_392) rfl ?_
          refine XS.iload X13.here hx rfl (hb hby at_393) rfl ?_
          show Steps p.tables e below (T13.setTop (mkF m 395 #[.val (.int p0), .val (.int p1), .val (.int p2), .val (.int p3), .val (.int il), .val (.int fl), .val (.int el), .val (.int es), .val (.int up), .val (.int ng), .val (.int i0), .val (.int i1), .val (.int i2), .val (.int f0), .val (.int f1), .val (.int f2), .val (.int y0), .val (.int y1), .val (.ref x1), .val (.ref x2), .val (.ref x3), .val (.int sc), .val (.ref x4), .val (.ref x5), .val (.ref b1), .val (.int (own_is (own_fold cs1 cs2 cs3 cs4 cs5))), .unset, .unset, .unset, .unset, .unset, .unset, .unset] [(.int i2), (.int ((i0 * (100 : Int32)) + (i1 * (10 : Int32))))])) _
          refine XS.iadd X13.here hx rfl (hb hby at_395) rfl ?_
          show Steps p.tables e below (T13.setTop (mkF m 396 #[.val (.int p0), .val (.int p1), .val (.int p2), .val (.int p3), .val (.int il), .val (.int fl), .val (.int el), .val (.int es), .val (.int up), .val (.int ng), .val (.int i0), .val (.int i1), .val (.int i2), .val (.int f0), .val (.int f1), .val (.int f2), .val (.int y0), .val (.int y1), .val (.ref x1), .val (.ref x2), .val (.ref x3), .val (.int sc), .val (.ref x4), .val (.ref x5), .val (.ref b1), .val (.int (own_is (own_fold cs1 cs2 cs3 cs4 cs5))), .unset, .unset, .unset, .unset, .unset, .unset, .unset] [(.int (((i0 * (100 : Int32)) + (i1 * (10 : Int32))) + i2))])) _
          exact kt
      refine (fun t (k : Steps p.tables e below (T13.setTop (mkF m 357 #[.val (.int p0), .val (.int p1), .val (.int p2), .val (.int p3), .val (.int il), .val (.int fl), .val (.int el), .val (.int es), .val (.int up), .val (.int ng), .val (.int i0), .val (.int i1), .val (.int i2), .val (.int f0), .val (.int f1), .val (.int f2), .val (.int y0), .val (.int y1), .val (.ref x1), .val (.ref x2), .val (.ref x3), .val (.int sc), .val (.ref x4), .val (.ref x5), .val (.ref b1), .val (.int (own_is (own_fold cs1 cs2 cs3 cs4 cs5))), .unset, .unset, .unset, .unset, .unset, .unset, .unset] [(.int (1 : Int32)), (.int il)])) t) => k) _ ?_
      refine XS.icmpYes X13.here hx rfl (pc0 := 357) (pc' := 365) rfl (hb hby at_357) rfl (feq hm15).2 (by decide) (by decide) ?_
      refine XS.iload X13.here hx rfl (hb hby at_365) rfl ?_
      refine XS.iconst X13.here hx rfl (hb hby at_367) ?_
      show Steps p.tables e below (T13.setTop (mkF m 368 #[.val (.int p0), .val (.int p1), .val (.int p2), .val (.int p3), .val (.int il), .val (.int fl), .val (.int el), .val (.int es), .val (.int up), .val (.int ng), .val (.int i0), .val (.int i1), .val (.int i2), .val (.int f0), .val (.int f1), .val (.int f2), .val (.int y0), .val (.int y1), .val (.ref x1), .val (.ref x2), .val (.ref x3), .val (.int sc), .val (.ref x4), .val (.ref x5), .val (.ref b1), .val (.int (own_is (own_fold cs1 cs2 cs3 cs4 cs5))), .unset, .unset, .unset, .unset, .unset, .unset, .unset] [(.int (2 : Int32)), (.int il)])) _
      refine mg18 _ ?_
      show Steps p.tables e below (T13.setTop (mkF m 396 #[.val (.int p0), .val (.int p1), .val (.int p2), .val (.int p3), .val (.int il), .val (.int fl), .val (.int el), .val (.int es), .val (.int up), .val (.int ng), .val (.int i0), .val (.int i1), .val (.int i2), .val (.int f0), .val (.int f1), .val (.int f2), .val (.int y0), .val (.int y1), .val (.ref x1), .val (.ref x2), .val (.ref x3), .val (.int sc), .val (.ref x4), .val (.ref x5), .val (.ref b1), .val (.int (own_is (own_fold cs1 cs2 cs3 cs4 cs5))), .unset, .unset, .unset, .unset, .unset, .unset, .unset] [(.int v17)])) _
      exact kt
  obtain ⟨v24, hv24⟩ : ∃ z : Int32, z = if fl = (2 : Int32) then ((f0 * (10 : Int32)) + f1) else (((f0 * (100 : Int32)) + (f1 * (10 : Int32))) + f2) := ⟨_, rfl⟩
  obtain ⟨v26, hv26⟩ : ∃ z : Int32, z = if fl = (1 : Int32) then f0 else v24 := ⟨_, rfl⟩
  obtain ⟨v28, hv28⟩ : ∃ z : Int32, z = if fl = (0 : Int32) then (0 : Int32) else v26 := ⟨_, rfl⟩
  have mg29 : ∀ t, Steps p.tables e below (T13.setTop (mkF m 449 #[.val (.int p0), .val (.int p1), .val (.int p2), .val (.int p3), .val (.int il), .val (.int fl), .val (.int el), .val (.int es), .val (.int up), .val (.int ng), .val (.int i0), .val (.int i1), .val (.int i2), .val (.int f0), .val (.int f1), .val (.int f2), .val (.int y0), .val (.int y1), .val (.ref x1), .val (.ref x2), .val (.ref x3), .val (.int sc), .val (.ref x4), .val (.ref x5), .val (.ref b1), .val (.int (own_is (own_fold cs1 cs2 cs3 cs4 cs5))), .val (.int v19), .unset, .unset, .unset, .unset, .unset, .unset] [(.int v28)])) t → Steps p.tables e below (T13.setTop (mkF m 400 #[.val (.int p0), .val (.int p1), .val (.int p2), .val (.int p3), .val (.int il), .val (.int fl), .val (.int el), .val (.int es), .val (.int up), .val (.int ng), .val (.int i0), .val (.int i1), .val (.int i2), .val (.int f0), .val (.int f1), .val (.int f2), .val (.int y0), .val (.int y1), .val (.ref x1), .val (.ref x2), .val (.ref x3), .val (.int sc), .val (.ref x4), .val (.ref x5), .val (.ref b1), .val (.int (own_is (own_fold cs1 cs2 cs3 cs4 cs5))), .val (.int v19), .unset, .unset, .unset, .unset, .unset, .unset] [(.int fl)])) t := by
    intro t kt
    by_cases hm21 : fl = (0 : Int32)
    ·
      have ev28 : v28 = (0 : Int32) := by rw [hv28, if_pos hm21]
      rw [ev28] at kt
      refine (fun t (k : Steps p.tables e below (T13.setTop (mkF m 400 #[.val (.int p0), .val (.int p1), .val (.int p2), .val (.int p3), .val (.int il), .val (.int fl), .val (.int el), .val (.int es), .val (.int up), .val (.int ng), .val (.int i0), .val (.int i1), .val (.int i2), .val (.int f0), .val (.int f1), .val (.int f2), .val (.int y0), .val (.int y1), .val (.ref x1), .val (.ref x2), .val (.ref x3), .val (.int sc), .val (.ref x4), .val (.ref x5), .val (.ref b1), .val (.int (own_is (own_fold cs1 cs2 cs3 cs4 cs5))), .val (.int v19), .unset, .unset, .unset, .unset, .unset, .unset] [(.int fl)])) t) => k) _ ?_
      refine XS.ifNo X13.here hx rfl (hb hby at_400) rfl ((if0 _ _).trans (teq hm21).2) ?_
      refine XS.iconst X13.here hx rfl (hb hby at_403) ?_
      refine XS.goto X13.here hx rfl (pc0 := 404) (pc' := 449) rfl (hb hby at_404) (by decide) (by decide) ?_
      show Steps p.tables e below (T13.setTop (mkF m 449 #[.val (.int p0), .val (.int p1), .val (.int p2), .val (.int p3), .val (.int il), .val (.int fl), .val (.int el), .val (.int es), .val (.int up), .val (.int ng), .val (.int i0), .val (.int i1), .val (.int i2), .val (.int f0), .val (.int f1), .val (.int f2), .val (.int y0), .val (.int y1), .val (.ref x1), .val (.ref x2), .val (.ref x3), .val (.int sc), .val (.ref x4), .val (.ref x5), .val (.ref b1), .val (.int (own_is (own_fold cs1 cs2 cs3 cs4 cs5))), .val (.int v19), .unset, .unset, .unset, .unset, .unset, .unset] [(.int (0 : Int32))])) _
      exact kt
    ·
      have ev28 : v28 = v26 := by rw [hv28, if_neg hm21]
      rw [ev28] at kt
      have mg27 : ∀ t, Steps p.tables e below (T13.setTop (mkF m 449 #[.val (.int p0), .val (.int p1), .val (.int p2), .val (.int p3), .val (.int il), .val (.int fl), .val (.int el), .val (.int es), .val (.int up), .val (.int ng), .val (.int i0), .val (.int i1), .val (.int i2), .val (.int f0), .val (.int f1), .val (.int f2), .val (.int y0), .val (.int y1), .val (.ref x1), .val (.ref x2), .val (.ref x3), .val (.int sc), .val (.ref x4), .val (.ref x5), .val (.ref b1), .val (.int (own_is (own_fold cs1 cs2 cs3 cs4 cs5))), .val (.int v19), .unset, .unset, .unset, .unset, .unset, .unset] [(.int v26)])) t → Steps p.tables e below (T13.setTop (mkF m 410 #[.val (.int p0), .val (.int p1), .val (.int p2), .val (.int p3), .val (.int il), .val (.int fl), .val (.int el), .val (.int es), .val (.int up), .val (.int ng), .val (.int i0), .val (.int i1), .val (.int i2), .val (.int f0), .val (.int f1), .val (.int f2), .val (.int y0), .val (.int y1), .val (.ref x1), .val (.ref x2), .val (.ref x3), .val (.int sc), .val (.ref x4), .val (.ref x5), .val (.ref b1), .val (.int (own_is (own_fold cs1 cs2 cs3 cs4 cs5))), .val (.int v19), .unset, .unset, .unset, .unset, .unset, .unset] [(.int (1 : Int32)), (.int fl)])) t := by
        intro t kt
        by_cases hm22 : fl = (1 : Int32)
        ·
          have ev26 : v26 = f0 := by rw [hv26, if_pos hm22]
          rw [ev26] at kt
          refine (fun t (k : Steps p.tables e below (T13.setTop (mkF m 410 #[.val (.int p0), .val (.int p1), .val (.int p2), .val (.int p3), .val (.int il), .val (.int fl), .val (.int el), .val (.int es), .val (.int up), .val (.int ng), .val (.int i0), .val (.int i1), .val (.int i2), .val (.int f0), .val (.int f1), .val (.int f2), .val (.int y0), .val (.int y1), .val (.ref x1), .val (.ref x2), .val (.ref x3), .val (.int sc), .val (.ref x4), .val (.ref x5), .val (.ref b1), .val (.int (own_is (own_fold cs1 cs2 cs3 cs4 cs5))), .val (.int v19), .unset, .unset, .unset, .unset, .unset, .unset] [(.int (1 : Int32)), (.int fl)])) t) => k) _ ?_
          refine XS.icmpNo X13.here hx rfl (hb hby at_410) rfl (teq hm22).2 ?_
          refine XS.iload X13.here hx rfl (hb hby at_413) rfl ?_
          refine XS.goto X13.here hx rfl (pc0 := 415) (pc' := 449) rfl (hb hby at_415) (by decide) (by decide) ?_
          show Steps p.tables e below (T13.setTop (mkF m 449 #[.val (.int p0), .val (.int p1), .val (.int p2), .val (.int p3), .val (.int il), .val (.int fl), .val (.int el), .val (.int es), .val (.int up), .val (.int ng), .val (.int i0), .val (.int i1), .val (.int i2), .val (.int f0), .val (.int f1), .val (.int f2), .val (.int y0), .val (.int y1), .val (.ref x1), .val (.ref x2), .val (.ref x3), .val (.int sc), .val (.ref x4), .val (.ref x5), .val (.ref b1), .val (.int (own_is (own_fold cs1 cs2 cs3 cs4 cs5))), .val (.int v19), .unset, .unset, .unset, .unset, .unset, .unset] [(.int f0)])) _
          exact kt
        ·
          have ev26 : v26 = v24 := by rw [hv26, if_neg hm22]
          rw [ev26] at kt
          have mg25 : ∀ t, Steps p.tables e below (T13.setTop (mkF m 449 #[.val (.int p0), .val (.int p1), .val (.int p2), .val (.int p3), .val (.int il), .val (.int fl), .val (.int el), .val (.int es), .val (.int up), .val (.int ng), .val (.int i0), .val (.int i1), .val (.int i2), .val (.int f0), .val (.int f1), .val (.int f2), .val (.int y0), .val (.int y1), .val (.ref x1), .val (.ref x2), .val (.ref x3), .val (.int sc), .val (.ref x4), .val (.ref x5), .val (.ref b1), .val (.int (own_is (own_fold cs1 cs2 cs3 cs4 cs5))), .val (.int v19), .unset, .unset, .unset, .unset, .unset, .unset] [(.int v24)])) t → Steps p.tables e below (T13.setTop (mkF m 421 #[.val (.int p0), .val (.int p1), .val (.int p2), .val (.int p3), .val (.int il), .val (.int fl), .val (.int el), .val (.int es), .val (.int up), .val (.int ng), .val (.int i0), .val (.int i1), .val (.int i2), .val (.int f0), .val (.int f1), .val (.int f2), .val (.int y0), .val (.int y1), .val (.ref x1), .val (.ref x2), .val (.ref x3), .val (.int sc), .val (.ref x4), .val (.ref x5), .val (.ref b1), .val (.int (own_is (own_fold cs1 cs2 cs3 cs4 cs5))), .val (.int v19), .unset, .unset, .unset, .unset, .unset, .unset] [(.int (2 : Int32)), (.int fl)])) t := by
            intro t kt
            by_cases hm23 : fl = (2 : Int32)
            ·
              have ev24 : v24 = ((f0 * (10 : Int32)) + f1) := by rw [hv24, if_pos hm23]
              rw [ev24] at kt
              refine (fun t (k : Steps p.tables e below (T13.setTop (mkF m 421 #[.val (.int p0), .val (.int p1), .val (.int p2), .val (.int p3), .val (.int il), .val (.int fl), .val (.int el), .val (.int es), .val (.int up), .val (.int ng), .val (.int i0), .val (.int i1), .val (.int i2), .val (.int f0), .val (.int f1), .val (.int f2), .val (.int y0), .val (.int y1), .val (.ref x1), .val (.ref x2), .val (.ref x3), .val (.int sc), .val (.ref x4), .val (.ref x5), .val (.ref b1), .val (.int (own_is (own_fold cs1 cs2 cs3 cs4 cs5))), .val (.int v19), .unset, .unset, .unset, .unset, .unset, .unset] [(.int (2 : Int32)), (.int fl)])) t) => k) _ ?_
              refine XS.icmpNo X13.here hx rfl (hb hby at_421) rfl (teq hm23).2 ?_
              refine XS.iload X13.here hx rfl (hb hby at_424) rfl ?_
              refine XS.bipush X13.here hx rfl (hb hby at_426) ?_
              show Steps p.tables e below (T13.setTop (mkF m 428 #[.val (.int p0), .val (.int p1), .val (.int p2), .val (.int p3), .val (.int il), .val (.int fl), .val (.int el), .val (.int es), .val (.int up), .val (.int ng), .val (.int i0), .val (.int i1), .val (.int i2), .val (.int f0), .val (.int f1), .val (.int f2), .val (.int y0), .val (.int y1), .val (.ref x1), .val (.ref x2), .val (.ref x3), .val (.int sc), .val (.ref x4), .val (.ref x5), .val (.ref b1), .val (.int (own_is (own_fold cs1 cs2 cs3 cs4 cs5))), .val (.int v19), .unset, .unset, .unset, .unset, .unset, .unset] [(.int (10 : Int32)), (.int f0)])) _
              refine XS.imul X13.here hx rfl (hb hby at_428) rfl ?_
              refine XS.iload X13.here hx rfl (hb hby at_429) rfl ?_
              refine XS.iadd X13.here hx rfl (hb hby at_431) rfl ?_
              show Steps p.tables e below (T13.setTop (mkF m 432 #[.val (.int p0), .val (.int p1), .val (.int p2), .val (.int p3), .val (.int il), .val (.int fl), .val (.int el), .val (.int es), .val (.int up), .val (.int ng), .val (.int i0), .val (.int i1), .val (.int i2), .val (.int f0), .val (.int f1), .val (.int f2), .val (.int y0), .val (.int y1), .val (.ref x1), .val (.ref x2), .val (.ref x3), .val (.int sc), .val (.ref x4), .val (.ref x5), .val (.ref b1), .val (.int (own_is (own_fold cs1 cs2 cs3 cs4 cs5))), .val (.int v19), .unset, .unset, .unset, .unset, .unset, .unset] [(.int ((f0 * (10 : Int32)) + f1))])) _
              refine XS.goto X13.here hx rfl (pc0 := 432) (pc' := 449) rfl (hb hby at_432) (by decide) (by decide) ?_
              show Steps p.tables e below (T13.setTop (mkF m 449 #[.val (.int p0), .val (.int p1), .val (.int p2), .val (.int p3), .val (.int il), .val (.int fl), .val (.int el), .val (.int es), .val (.int up), .val (.int ng), .val (.int i0), .val (.int i1), .val (.int i2), .val (.int f0), .val (.int f1), .val (.int f2), .val (.int y0), .val (.int y1), .val (.ref x1), .val (.ref x2), .val (.ref x3), .val (.int sc), .val (.ref x4), .val (.ref x5), .val (.ref b1), .val (.int (own_is (own_fold cs1 cs2 cs3 cs4 cs5))), .val (.int v19), .unset, .unset, .unset, .unset, .unset, .unset] [(.int ((f0 * (10 : Int32)) + f1))])) _
              exact kt
            ·
              have ev24 : v24 = (((f0 * (100 : Int32)) + (f1 * (10 : Int32))) + f2) := by rw [hv24, if_neg hm23]
              rw [ev24] at kt
              refine (fun t (k : Steps p.tables e below (T13.setTop (mkF m 421 #[.val (.int p0), .val (.int p1), .val (.int p2), .val (.int p3), .val (.int il), .val (.int fl), .val (.int el), .val (.int es), .val (.int up), .val (.int ng), .val (.int i0), .val (.int i1), .val (.int i2), .val (.int f0), .val (.int f1), .val (.int f2), .val (.int y0), .val (.int y1), .val (.ref x1), .val (.ref x2), .val (.ref x3), .val (.int sc), .val (.ref x4), .val (.ref x5), .val (.ref b1), .val (.int (own_is (own_fold cs1 cs2 cs3 cs4 cs5))), .val (.int v19), .unset, .unset, .unset, .unset, .unset, .unset] [(.int (2 : Int32)), (.int fl)])) t) => k) _ ?_
              refine XS.icmpYes X13.here hx rfl (pc0 := 421) (pc' := 435) rfl (hb hby at_421) rfl (feq hm23).2 (by decide) (by decide) ?_
              refine XS.iload X13.here hx rfl (hb hby at_435) rfl ?_
              refine XS.bipush X13.here hx rfl (hb hby at_437) ?_
              show Steps p.tables e below (T13.setTop (mkF m 439 #[.val (.int p0), .val (.int p1), .val (.int p2), .val (.int p3), .val (.int il), .val (.int fl), .val (.int el), .val (.int es), .val (.int up), .val (.int ng), .val (.int i0), .val (.int i1), .val (.int i2), .val (.int f0), .val (.int f1), .val (.int f2), .val (.int y0), .val (.int y1), .val (.ref x1), .val (.ref x2), .val (.ref x3), .val (.int sc), .val (.ref x4), .val (.ref x5), .val (.ref b1), .val (.int (own_is (own_fold cs1 cs2 cs3 cs4 cs5))), .val (.int v19), .unset, .unset, .unset, .unset, .unset, .unset] [(.int (100 : Int32)), (.int f0)])) _
              refine XS.imul X13.here hx rfl (hb hby at_439) rfl ?_
              refine XS.iload X13.here hx rfl (hb hby at_440) rfl ?_
              refine XS.bipush X13.here hx rfl (hb hby at_442) ?_
              show Steps p.tables e below (T13.setTop (mkF m 444 #[.val (.int p0), .val (.int p1), .val (.int p2), .val (.int p3), .val (.int il), .val (.int fl), .val (.int el), .val (.int es), .val (.int up), .val (.int ng), .val (.int i0), .val (.int i1), .val (.int i2), .val (.int f0), .val (.int f1), .val (.int f2), .val (.int y0), .val (.int y1), .val (.ref x1), .val (.ref x2), .val (.ref x3), .val (.int sc), .val (.ref x4), .val (.ref x5), .val (.ref b1), .val (.int (own_is (own_fold cs1 cs2 cs3 cs4 cs5))), .val (.int v19), .unset, .unset, .unset, .unset, .unset, .unset] [(.int (10 : Int32)), (.int f1), (.int (f0 * (100 : Int32)))])) _
              refine XS.imul X13.here hx rfl (hb hby at_444) rfl ?_
              refine XS.iadd X13.here hx rfl (hb hby at_445) rfl ?_
              refine XS.iload X13.here hx rfl (hb hby at_446) rfl ?_
              show Steps p.tables e below (T13.setTop (mkF m 448 #[.val (.int p0), .val (.int p1), .val (.int p2), .val (.int p3), .val (.int il), .val (.int fl), .val (.int el), .val (.int es), .val (.int up), .val (.int ng), .val (.int i0), .val (.int i1), .val (.int i2), .val (.int f0), .val (.int f1), .val (.int f2), .val (.int y0), .val (.int y1), .val (.ref x1), .val (.ref x2), .val (.ref x3), .val (.int sc), .val (.ref x4), .val (.ref x5), .val (.ref b1), .val (.int (own_is (own_fold cs1 cs2 cs3 cs4 cs5))), .val (.int v19), .unset, .unset, .unset, .unset, .unset, .unset] [(.int f2), (.int ((f0 * (100 : Int32)) + (f1 * (10 : Int32))))])) _
              refine XS.iadd X13.here hx rfl (hb hby at_448) rfl ?_
              show Steps p.tables e below (T13.setTop (mkF m 449 #[.val (.int p0), .val (.int p1), .val (.int p2), .val (.int p3), .val (.int il), .val (.int fl), .val (.int el), .val (.int es), .val (.int up), .val (.int ng), .val (.int i0), .val (.int i1), .val (.int i2), .val (.int f0), .val (.int f1), .val (.int f2), .val (.int y0), .val (.int y1), .val (.ref x1), .val (.ref x2), .val (.ref x3), .val (.int sc), .val (.ref x4), .val (.ref x5), .val (.ref b1), .val (.int (own_is (own_fold cs1 cs2 cs3 cs4 cs5))), .val (.int v19), .unset, .unset, .unset, .unset, .unset, .unset] [(.int (((f0 * (100 : Int32)) + (f1 * (10 : Int32))) + f2))])) _
              exact kt
          refine (fun t (k : Steps p.tables e below (T13.setTop (mkF m 410 #[.val (.int p0), .val (.int p1), .val (.int p2), .val (.int p3), .val (.int il), .val (.int fl), .val (.int el), .val (.int es), .val (.int up), .val (.int ng), .val (.int i0), .val (.int i1), .val (.int i2), .val (.int f0), .val (.int f1), .val (.int f2), .val (.int y0), .val (.int y1), .val (.ref x1), .val (.ref x2), .val (.ref x3), .val (.int sc), .val (.ref x4), .val (.ref x5), .val (.ref b1), .val (.int (own_is (own_fold cs1 cs2 cs3 cs4 cs5))), .val (.int v19), .unset, .unset, .unset, .unset, .unset, .unset] [(.int (1 : Int32)), (.int fl)])) t) => k) _ ?_
          refine XS.icmpYes X13.here hx rfl (pc0 := 410) (pc' := 418) rfl (hb hby at_410) rfl (feq hm22).2 (by decide) (by decide) ?_
          refine XS.iload X13.here hx rfl (hb hby at_418) rfl ?_
          refine XS.iconst X13.here hx rfl (hb hby at_420) ?_
          show Steps p.tables e below (T13.setTop (mkF m 421 #[.val (.int p0), .val (.int p1), .val (.int p2), .val (.int p3), .val (.int il), .val (.int fl), .val (.int el), .val (.int es), .val (.int up), .val (.int ng), .val (.int i0), .val (.int i1), .val (.int i2), .val (.int f0), .val (.int f1), .val (.int f2), .val (.int y0), .val (.int y1), .val (.ref x1), .val (.ref x2), .val (.ref x3), .val (.int sc), .val (.ref x4), .val (.ref x5), .val (.ref b1), .val (.int (own_is (own_fold cs1 cs2 cs3 cs4 cs5))), .val (.int v19), .unset, .unset, .unset, .unset, .unset, .unset] [(.int (2 : Int32)), (.int fl)])) _
          refine mg25 _ ?_
          show Steps p.tables e below (T13.setTop (mkF m 449 #[.val (.int p0), .val (.int p1), .val (.int p2), .val (.int p3), .val (.int il), .val (.int fl), .val (.int el), .val (.int es), .val (.int up), .val (.int ng), .val (.int i0), .val (.int i1), .val (.int i2), .val (.int f0), .val (.int f1), .val (.int f2), .val (.int y0), .val (.int y1), .val (.ref x1), .val (.ref x2), .val (.ref x3), .val (.int sc), .val (.ref x4), .val (.ref x5), .val (.ref b1), .val (.int (own_is (own_fold cs1 cs2 cs3 cs4 cs5))), .val (.int v19), .unset, .unset, .unset, .unset, .unset, .unset] [(.int v24)])) _
          exact kt
      refine (fun t (k : Steps p.tables e below (T13.setTop (mkF m 400 #[.val (.int p0), .val (.int p1), .val (.int p2), .val (.int p3), .val (.int il), .val (.int fl), .val (.int el), .val (.int es), .val (.int up), .val (.int ng), .val (.int i0), .val (.int i1), .val (.int i2), .val (.int f0), .val (.int f1), .val (.int f2), .val (.int y0), .val (.int y1), .val (.ref x1), .val (.ref x2), .val (.ref x3), .val (.int sc), .val (.ref x4), .val (.ref x5), .val (.ref b1), .val (.int (own_is (own_fold cs1 cs2 cs3 cs4 cs5))), .val (.int v19), .unset, .unset, .unset, .unset, .unset, .unset] [(.int fl)])) t) => k) _ ?_
      refine XS.ifYes X13.here hx rfl (pc0 := 400) (pc' := 407) rfl (hb hby at_400) rfl ((if0 _ _).trans (feq hm21).2) (by decide) (by decide) ?_
      refine XS.iload X13.here hx rfl (hb hby at_407) rfl ?_
      refine XS.iconst X13.here hx rfl (hb hby at_409) ?_
      show Steps p.tables e below (T13.setTop (mkF m 410 #[.val (.int p0), .val (.int p1), .val (.int p2), .val (.int p3), .val (.int il), .val (.int fl), .val (.int el), .val (.int es), .val (.int up), .val (.int ng), .val (.int i0), .val (.int i1), .val (.int i2), .val (.int f0), .val (.int f1), .val (.int f2), .val (.int y0), .val (.int y1), .val (.ref x1), .val (.ref x2), .val (.ref x3), .val (.int sc), .val (.ref x4), .val (.ref x5), .val (.ref b1), .val (.int (own_is (own_fold cs1 cs2 cs3 cs4 cs5))), .val (.int v19), .unset, .unset, .unset, .unset, .unset, .unset] [(.int (1 : Int32)), (.int fl)])) _
      refine mg27 _ ?_
      show Steps p.tables e below (T13.setTop (mkF m 449 #[.val (.int p0), .val (.int p1), .val (.int p2), .val (.int p3), .val (.int il), .val (.int fl), .val (.int el), .val (.int es), .val (.int up), .val (.int ng), .val (.int i0), .val (.int i1), .val (.int i2), .val (.int f0), .val (.int f1), .val (.int f2), .val (.int y0), .val (.int y1), .val (.ref x1), .val (.ref x2), .val (.ref x3), .val (.int sc), .val (.ref x4), .val (.ref x5), .val (.ref b1), .val (.int (own_is (own_fold cs1 cs2 cs3 cs4 cs5))), .val (.int v19), .unset, .unset, .unset, .unset, .unset, .unset] [(.int v26)])) _
      exact kt
  obtain ⟨_, _, ⟨T30, L30, k30, n30⟩, -, X30, ⟨Lc30, hQ30, l30, y30, z30⟩, st30⟩ := Jvm.LawKit.callS X13 hx (y := (⟨"com/example/reed/reed/engine/IntegralityIsIntegerPinLaw", "pow10", "(I)I"⟩ : MethodName)) hown (mvT hZ (hw _ (List.mem_of_getElem? (i := 117) rfl))) (mvT hZ (hw _ (List.mem_of_getElem? (i := 118) rfl))) (mvT hZ (hw _ (List.mem_of_getElem? (i := 2) rfl))) (mvT hZ (hw _ (List.mem_of_getElem? (i := 119) rfl))) (by decide) (backOf (W := 1) (rm20 l Z a0 hw [] fl T13.heap n0 (Nat.le_trans Z0 K13.1)) hZ (hw _ (List.mem_of_getElem? (i := 119) rfl)) (hw _ (List.mem_of_getElem? (i := 2) rfl)) (by decide) (by decide)) (g := (mkF m 455 #[.val (.int p0), .val (.int p1), .val (.int p2), .val (.int p3), .val (.int il), .val (.int fl), .val (.int el), .val (.int es), .val (.int up), .val (.int ng), .val (.int i0), .val (.int i1), .val (.int i2), .val (.int f0), .val (.int f1), .val (.int f2), .val (.int y0), .val (.int y1), .val (.ref x1), .val (.ref x2), .val (.ref x3), .val (.int sc), .val (.ref x4), .val (.ref x5), .val (.ref b1), .val (.int (own_is (own_fold cs1 cs2 cs3 cs4 cs5))), .val (.int v19), .val (.int v28), .unset, .unset, .unset, .unset, .unset] [(.int fl), (.int v19)])) rfl (by rw [hml]; rfl) (argsL := [(.int fl)]) (rest := [(.int v19)]) (lenOf pd__I_I rfl) rfl (by show 2 * 0 + _ ≤ _; exact Nat.le_of_eq rfl) (hb hby at_455) (fun _ _ => ⟨rfl, rfl, (by decide : 31 + 0 ≤ _), (by decide : 2010 + 0 ≤ _)⟩)
  dsimp only [Pt.U, Pt.locs, Pt.cells, Pt.slots] at X30 l30 y30 z30 st30 hQ30
  subst l30 y30 z30
  obtain ⟨rfl, N30q, hq30⟩ := hQ30
  have N30 := Fr.app N13 N30q
  have E30 : Ext T13.heap T30.heap := by rw [hq30]; exact ⟨Nat.le_refl _, fun _ _ q => q⟩
  have K30 := K13.ext E30
  obtain ⟨v33, hv33⟩ : ∃ z : Int32, z = if el = (1 : Int32) then y0 else ((y0 * (10 : Int32)) + y1) := ⟨_, rfl⟩
  obtain ⟨v35, hv35⟩ : ∃ z : Int32, z = if el = (0 : Int32) then (0 : Int32) else v33 := ⟨_, rfl⟩
  have mg36 : ∀ t, Steps p.tables e below (T30.setTop (mkF m 492 #[.val (.int p0), .val (.int p1), .val (.int p2), .val (.int p3), .val (.int il), .val (.int fl), .val (.int el), .val (.int es), .val (.int up), .val (.int ng), .val (.int i0), .val (.int i1), .val (.int i2), .val (.int f0), .val (.int f1), .val (.int f2), .val (.int y0), .val (.int y1), .val (.ref x1), .val (.ref x2), .val (.ref x3), .val (.int sc), .val (.ref x4), .val (.ref x5), .val (.ref b1), .val (.int (own_is (own_fold cs1 cs2 cs3 cs4 cs5))), .val (.int v19), .val (.int v28), .val (.int ((v19 * (own_p10 fl)) + v28)), .unset, .unset, .unset, .unset] [(.int v35)])) t → Steps p.tables e below (T30.setTop (mkF m 466 #[.val (.int p0), .val (.int p1), .val (.int p2), .val (.int p3), .val (.int il), .val (.int fl), .val (.int el), .val (.int es), .val (.int up), .val (.int ng), .val (.int i0), .val (.int i1), .val (.int i2), .val (.int f0), .val (.int f1), .val (.int f2), .val (.int y0), .val (.int y1), .val (.ref x1), .val (.ref x2), .val (.ref x3), .val (.int sc), .val (.ref x4), .val (.ref x5), .val (.ref b1), .val (.int (own_is (own_fold cs1 cs2 cs3 cs4 cs5))), .val (.int v19), .val (.int v28), .val (.int ((v19 * (own_p10 fl)) + v28)), .unset, .unset, .unset, .unset] [(.int el)])) t := by
    intro t kt
    by_cases hm31 : el = (0 : Int32)
    ·
      have ev35 : v35 = (0 : Int32) := by rw [hv35, if_pos hm31]
      rw [ev35] at kt
      refine (fun t (k : Steps p.tables e below (T30.setTop (mkF m 466 #[.val (.int p0), .val (.int p1), .val (.int p2), .val (.int p3), .val (.int il), .val (.int fl), .val (.int el), .val (.int es), .val (.int up), .val (.int ng), .val (.int i0), .val (.int i1), .val (.int i2), .val (.int f0), .val (.int f1), .val (.int f2), .val (.int y0), .val (.int y1), .val (.ref x1), .val (.ref x2), .val (.ref x3), .val (.int sc), .val (.ref x4), .val (.ref x5), .val (.ref b1), .val (.int (own_is (own_fold cs1 cs2 cs3 cs4 cs5))), .val (.int v19), .val (.int v28), .val (.int ((v19 * (own_p10 fl)) + v28)), .unset, .unset, .unset, .unset] [(.int el)])) t) => k) _ ?_
      refine XS.ifNo X30.here hx rfl (hb hby at_466) rfl ((if0 _ _).trans (teq hm31).2) ?_
      refine XS.iconst X30.here hx rfl (hb hby at_469) ?_
      refine XS.goto X30.here hx rfl (pc0 := 470) (pc' := 492) rfl (hb hby at_470) (by decide) (by decide) ?_
      show Steps p.tables e below (T30.setTop (mkF m 492 #[.val (.int p0), .val (.int p1), .val (.int p2), .val (.int p3), .val (.int il), .val (.int fl), .val (.int el), .val (.int es), .val (.int up), .val (.int ng), .val (.int i0), .val (.int i1), .val (.int i2), .val (.int f0), .val (.int f1), .val (.int f2), .val (.int y0), .val (.int y1), .val (.ref x1), .val (.ref x2), .val (.ref x3), .val (.int sc), .val (.ref x4), .val (.ref x5), .val (.ref b1), .val (.int (own_is (own_fold cs1 cs2 cs3 cs4 cs5))), .val (.int v19), .val (.int v28), .val (.int ((v19 * (own_p10 fl)) + v28)), .unset, .unset, .unset, .unset] [(.int (0 : Int32))])) _
      exact kt
    ·
      have ev35 : v35 = v33 := by rw [hv35, if_neg hm31]
      rw [ev35] at kt
      have mg34 : ∀ t, Steps p.tables e below (T30.setTop (mkF m 492 #[.val (.int p0), .val (.int p1), .val (.int p2), .val (.int p3), .val (.int il), .val (.int fl), .val (.int el), .val (.int es), .val (.int up), .val (.int ng), .val (.int i0), .val (.int i1), .val (.int i2), .val (.int f0), .val (.int f1), .val (.int f2), .val (.int y0), .val (.int y1), .val (.ref x1), .val (.ref x2), .val (.ref x3), .val (.int sc), .val (.ref x4), .val (.ref x5), .val (.ref b1), .val (.int (own_is (own_fold cs1 cs2 cs3 cs4 cs5))), .val (.int v19), .val (.int v28), .val (.int ((v19 * (own_p10 fl)) + v28)), .unset, .unset, .unset, .unset] [(.int v33)])) t → Steps p.tables e below (T30.setTop (mkF m 476 #[.val (.int p0), .val (.int p1), .val (.int p2), .val (.int p3), .val (.int il), .val (.int fl), .val (.int el), .val (.int es), .val (.int up), .val (.int ng), .val (.int i0), .val (.int i1), .val (.int i2), .val (.int f0), .val (.int f1), .val (.int f2), .val (.int y0), .val (.int y1), .val (.ref x1), .val (.ref x2), .val (.ref x3), .val (.int sc), .val (.ref x4), .val (.ref x5), .val (.ref b1), .val (.int (own_is (own_fold cs1 cs2 cs3 cs4 cs5))), .val (.int v19), .val (.int v28), .val (.int ((v19 * (own_p10 fl)) + v28)), .unset, .unset, .unset, .unset] [(.int (1 : Int32)), (.int el)])) t := by
        intro t kt
        by_cases hm32 : el = (1 : Int32)
        ·
          have ev33 : v33 = y0 := by rw [hv33, if_pos hm32]
          rw [ev33] at kt
          refine (fun t (k : Steps p.tables e below (T30.setTop (mkF m 476 #[.val (.int p0), .val (.int p1), .val (.int p2), .val (.int p3), .val (.int il), .val (.int fl), .val (.int el), .val (.int es), .val (.int up), .val (.int ng), .val (.int i0), .val (.int i1), .val (.int i2), .val (.int f0), .val (.int f1), .val (.int f2), .val (.int y0), .val (.int y1), .val (.ref x1), .val (.ref x2), .val (.ref x3), .val (.int sc), .val (.ref x4), .val (.ref x5), .val (.ref b1), .val (.int (own_is (own_fold cs1 cs2 cs3 cs4 cs5))), .val (.int v19), .val (.int v28), .val (.int ((v19 * (own_p10 fl)) + v28)), .unset, .unset, .unset, .unset] [(.int (1 : Int32)), (.int el)])) t) => k) _ ?_
          refine XS.icmpNo X30.here hx rfl (hb hby at_476) rfl (teq hm32).2 ?_
          refine XS.iload X30.here hx rfl (hb hby at_479) rfl ?_
          refine XS.goto X30.here hx rfl (pc0 := 481) (pc' := 492) rfl (hb hby at_481) (by decide) (by decide) ?_
          show Steps p.tables e below (T30.setTop (mkF m 492 #[.val (.int p0), .val (.int p1), .val (.int p2), .val (.int p3), .val (.int il), .val (.int fl), .val (.int el), .val (.int es), .val (.int up), .val (.int ng), .val (.int i0), .val (.int i1), .val (.int i2), .val (.int f0), .val (.int f1), .val (.int f2), .val (.int y0), .val (.int y1), .val (.ref x1), .val (.ref x2), .val (.ref x3), .val (.int sc), .val (.ref x4), .val (.ref x5), .val (.ref b1), .val (.int (own_is (own_fold cs1 cs2 cs3 cs4 cs5))), .val (.int v19), .val (.int v28), .val (.int ((v19 * (own_p10 fl)) + v28)), .unset, .unset, .unset, .unset] [(.int y0)])) _
          exact kt
        ·
          have ev33 : v33 = ((y0 * (10 : Int32)) + y1) := by rw [hv33, if_neg hm32]
          rw [ev33] at kt
          refine (fun t (k : Steps p.tables e below (T30.setTop (mkF m 476 #[.val (.int p0), .val (.int p1), .val (.int p2), .val (.int p3), .val (.int il), .val (.int fl), .val (.int el), .val (.int es), .val (.int up), .val (.int ng), .val (.int i0), .val (.int i1), .val (.int i2), .val (.int f0), .val (.int f1), .val (.int f2), .val (.int y0), .val (.int y1), .val (.ref x1), .val (.ref x2), .val (.ref x3), .val (.int sc), .val (.ref x4), .val (.ref x5), .val (.ref b1), .val (.int (own_is (own_fold cs1 cs2 cs3 cs4 cs5))), .val (.int v19), .val (.int v28), .val (.int ((v19 * (own_p10 fl)) + v28)), .unset, .unset, .unset, .unset] [(.int (1 : Int32)), (.int el)])) t) => k) _ ?_
          refine XS.icmpYes X30.here hx rfl (pc0 := 476) (pc' := 484) rfl (hb hby at_476) rfl (feq hm32).2 (by decide) (by decide) ?_
          refine XS.iload X30.here hx rfl (hb hby at_484) rfl ?_
          refine XS.bipush X30.here hx rfl (hb hby at_486) ?_
          show Steps p.tables e below (T30.setTop (mkF m 488 #[.val (.int p0), .val (.int p1), .val (.int p2), .val (.int p3), .val (.int il), .val (.int fl), .val (.int el), .val (.int es), .val (.int up), .val (.int ng), .val (.int i0), .val (.int i1), .val (.int i2), .val (.int f0), .val (.int f1), .val (.int f2), .val (.int y0), .val (.int y1), .val (.ref x1), .val (.ref x2), .val (.ref x3), .val (.int sc), .val (.ref x4), .val (.ref x5), .val (.ref b1), .val (.int (own_is (own_fold cs1 cs2 cs3 cs4 cs5))), .val (.int v19), .val (.int v28), .val (.int ((v19 * (own_p10 fl)) + v28)), .unset, .unset, .unset, .unset] [(.int (10 : Int32)), (.int y0)])) _
          refine XS.imul X30.here hx rfl (hb hby at_488) rfl ?_
          refine XS.iload X30.here hx rfl (hb hby at_489) rfl ?_
          refine XS.iadd X30.here hx rfl (hb hby at_491) rfl ?_
          show Steps p.tables e below (T30.setTop (mkF m 492 #[.val (.int p0), .val (.int p1), .val (.int p2), .val (.int p3), .val (.int il), .val (.int fl), .val (.int el), .val (.int es), .val (.int up), .val (.int ng), .val (.int i0), .val (.int i1), .val (.int i2), .val (.int f0), .val (.int f1), .val (.int f2), .val (.int y0), .val (.int y1), .val (.ref x1), .val (.ref x2), .val (.ref x3), .val (.int sc), .val (.ref x4), .val (.ref x5), .val (.ref b1), .val (.int (own_is (own_fold cs1 cs2 cs3 cs4 cs5))), .val (.int v19), .val (.int v28), .val (.int ((v19 * (own_p10 fl)) + v28)), .unset, .unset, .unset, .unset] [(.int ((y0 * (10 : Int32)) + y1))])) _
          exact kt
      refine (fun t (k : Steps p.tables e below (T30.setTop (mkF m 466 #[.val (.int p0), .val (.int p1), .val (.int p2), .val (.int p3), .val (.int il), .val (.int fl), .val (.int el), .val (.int es), .val (.int up), .val (.int ng), .val (.int i0), .val (.int i1), .val (.int i2), .val (.int f0), .val (.int f1), .val (.int f2), .val (.int y0), .val (.int y1), .val (.ref x1), .val (.ref x2), .val (.ref x3), .val (.int sc), .val (.ref x4), .val (.ref x5), .val (.ref b1), .val (.int (own_is (own_fold cs1 cs2 cs3 cs4 cs5))), .val (.int v19), .val (.int v28), .val (.int ((v19 * (own_p10 fl)) + v28)), .unset, .unset, .unset, .unset] [(.int el)])) t) => k) _ ?_
      refine XS.ifYes X30.here hx rfl (pc0 := 466) (pc' := 473) rfl (hb hby at_466) rfl ((if0 _ _).trans (feq hm31).2) (by decide) (by decide) ?_
      refine XS.iload X30.here hx rfl (hb hby at_473) rfl ?_
      refine XS.iconst X30.here hx rfl (hb hby at_475) ?_
      show Steps p.tables e below (T30.setTop (mkF m 476 #[.val (.int p0), .val (.int p1), .val (.int p2), .val (.int p3), .val (.int il), .val (.int fl), .val (.int el), .val (.int es), .val (.int up), .val (.int ng), .val (.int i0), .val (.int i1), .val (.int i2), .val (.int f0), .val (.int f1), .val (.int f2), .val (.int y0), .val (.int y1), .val (.ref x1), .val (.ref x2), .val (.ref x3), .val (.int sc), .val (.ref x4), .val (.ref x5), .val (.ref b1), .val (.int (own_is (own_fold cs1 cs2 cs3 cs4 cs5))), .val (.int v19), .val (.int v28), .val (.int ((v19 * (own_p10 fl)) + v28)), .unset, .unset, .unset, .unset] [(.int (1 : Int32)), (.int el)])) _
      refine mg34 _ ?_
      show Steps p.tables e below (T30.setTop (mkF m 492 #[.val (.int p0), .val (.int p1), .val (.int p2), .val (.int p3), .val (.int il), .val (.int fl), .val (.int el), .val (.int es), .val (.int up), .val (.int ng), .val (.int i0), .val (.int i1), .val (.int i2), .val (.int f0), .val (.int f1), .val (.int f2), .val (.int y0), .val (.int y1), .val (.ref x1), .val (.ref x2), .val (.ref x3), .val (.int sc), .val (.ref x4), .val (.ref x5), .val (.ref b1), .val (.int (own_is (own_fold cs1 cs2 cs3 cs4 cs5))), .val (.int v19), .val (.int v28), .val (.int ((v19 * (own_p10 fl)) + v28)), .unset, .unset, .unset, .unset] [(.int v33)])) _
      exact kt
  obtain ⟨v38, hv38⟩ : ∃ z : Int32, z = if es = (2 : Int32) then (-v35) else v35 := ⟨_, rfl⟩
  have mg39 : ∀ t, Steps p.tables e below (T30.setTop (mkF m 508 #[.val (.int p0), .val (.int p1), .val (.int p2), .val (.int p3), .val (.int il), .val (.int fl), .val (.int el), .val (.int es), .val (.int up), .val (.int ng), .val (.int i0), .val (.int i1), .val (.int i2), .val (.int f0), .val (.int f1), .val (.int f2), .val (.int y0), .val (.int y1), .val (.ref x1), .val (.ref x2), .val (.ref x3), .val (.int sc), .val (.ref x4), .val (.ref x5), .val (.ref b1), .val (.int (own_is (own_fold cs1 cs2 cs3 cs4 cs5))), .val (.int v19), .val (.int v28), .val (.int ((v19 * (own_p10 fl)) + v28)), .val (.int v35), .unset, .unset, .unset] [(.int v38)])) t → Steps p.tables e below (T30.setTop (mkF m 497 #[.val (.int p0), .val (.int p1), .val (.int p2), .val (.int p3), .val (.int il), .val (.int fl), .val (.int el), .val (.int es), .val (.int up), .val (.int ng), .val (.int i0), .val (.int i1), .val (.int i2), .val (.int f0), .val (.int f1), .val (.int f2), .val (.int y0), .val (.int y1), .val (.ref x1), .val (.ref x2), .val (.ref x3), .val (.int sc), .val (.ref x4), .val (.ref x5), .val (.ref b1), .val (.int (own_is (own_fold cs1 cs2 cs3 cs4 cs5))), .val (.int v19), .val (.int v28), .val (.int ((v19 * (own_p10 fl)) + v28)), .val (.int v35), .unset, .unset, .unset] [(.int (2 : Int32)), (.int es)])) t := by
    intro t kt
    by_cases hm37 : es = (2 : Int32)
    ·
      have ev38 : v38 = (-v35) := by rw [hv38, if_pos hm37]
      rw [ev38] at kt
      refine (fun t (k : Steps p.tables e below (T30.setTop (mkF m 497 #[.val (.int p0), .val (.int p1), .val (.int p2), .val (.int p3), .val (.int il), .val (.int fl), .val (.int el), .val (.int es), .val (.int up), .val (.int ng), .val (.int i0), .val (.int i1), .val (.int i2), .val (.int f0), .val (.int f1), .val (.int f2), .val (.int y0), .val (.int y1), .val (.ref x1), .val (.ref x2), .val (.ref x3), .val (.int sc), .val (.ref x4), .val (.ref x5), .val (.ref b1), .val (.int (own_is (own_fold cs1 cs2 cs3 cs4 cs5))), .val (.int v19), .val (.int v28), .val (.int ((v19 * (own_p10 fl)) + v28)), .val (.int v35), .unset, .unset, .unset] [(.int (2 : Int32)), (.int es)])) t) => k) _ ?_
      refine XS.icmpNo X30.here hx rfl (hb hby at_497) rfl (teq hm37).2 ?_
      refine XS.iload X30.here hx rfl (hb hby at_500) rfl ?_
      refine XS.ineg X30.here hx rfl (hb hby at_502) rfl ?_
      show Steps p.tables e below (T30.setTop (mkF m 503 #[.val (.int p0), .val (.int p1), .val (.int p2), .val (.int p3), .val (.int il), .val (.int fl), .val (.int el), .val (.int es), .val (.int up), .val (.int ng), .val (.int i0), .val (.int i1), .val (.int i2), .val (.int f0), .val (.int f1), .val (.int f2), .val (.int y0), .val (.int y1), .val (.ref x1), .val (.ref x2), .val (.ref x3), .val (.int sc), .val (.ref x4), .val (.ref x5), .val (.ref b1), .val (.int (own_is (own_fold cs1 cs2 cs3 cs4 cs5))), .val (.int v19), .val (.int v28), .val (.int ((v19 * (own_p10 fl)) + v28)), .val (.int v35), .unset, .unset, .unset] [(.int (-v35))])) _
      refine XS.goto X30.here hx rfl (pc0 := 503) (pc' := 508) rfl (hb hby at_503) (by decide) (by decide) ?_
      show Steps p.tables e below (T30.setTop (mkF m 508 #[.val (.int p0), .val (.int p1), .val (.int p2), .val (.int p3), .val (.int il), .val (.int fl), .val (.int el), .val (.int es), .val (.int up), .val (.int ng), .val (.int i0), .val (.int i1), .val (.int i2), .val (.int f0), .val (.int f1), .val (.int f2), .val (.int y0), .val (.int y1), .val (.ref x1), .val (.ref x2), .val (.ref x3), .val (.int sc), .val (.ref x4), .val (.ref x5), .val (.ref b1), .val (.int (own_is (own_fold cs1 cs2 cs3 cs4 cs5))), .val (.int v19), .val (.int v28), .val (.int ((v19 * (own_p10 fl)) + v28)), .val (.int v35), .unset, .unset, .unset] [(.int (-v35))])) _
      exact kt
    ·
      have ev38 : v38 = v35 := by rw [hv38, if_neg hm37]
      rw [ev38] at kt
      refine (fun t (k : Steps p.tables e below (T30.setTop (mkF m 497 #[.val (.int p0), .val (.int p1), .val (.int p2), .val (.int p3), .val (.int il), .val (.int fl), .val (.int el), .val (.int es), .val (.int up), .val (.int ng), .val (.int i0), .val (.int i1), .val (.int i2), .val (.int f0), .val (.int f1), .val (.int f2), .val (.int y0), .val (.int y1), .val (.ref x1), .val (.ref x2), .val (.ref x3), .val (.int sc), .val (.ref x4), .val (.ref x5), .val (.ref b1), .val (.int (own_is (own_fold cs1 cs2 cs3 cs4 cs5))), .val (.int v19), .val (.int v28), .val (.int ((v19 * (own_p10 fl)) + v28)), .val (.int v35), .unset, .unset, .unset] [(.int (2 : Int32)), (.int es)])) t) => k) _ ?_
      refine XS.icmpYes X30.here hx rfl (pc0 := 497) (pc' := 506) rfl (hb hby at_497) rfl (feq hm37).2 (by decide) (by decide) ?_
      refine XS.iload X30.here hx rfl (hb hby at_506) rfl ?_
      show Steps p.tables e below (T30.setTop (mkF m 508 #[.val (.int p0), .val (.int p1), .val (.int p2), .val (.int p3), .val (.int il), .val (.int fl), .val (.int el), .val (.int es), .val (.int up), .val (.int ng), .val (.int i0), .val (.int i1), .val (.int i2), .val (.int f0), .val (.int f1), .val (.int f2), .val (.int y0), .val (.int y1), .val (.ref x1), .val (.ref x2), .val (.ref x3), .val (.int sc), .val (.ref x4), .val (.ref x5), .val (.ref b1), .val (.int (own_is (own_fold cs1 cs2 cs3 cs4 cs5))), .val (.int v19), .val (.int v28), .val (.int ((v19 * (own_p10 fl)) + v28)), .val (.int v35), .unset, .unset, .unset] [(.int v35)])) _
      exact kt
  have pre40 : ∀ t, Steps p.tables e below (T30.setTop (mkF m 519 #[.val (.int p0), .val (.int p1), .val (.int p2), .val (.int p3), .val (.int il), .val (.int fl), .val (.int el), .val (.int es), .val (.int up), .val (.int ng), .val (.int i0), .val (.int i1), .val (.int i2), .val (.int f0), .val (.int f1), .val (.int f2), .val (.int y0), .val (.int y1), .val (.ref x1), .val (.ref x2), .val (.ref x3), .val (.int sc), .val (.ref x4), .val (.ref x5), .val (.ref b1), .val (.int (own_is (own_fold cs1 cs2 cs3 cs4 cs5))), .val (.int v19), .val (.int v28), .val (.int ((v19 * (own_p10 fl)) + v28)), .val (.int v35), .val (.int v38), .val (.int (fl - v38)), .unset] [(.int (fl - v38))])) t → Steps p.tables e below (T0.setTop (mkF m 303 #[.val (.int p0), .val (.int p1), .val (.int p2), .val (.int p3), .val (.int il), .val (.int fl), .val (.int el), .val (.int es), .val (.int up), .val (.int ng), .val (.int i0), .val (.int i1), .val (.int i2), .val (.int f0), .val (.int f1), .val (.int f2), .val (.int y0), .val (.int y1), .val (.ref x1), .val (.ref x2), .val (.ref x3), .val (.int sc), .val (.ref x4), .val (.ref x5), .unset, .unset, .unset, .unset, .unset, .unset, .unset, .unset, .unset] [])) t := by
    intro t kt
    refine pre0 _ ?_
    show Steps p.tables e below (T0.setTop (mkF m 303 #[.val (.int p0), .val (.int p1), .val (.int p2), .val (.int p3), .val (.int il), .val (.int fl), .val (.int el), .val (.int es), .val (.int up), .val (.int ng), .val (.int i0), .val (.int i1), .val (.int i2), .val (.int f0), .val (.int f1), .val (.int f2), .val (.int y0), .val (.int y1), .val (.ref x1), .val (.ref x2), .val (.ref x3), .val (.int sc), .val (.ref x4), .val (.ref x5), .unset, .unset, .unset, .unset, .unset, .unset, .unset, .unset, .unset] [])) _
    refine st1 _ ?_
    show Steps p.tables e below (T1.setTop (mkF m 306 #[.val (.int p0), .val (.int p1), .val (.int p2), .val (.int p3), .val (.int il), .val (.int fl), .val (.int el), .val (.int es), .val (.int up), .val (.int ng), .val (.int i0), .val (.int i1), .val (.int i2), .val (.int f0), .val (.int f1), .val (.int f2), .val (.int y0), .val (.int y1), .val (.ref x1), .val (.ref x2), .val (.ref x3), .val (.int sc), .val (.ref x4), .val (.ref x5), .unset, .unset, .unset, .unset, .unset, .unset, .unset, .unset, .unset] [(.ref b1)])) _
    refine XS.dup X1.here hx rfl (hb hby at_306) rfl rfl ?_
    show Steps p.tables e below (T1.setTop (mkF m 307 #[.val (.int p0), .val (.int p1), .val (.int p2), .val (.int p3), .val (.int il), .val (.int fl), .val (.int el), .val (.int es), .val (.int up), .val (.int ng), .val (.int i0), .val (.int i1), .val (.int i2), .val (.int f0), .val (.int f1), .val (.int f2), .val (.int y0), .val (.int y1), .val (.ref x1), .val (.ref x2), .val (.ref x3), .val (.int sc), .val (.ref x4), .val (.ref x5), .unset, .unset, .unset, .unset, .unset, .unset, .unset, .unset, .unset] [(.ref b1), (.ref b1)])) _
    refine st2.trans ?_
    show Steps p.tables e below (T2.setTop (mkF m 310 #[.val (.int p0), .val (.int p1), .val (.int p2), .val (.int p3), .val (.int il), .val (.int fl), .val (.int el), .val (.int es), .val (.int up), .val (.int ng), .val (.int i0), .val (.int i1), .val (.int i2), .val (.int f0), .val (.int f1), .val (.int f2), .val (.int y0), .val (.int y1), .val (.ref x1), .val (.ref x2), .val (.ref x3), .val (.int sc), .val (.ref x4), .val (.ref x5), .unset, .unset, .unset, .unset, .unset, .unset, .unset, .unset, .unset] [(.ref b1)])) _
    refine XS.astore X2.here hx rfl (hb hby at_310) rfl rfl (l' := #[.val (.int p0), .val (.int p1), .val (.int p2), .val (.int p3), .val (.int il), .val (.int fl), .val (.int el), .val (.int es), .val (.int up), .val (.int ng), .val (.int i0), .val (.int i1), .val (.int i2), .val (.int f0), .val (.int f1), .val (.int f2), .val (.int y0), .val (.int y1), .val (.ref x1), .val (.ref x2), .val (.ref x3), .val (.int sc), .val (.ref x4), .val (.ref x5), .val (.ref b1), .unset, .unset, .unset, .unset, .unset, .unset, .unset, .unset]) rfl ?_
    refine XS.aload X2.here hx rfl (hb hby at_312) rfl rfl ?_
    refine XS.aload X2.here hx rfl (hb hby at_314) rfl rfl ?_
    show Steps p.tables e below (T2.setTop (mkF m 316 #[.val (.int p0), .val (.int p1), .val (.int p2), .val (.int p3), .val (.int il), .val (.int fl), .val (.int el), .val (.int es), .val (.int up), .val (.int ng), .val (.int i0), .val (.int i1), .val (.int i2), .val (.int f0), .val (.int f1), .val (.int f2), .val (.int y0), .val (.int y1), .val (.ref x1), .val (.ref x2), .val (.ref x3), .val (.int sc), .val (.ref x4), .val (.ref x5), .val (.ref b1), .unset, .unset, .unset, .unset, .unset, .unset, .unset, .unset] [(.ref x1), (.ref b1)])) _
    refine st3.trans ?_
    show Steps p.tables e below (T3.setTop (mkF m 319 #[.val (.int p0), .val (.int p1), .val (.int p2), .val (.int p3), .val (.int il), .val (.int fl), .val (.int el), .val (.int es), .val (.int up), .val (.int ng), .val (.int i0), .val (.int i1), .val (.int i2), .val (.int f0), .val (.int f1), .val (.int f2), .val (.int y0), .val (.int y1), .val (.ref x1), .val (.ref x2), .val (.ref x3), .val (.int sc), .val (.ref x4), .val (.ref x5), .val (.ref b1), .unset, .unset, .unset, .unset, .unset, .unset, .unset, .unset] [])) _
    refine XS.aload X3.here hx rfl (hb hby at_319) rfl rfl ?_
    refine XS.aload X3.here hx rfl (hb hby at_321) rfl rfl ?_
    show Steps p.tables e below (T3.setTop (mkF m 323 #[.val (.int p0), .val (.int p1), .val (.int p2), .val (.int p3), .val (.int il), .val (.int fl), .val (.int el), .val (.int es), .val (.int up), .val (.int ng), .val (.int i0), .val (.int i1), .val (.int i2), .val (.int f0), .val (.int f1), .val (.int f2), .val (.int y0), .val (.int y1), .val (.ref x1), .val (.ref x2), .val (.ref x3), .val (.int sc), .val (.ref x4), .val (.ref x5), .val (.ref b1), .unset, .unset, .unset, .unset, .unset, .unset, .unset, .unset] [(.ref x2), (.ref b1)])) _
    refine st5.trans ?_
    show Steps p.tables e below (T5.setTop (mkF m 326 #[.val (.int p0), .val (.int p1), .val (.int p2), .val (.int p3), .val (.int il), .val (.int fl), .val (.int el), .val (.int es), .val (.int up), .val (.int ng), .val (.int i0), .val (.int i1), .val (.int i2), .val (.int f0), .val (.int f1), .val (.int f2), .val (.int y0), .val (.int y1), .val (.ref x1), .val (.ref x2), .val (.ref x3), .val (.int sc), .val (.ref x4), .val (.ref x5), .val (.ref b1), .unset, .unset, .unset, .unset, .unset, .unset, .unset, .unset] [])) _
    refine XS.aload X5.here hx rfl (hb hby at_326) rfl rfl ?_
    refine XS.aload X5.here hx rfl (hb hby at_328) rfl rfl ?_
    show Steps p.tables e below (T5.setTop (mkF m 330 #[.val (.int p0), .val (.int p1), .val (.int p2), .val (.int p3), .val (.int il), .val (.int fl), .val (.int el), .val (.int es), .val (.int up), .val (.int ng), .val (.int i0), .val (.int i1), .val (.int i2), .val (.int f0), .val (.int f1), .val (.int f2), .val (.int y0), .val (.int y1), .val (.ref x1), .val (.ref x2), .val (.ref x3), .val (.int sc), .val (.ref x4), .val (.ref x5), .val (.ref b1), .unset, .unset, .unset, .unset, .unset, .unset, .unset, .unset] [(.ref x3), (.ref b1)])) _
    refine st7.trans ?_
    show Steps p.tables e below (T7.setTop (mkF m 333 #[.val (.int p0), .val (.int p1), .val (.int p2), .val (.int p3), .val (.int il), .val (.int fl), .val (.int el), .val (.int es), .val (.int up), .val (.int ng), .val (.int i0), .val (.int i1), .val (.int i2), .val (.int f0), .val (.int f1), .val (.int f2), .val (.int y0), .val (.int y1), .val (.ref x1), .val (.ref x2), .val (.ref x3), .val (.int sc), .val (.ref x4), .val (.ref x5), .val (.ref b1), .unset, .unset, .unset, .unset, .unset, .unset, .unset, .unset] [])) _
    refine XS.aload X7.here hx rfl (hb hby at_333) rfl rfl ?_
    refine XS.aload X7.here hx rfl (hb hby at_335) rfl rfl ?_
    show Steps p.tables e below (T7.setTop (mkF m 337 #[.val (.int p0), .val (.int p1), .val (.int p2), .val (.int p3), .val (.int il), .val (.int fl), .val (.int el), .val (.int es), .val (.int up), .val (.int ng), .val (.int i0), .val (.int i1), .val (.int i2), .val (.int f0), .val (.int f1), .val (.int f2), .val (.int y0), .val (.int y1), .val (.ref x1), .val (.ref x2), .val (.ref x3), .val (.int sc), .val (.ref x4), .val (.ref x5), .val (.ref b1), .unset, .unset, .unset, .unset, .unset, .unset, .unset, .unset] [(.ref x4), (.ref b1)])) _
    refine st9.trans ?_
    show Steps p.tables e below (T9.setTop (mkF m 340 #[.val (.int p0), .val (.int p1), .val (.int p2), .val (.int p3), .val (.int il), .val (.int fl), .val (.int el), .val (.int es), .val (.int up), .val (.int ng), .val (.int i0), .val (.int i1), .val (.int i2), .val (.int f0), .val (.int f1), .val (.int f2), .val (.int y0), .val (.int y1), .val (.ref x1), .val (.ref x2), .val (.ref x3), .val (.int sc), .val (.ref x4), .val (.ref x5), .val (.ref b1), .unset, .unset, .unset, .unset, .unset, .unset, .unset, .unset] [])) _
    refine XS.aload X9.here hx rfl (hb hby at_340) rfl rfl ?_
    refine XS.aload X9.here hx rfl (hb hby at_342) rfl rfl ?_
    show Steps p.tables e below (T9.setTop (mkF m 344 #[.val (.int p0), .val (.int p1), .val (.int p2), .val (.int p3), .val (.int il), .val (.int fl), .val (.int el), .val (.int es), .val (.int up), .val (.int ng), .val (.int i0), .val (.int i1), .val (.int i2), .val (.int f0), .val (.int f1), .val (.int f2), .val (.int y0), .val (.int y1), .val (.ref x1), .val (.ref x2), .val (.ref x3), .val (.int sc), .val (.ref x4), .val (.ref x5), .val (.ref b1), .unset, .unset, .unset, .unset, .unset, .unset, .unset, .unset] [(.ref x5), (.ref b1)])) _
    refine st11.trans ?_
    show Steps p.tables e below (T11.setTop (mkF m 347 #[.val (.int p0), .val (.int p1), .val (.int p2), .val (.int p3), .val (.int il), .val (.int fl), .val (.int el), .val (.int es), .val (.int up), .val (.int ng), .val (.int i0), .val (.int i1), .val (.int i2), .val (.int f0), .val (.int f1), .val (.int f2), .val (.int y0), .val (.int y1), .val (.ref x1), .val (.ref x2), .val (.ref x3), .val (.int sc), .val (.ref x4), .val (.ref x5), .val (.ref b1), .unset, .unset, .unset, .unset, .unset, .unset, .unset, .unset] [])) _
    refine XS.aload X11.here hx rfl (hb hby at_347) rfl rfl ?_
    show Steps p.tables e below (T11.setTop (mkF m 349 #[.val (.int p0), .val (.int p1), .val (.int p2), .val (.int p3), .val (.int il), .val (.int fl), .val (.int el), .val (.int es), .val (.int up), .val (.int ng), .val (.int i0), .val (.int i1), .val (.int i2), .val (.int f0), .val (.int f1), .val (.int f2), .val (.int y0), .val (.int y1), .val (.ref x1), .val (.ref x2), .val (.ref x3), .val (.int sc), .val (.ref x4), .val (.ref x5), .val (.ref b1), .unset, .unset, .unset, .unset, .unset, .unset, .unset, .unset] [(.ref b1)])) _
    refine st13.trans ?_
    show Steps p.tables e below (T13.setTop (mkF m 352 #[.val (.int p0), .val (.int p1), .val (.int p2), .val (.int p3), .val (.int il), .val (.int fl), .val (.int el), .val (.int es), .val (.int up), .val (.int ng), .val (.int i0), .val (.int i1), .val (.int i2), .val (.int f0), .val (.int f1), .val (.int f2), .val (.int y0), .val (.int y1), .val (.ref x1), .val (.ref x2), .val (.ref x3), .val (.int sc), .val (.ref x4), .val (.ref x5), .val (.ref b1), .unset, .unset, .unset, .unset, .unset, .unset, .unset, .unset] [(.int (own_is (own_fold cs1 cs2 cs3 cs4 cs5)))])) _
    refine XS.istore X13.here hx rfl (hb hby at_352) rfl (l' := #[.val (.int p0), .val (.int p1), .val (.int p2), .val (.int p3), .val (.int il), .val (.int fl), .val (.int el), .val (.int es), .val (.int up), .val (.int ng), .val (.int i0), .val (.int i1), .val (.int i2), .val (.int f0), .val (.int f1), .val (.int f2), .val (.int y0), .val (.int y1), .val (.ref x1), .val (.ref x2), .val (.ref x3), .val (.int sc), .val (.ref x4), .val (.ref x5), .val (.ref b1), .val (.int (own_is (own_fold cs1 cs2 cs3 cs4 cs5))), .unset, .unset, .unset, .unset, .unset, .unset, .unset]) rfl ?_
    refine XS.iload X13.here hx rfl (hb hby at_354) rfl ?_
    refine XS.iconst X13.here hx rfl (hb hby at_356) ?_
    show Steps p.tables e below (T13.setTop (mkF m 357 #[.val (.int p0), .val (.int p1), .val (.int p2), .val (.int p3), .val (.int il), .val (.int fl), .val (.int el), .val (.int es), .val (.int up), .val (.int ng), .val (.int i0), .val (.int i1), .val (.int i2), .val (.int f0), .val (.int f1), .val (.int f2), .val (.int y0), .val (.int y1), .val (.ref x1), .val (.ref x2), .val (.ref x3), .val (.int sc), .val (.ref x4), .val (.ref x5), .val (.ref b1), .val (.int (own_is (own_fold cs1 cs2 cs3 cs4 cs5))), .unset, .unset, .unset, .unset, .unset, .unset, .unset] [(.int (1 : Int32)), (.int il)])) _
    refine mg20 _ ?_
    show Steps p.tables e below (T13.setTop (mkF m 396 #[.val (.int p0), .val (.int p1), .val (.int p2), .val (.int p3), .val (.int il), .val (.int fl), .val (.int el), .val (.int es), .val (.int up), .val (.int ng), .val (.int i0), .val (.int i1), .val (.int i2), .val (.int f0), .val (.int f1), .val (.int f2), .val (.int y0), .val (.int y1), .val (.ref x1), .val (.ref x2), .val (.ref x3), .val (.int sc), .val (.ref x4), .val (.ref x5), .val (.ref b1), .val (.int (own_is (own_fold cs1 cs2 cs3 cs4 cs5))), .unset, .unset, .unset, .unset, .unset, .unset, .unset] [(.int v19)])) _
    refine XS.istore X13.here hx rfl (hb hby at_396) rfl (l' := #[.val (.int p0), .val (.int p1), .val (.int p2), .val (.int p3), .val (.int il), .val (.int fl), .val (.int el), .val (.int es), .val (.int up), .val (.int ng), .val (.int i0), .val (.int i1), .val (.int i2), .val (.int f0), .val (.int f1), .val (.int f2), .val (.int y0), .val (.int y1), .val (.ref x1), .val (.ref x2), .val (.ref x3), .val (.int sc), .val (.ref x4), .val (.ref x5), .val (.ref b1), .val (.int (own_is (own_fold cs1 cs2 cs3 cs4 cs5))), .val (.int v19), .unset, .unset, .unset, .unset, .unset, .unset]) rfl ?_
    refine XS.iload X13.here hx rfl (hb hby at_398) rfl ?_
    show Steps p.tables e below (T13.setTop (mkF m 400 #[.val (.int p0), .val (.int p1), .val (.int p2), .val (.int p3), .val (.int il), .val (.int fl), .val (.int el), .val (.int es), .val (.int up), .val (.int ng), .val (.int i0), .val (.int i1), .val (.int i2), .val (.int f0), .val (.int f1), .val (.int f2), .val (.int y0), .val (.int y1), .val (.ref x1), .val (.ref x2), .val (.ref x3), .val (.int sc), .val (.ref x4), .val (.ref x5), .val (.ref b1), .val (.int (own_is (own_fold cs1 cs2 cs3 cs4 cs5))), .val (.int v19), .unset, .unset, .unset, .unset, .unset, .unset] [(.int fl)])) _
    refine mg29 _ ?_
    show Steps p.tables e below (T13.setTop (mkF m 449 #[.val (.int p0), .val (.int p1), .val (.int p2), .val (.int p3), .val (.int il), .val (.int fl), .val (.int el), .val (.int es), .val (.int up), .val (.int ng), .val (.int i0), .val (.int i1), .val (.int i2), .val (.int f0), .val (.int f1), .val (.int f2), .val (.int y0), .val (.int y1), .val (.ref x1), .val (.ref x2), .val (.ref x3), .val (.int sc), .val (.ref x4), .val (.ref x5), .val (.ref b1), .val (.int (own_is (own_fold cs1 cs2 cs3 cs4 cs5))), .val (.int v19), .unset, .unset, .unset, .unset, .unset, .unset] [(.int v28)])) _
    refine XS.istore X13.here hx rfl (hb hby at_449) rfl (l' := #[.val (.int p0), .val (.int p1), .val (.int p2), .val (.int p3), .val (.int il), .val (.int fl), .val (.int el), .val (.int es), .val (.int up), .val (.int ng), .val (.int i0), .val (.int i1), .val (.int i2), .val (.int f0), .val (.int f1), .val (.int f2), .val (.int y0), .val (.int y1), .val (.ref x1), .val (.ref x2), .val (.ref x3), .val (.int sc), .val (.ref x4), .val (.ref x5), .val (.ref b1), .val (.int (own_is (own_fold cs1 cs2 cs3 cs4 cs5))), .val (.int v19), .val (.int v28), .unset, .unset, .unset, .unset, .unset]) rfl ?_
    refine XS.iload X13.here hx rfl (hb hby at_451) rfl ?_
    refine XS.iload X13.here hx rfl (hb hby at_453) rfl ?_
    show Steps p.tables e below (T13.setTop (mkF m 455 #[.val (.int p0), .val (.int p1), .val (.int p2), .val (.int p3), .val (.int il), .val (.int fl), .val (.int el), .val (.int es), .val (.int up), .val (.int ng), .val (.int i0), .val (.int i1), .val (.int i2), .val (.int f0), .val (.int f1), .val (.int f2), .val (.int y0), .val (.int y1), .val (.ref x1), .val (.ref x2), .val (.ref x3), .val (.int sc), .val (.ref x4), .val (.ref x5), .val (.ref b1), .val (.int (own_is (own_fold cs1 cs2 cs3 cs4 cs5))), .val (.int v19), .val (.int v28), .unset, .unset, .unset, .unset, .unset] [(.int fl), (.int v19)])) _
    refine st30 _ ?_
    show Steps p.tables e below (T30.setTop (mkF m 458 #[.val (.int p0), .val (.int p1), .val (.int p2), .val (.int p3), .val (.int il), .val (.int fl), .val (.int el), .val (.int es), .val (.int up), .val (.int ng), .val (.int i0), .val (.int i1), .val (.int i2), .val (.int f0), .val (.int f1), .val (.int f2), .val (.int y0), .val (.int y1), .val (.ref x1), .val (.ref x2), .val (.ref x3), .val (.int sc), .val (.ref x4), .val (.ref x5), .val (.ref b1), .val (.int (own_is (own_fold cs1 cs2 cs3 cs4 cs5))), .val (.int v19), .val (.int v28), .unset, .unset, .unset, .unset, .unset] [(.int (own_p10 fl)), (.int v19)])) _
    refine XS.imul X30.here hx rfl (hb hby at_458) rfl ?_
    refine XS.iload X30.here hx rfl (hb hby at_459) rfl ?_
    refine XS.iadd X30.here hx rfl (hb hby at_461) rfl ?_
    show Steps p.tables e below (T30.setTop (mkF m 462 #[.val (.int p0), .val (.int p1), .val (.int p2), .val (.int p3), .val (.int il), .val (.int fl), .val (.int el), .val (.int es), .val (.int up), .val (.int ng), .val (.int i0), .val (.int i1), .val (.int i2), .val (.int f0), .val (.int f1), .val (.int f2), .val (.int y0), .val (.int y1), .val (.ref x1), .val (.ref x2), .val (.ref x3), .val (.int sc), .val (.ref x4), .val (.ref x5), .val (.ref b1), .val (.int (own_is (own_fold cs1 cs2 cs3 cs4 cs5))), .val (.int v19), .val (.int v28), .unset, .unset, .unset, .unset, .unset] [(.int ((v19 * (own_p10 fl)) + v28))])) _
    refine XS.istore X30.here hx rfl (hb hby at_462) rfl (l' := #[.val (.int p0), .val (.int p1), .val (.int p2), .val (.int p3), .val (.int il), .val (.int fl), .val (.int el), .val (.int es), .val (.int up), .val (.int ng), .val (.int i0), .val (.int i1), .val (.int i2), .val (.int f0), .val (.int f1), .val (.int f2), .val (.int y0), .val (.int y1), .val (.ref x1), .val (.ref x2), .val (.ref x3), .val (.int sc), .val (.ref x4), .val (.ref x5), .val (.ref b1), .val (.int (own_is (own_fold cs1 cs2 cs3 cs4 cs5))), .val (.int v19), .val (.int v28), .val (.int ((v19 * (own_p10 fl)) + v28)), .unset, .unset, .unset, .unset]) rfl ?_
    refine XS.iload X30.here hx rfl (hb hby at_464) rfl ?_
    show Steps p.tables e below (T30.setTop (mkF m 466 #[.val (.int p0), .val (.int p1), .val (.int p2), .val (.int p3), .val (.int il), .val (.int fl), .val (.int el), .val (.int es), .val (.int up), .val (.int ng), .val (.int i0), .val (.int i1), .val (.int i2), .val (.int f0), .val (.int f1), .val (.int f2), .val (.int y0), .val (.int y1), .val (.ref x1), .val (.ref x2), .val (.ref x3), .val (.int sc), .val (.ref x4), .val (.ref x5), .val (.ref b1), .val (.int (own_is (own_fold cs1 cs2 cs3 cs4 cs5))), .val (.int v19), .val (.int v28), .val (.int ((v19 * (own_p10 fl)) + v28)), .unset, .unset, .unset, .unset] [(.int el)])) _
    refine mg36 _ ?_
    show Steps p.tables e below (T30.setTop (mkF m 492 #[.val (.int p0), .val (.int p1), .val (.int p2), .val (.int p3), .val (.int il), .val (.int fl), .val (.int el), .val (.int es), .val (.int up), .val (.int ng), .val (.int i0), .val (.int i1), .val (.int i2), .val (.int f0), .val (.int f1), .val (.int f2), .val (.int y0), .val (.int y1), .val (.ref x1), .val (.ref x2), .val (.ref x3), .val (.int sc), .val (.ref x4), .val (.ref x5), .val (.ref b1), .val (.int (own_is (own_fold cs1 cs2 cs3 cs4 cs5))), .val (.int v19), .val (.int v28), .val (.int ((v19 * (own_p10 fl)) + v28)), .unset, .unset, .unset, .unset] [(.int v35)])) _
    refine XS.istore X30.here hx rfl (hb hby at_492) rfl (l' := #[.val (.int p0), .val (.int p1), .val (.int p2), .val (.int p3), .val (.int il), .val (.int fl), .val (.int el), .val (.int es), .val (.int up), .val (.int ng), .val (.int i0), .val (.int i1), .val (.int i2), .val (.int f0), .val (.int f1), .val (.int f2), .val (.int y0), .val (.int y1), .val (.ref x1), .val (.ref x2), .val (.ref x3), .val (.int sc), .val (.ref x4), .val (.ref x5), .val (.ref b1), .val (.int (own_is (own_fold cs1 cs2 cs3 cs4 cs5))), .val (.int v19), .val (.int v28), .val (.int ((v19 * (own_p10 fl)) + v28)), .val (.int v35), .unset, .unset, .unset]) rfl ?_
    refine XS.iload X30.here hx rfl (hb hby at_494) rfl ?_
    refine XS.iconst X30.here hx rfl (hb hby at_496) ?_
    show Steps p.tables e below (T30.setTop (mkF m 497 #[.val (.int p0), .val (.int p1), .val (.int p2), .val (.int p3), .val (.int il), .val (.int fl), .val (.int el), .val (.int es), .val (.int up), .val (.int ng), .val (.int i0), .val (.int i1), .val (.int i2), .val (.int f0), .val (.int f1), .val (.int f2), .val (.int y0), .val (.int y1), .val (.ref x1), .val (.ref x2), .val (.ref x3), .val (.int sc), .val (.ref x4), .val (.ref x5), .val (.ref b1), .val (.int (own_is (own_fold cs1 cs2 cs3 cs4 cs5))), .val (.int v19), .val (.int v28), .val (.int ((v19 * (own_p10 fl)) + v28)), .val (.int v35), .unset, .unset, .unset] [(.int (2 : Int32)), (.int es)])) _
    refine mg39 _ ?_
    show Steps p.tables e below (T30.setTop (mkF m 508 #[.val (.int p0), .val (.int p1), .val (.int p2), .val (.int p3), .val (.int il), .val (.int fl), .val (.int el), .val (.int es), .val (.int up), .val (.int ng), .val (.int i0), .val (.int i1), .val (.int i2), .val (.int f0), .val (.int f1), .val (.int f2), .val (.int y0), .val (.int y1), .val (.ref x1), .val (.ref x2), .val (.ref x3), .val (.int sc), .val (.ref x4), .val (.ref x5), .val (.ref b1), .val (.int (own_is (own_fold cs1 cs2 cs3 cs4 cs5))), .val (.int v19), .val (.int v28), .val (.int ((v19 * (own_p10 fl)) + v28)), .val (.int v35), .unset, .unset, .unset] [(.int v38)])) _
    refine XS.istore X30.here hx rfl (hb hby at_508) rfl (l' := #[.val (.int p0), .val (.int p1), .val (.int p2), .val (.int p3), .val (.int il), .val (.int fl), .val (.int el), .val (.int es), .val (.int up), .val (.int ng), .val (.int i0), .val (.int i1), .val (.int i2), .val (.int f0), .val (.int f1), .val (.int f2), .val (.int y0), .val (.int y1), .val (.ref x1), .val (.ref x2), .val (.ref x3), .val (.int sc), .val (.ref x4), .val (.ref x5), .val (.ref b1), .val (.int (own_is (own_fold cs1 cs2 cs3 cs4 cs5))), .val (.int v19), .val (.int v28), .val (.int ((v19 * (own_p10 fl)) + v28)), .val (.int v35), .val (.int v38), .unset, .unset]) rfl ?_
    refine XS.iload X30.here hx rfl (hb hby at_510) rfl ?_
    refine XS.iload X30.here hx rfl (hb hby at_512) rfl ?_
    show Steps p.tables e below (T30.setTop (mkF m 514 #[.val (.int p0), .val (.int p1), .val (.int p2), .val (.int p3), .val (.int il), .val (.int fl), .val (.int el), .val (.int es), .val (.int up), .val (.int ng), .val (.int i0), .val (.int i1), .val (.int i2), .val (.int f0), .val (.int f1), .val (.int f2), .val (.int y0), .val (.int y1), .val (.ref x1), .val (.ref x2), .val (.ref x3), .val (.int sc), .val (.ref x4), .val (.ref x5), .val (.ref b1), .val (.int (own_is (own_fold cs1 cs2 cs3 cs4 cs5))), .val (.int v19), .val (.int v28), .val (.int ((v19 * (own_p10 fl)) + v28)), .val (.int v35), .val (.int v38), .unset, .unset] [(.int v38), (.int fl)])) _
    refine XS.isub X30.here hx rfl (hb hby at_514) rfl ?_
    refine XS.istore X30.here hx rfl (hb hby at_515) rfl (l' := #[.val (.int p0), .val (.int p1), .val (.int p2), .val (.int p3), .val (.int il), .val (.int fl), .val (.int el), .val (.int es), .val (.int up), .val (.int ng), .val (.int i0), .val (.int i1), .val (.int i2), .val (.int f0), .val (.int f1), .val (.int f2), .val (.int y0), .val (.int y1), .val (.ref x1), .val (.ref x2), .val (.ref x3), .val (.int sc), .val (.ref x4), .val (.ref x5), .val (.ref b1), .val (.int (own_is (own_fold cs1 cs2 cs3 cs4 cs5))), .val (.int v19), .val (.int v28), .val (.int ((v19 * (own_p10 fl)) + v28)), .val (.int v35), .val (.int v38), .val (.int (fl - v38)), .unset]) rfl ?_
    refine XS.iload X30.here hx rfl (hb hby at_517) rfl ?_
    show Steps p.tables e below (T30.setTop (mkF m 519 #[.val (.int p0), .val (.int p1), .val (.int p2), .val (.int p3), .val (.int il), .val (.int fl), .val (.int el), .val (.int es), .val (.int up), .val (.int ng), .val (.int i0), .val (.int i1), .val (.int i2), .val (.int f0), .val (.int f1), .val (.int f2), .val (.int y0), .val (.int y1), .val (.ref x1), .val (.ref x2), .val (.ref x3), .val (.int sc), .val (.ref x4), .val (.ref x5), .val (.ref b1), .val (.int (own_is (own_fold cs1 cs2 cs3 cs4 cs5))), .val (.int v19), .val (.int v28), .val (.int ((v19 * (own_p10 fl)) + v28)), .val (.int v35), .val (.int v38), .val (.int (fl - v38)), .unset] [(.int (fl - v38))])) _
    exact kt
  by_cases hc519 : (0 : Int32) < (fl - v38)
  ·
    have pre42 : ∀ t, Steps p.tables e below (T30.setTop (mkF m 524 #[.val (.int p0), .val (.int p1), .val (.int p2), .val (.int p3), .val (.int il), .val (.int fl), .val (.int el), .val (.int es), .val (.int up), .val (.int ng), .val (.int i0), .val (.int i1), .val (.int i2), .val (.int f0), .val (.int f1), .val (.int f2), .val (.int y0), .val (.int y1), .val (.ref x1), .val (.ref x2), .val (.ref x3), .val (.int sc), .val (.ref x4), .val (.ref x5), .val (.ref b1), .val (.int (own_is (own_fold cs1 cs2 cs3 cs4 cs5))), .val (.int v19), .val (.int v28), .val (.int ((v19 * (own_p10 fl)) + v28)), .val (.int v35), .val (.int v38), .val (.int (fl - v38)), .unset] [(.int ((v19 * (own_p10 fl)) + v28))])) t → Steps p.tables e below (T0.setTop (mkF m 303 #[.val (.int p0), .val (.int p1), .val (.int p2), .val (.int p3), .val (.int il), .val (.int fl), .val (.int el), .val (.int es), .val (.int up), .val (.int ng), .val (.int i0), .val (.int i1), .val (.int i2), .val (.int f0), .val (.int f1), .val (.int f2), .val (.int y0), .val (.int y1), .val (.ref x1), .val (.ref x2), .val (.ref x3), .val (.int sc), .val (.ref x4), .val (.ref x5), .unset, .unset, .unset, .unset, .unset, .unset, .unset, .unset, .unset] [])) t := by
      intro t kt
      refine pre40 _ ?_
      show Steps p.tables e below (T30.setTop (mkF m 519 #[.val (.int p0), .val (.int p1), .val (.int p2), .val (.int p3), .val (.int il), .val (.int fl), .val (.int el), .val (.int es), .val (.int up), .val (.int ng), .val (.int i0), .val (.int i1), .val (.int i2), .val (.int f0), .val (.int f1), .val (.int f2), .val (.int y0), .val (.int y1), .val (.ref x1), .val (.ref x2), .val (.ref x3), .val (.int sc), .val (.ref x4), .val (.ref x5), .val (.ref b1), .val (.int (own_is (own_fold cs1 cs2 cs3 cs4 cs5))), .val (.int v19), .val (.int v28), .val (.int ((v19 * (own_p10 fl)) + v28)), .val (.int v35), .val (.int v38), .val (.int (fl - v38)), .unset] [(.int (fl - v38))])) _
      refine XS.ifNo X30.here hx rfl (hb hby at_519) rfl ((if0 _ _).trans (tlt hc519).2.2.2) ?_
      refine XS.iload X30.here hx rfl (hb hby at_522) rfl ?_
      show Steps p.tables e below (T30.setTop (mkF m 524 #[.val (.int p0), .val (.int p1), .val (.int p2), .val (.int p3), .val (.int il), .val (.int fl), .val (.int el), .val (.int es), .val (.int up), .val (.int ng), .val (.int i0), .val (.int i1), .val (.int i2), .val (.int f0), .val (.int f1), .val (.int f2), .val (.int y0), .val (.int y1), .val (.ref x1), .val (.ref x2), .val (.ref x3), .val (.int sc), .val (.ref x4), .val (.ref x5), .val (.ref b1), .val (.int (own_is (own_fold cs1 cs2 cs3 cs4 cs5))), .val (.int v19), .val (.int v28), .val (.int ((v19 * (own_p10 fl)) + v28)), .val (.int v35), .val (.int v38), .val (.int (fl - v38)), .unset] [(.int ((v19 * (own_p10 fl)) + v28))])) _
      exact kt
    by_cases hc524 : ((v19 * (own_p10 fl)) + v28) = (0 : Int32)
    ·
      have qown_iv : own_iv il i0 i1 i2 = v19 := by simp only [own_iv, hv17, hv19, hv24, hv26, hv28, hv33, hv35, hv38]
      have qown_fv : own_fv fl f0 f1 f2 = v28 := by simp only [own_fv, hv17, hv19, hv24, hv26, hv28, hv33, hv35, hv38]
      have qown_ev : own_ev el y0 y1 = v35 := by simp only [own_ev, hv17, hv19, hv24, hv26, hv28, hv33, hv35, hv38]
      have qown_e : own_e es v35 = v38 := by simp only [own_e, hv17, hv19, hv24, hv26, hv28, hv33, hv35, hv38]
      have hwant : own_want il fl el es i0 i1 i2 f0 f1 f2 y0 y1 = (1 : Int32) := by
        unfold own_want; rw [qown_iv, qown_fv, qown_ev, qown_e]; unfold own_wt; rw [if_pos hc519, if_pos hc524]
      have hk44 : (own_is (own_fold cs1 cs2 cs3 cs4 cs5)) = (1 : Int32) := HL.trans hwant
      have pre45 : ∀ t, Steps p.tables e below (T30.setTop (mkF m 564 #[.val (.int p0), .val (.int p1), .val (.int p2), .val (.int p3), .val (.int il), .val (.int fl), .val (.int el), .val (.int es), .val (.int up), .val (.int ng), .val (.int i0), .val (.int i1), .val (.int i2), .val (.int f0), .val (.int f1), .val (.int f2), .val (.int y0), .val (.int y1), .val (.ref x1), .val (.ref x2), .val (.ref x3), .val (.int sc), .val (.ref x4), .val (.ref x5), .val (.ref b1), .val (.int (own_is (own_fold cs1 cs2 cs3 cs4 cs5))), .val (.int v19), .val (.int v28), .val (.int ((v19 * (own_p10 fl)) + v28)), .val (.int v35), .val (.int v38), .val (.int (fl - v38)), .val (.int (1 : Int32))] [(.int (1 : Int32))])) t → Steps p.tables e below (T0.setTop (mkF m 303 #[.val (.int p0), .val (.int p1), .val (.int p2), .val (.int p3), .val (.int il), .val (.int fl), .val (.int el), .val (.int es), .val (.int up), .val (.int ng), .val (.int i0), .val (.int i1), .val (.int i2), .val (.int f0), .val (.int f1), .val (.int f2), .val (.int y0), .val (.int y1), .val (.ref x1), .val (.ref x2), .val (.ref x3), .val (.int sc), .val (.ref x4), .val (.ref x5), .unset, .unset, .unset, .unset, .unset, .unset, .unset, .unset, .unset] [])) t := by
        intro t kt
        refine pre42 _ ?_
        show Steps p.tables e below (T30.setTop (mkF m 524 #[.val (.int p0), .val (.int p1), .val (.int p2), .val (.int p3), .val (.int il), .val (.int fl), .val (.int el), .val (.int es), .val (.int up), .val (.int ng), .val (.int i0), .val (.int i1), .val (.int i2), .val (.int f0), .val (.int f1), .val (.int f2), .val (.int y0), .val (.int y1), .val (.ref x1), .val (.ref x2), .val (.ref x3), .val (.int sc), .val (.ref x4), .val (.ref x5), .val (.ref b1), .val (.int (own_is (own_fold cs1 cs2 cs3 cs4 cs5))), .val (.int v19), .val (.int v28), .val (.int ((v19 * (own_p10 fl)) + v28)), .val (.int v35), .val (.int v38), .val (.int (fl - v38)), .unset] [(.int ((v19 * (own_p10 fl)) + v28))])) _
        refine XS.ifYes X30.here hx rfl (pc0 := 524) (pc' := 545) rfl (hb hby at_524) rfl ((if0 _ _).trans (teq hc524).1) (by decide) (by decide) ?_
        refine XS.iconst X30.here hx rfl (hb hby at_545) ?_
        refine XS.goto X30.here hx rfl (pc0 := 546) (pc' := 550) rfl (hb hby at_546) (by decide) (by decide) ?_
        show Steps p.tables e below (T30.setTop (mkF m 550 #[.val (.int p0), .val (.int p1), .val (.int p2), .val (.int p3), .val (.int il), .val (.int fl), .val (.int el), .val (.int es), .val (.int up), .val (.int ng), .val (.int i0), .val (.int i1), .val (.int i2), .val (.int f0), .val (.int f1), .val (.int f2), .val (.int y0), .val (.int y1), .val (.ref x1), .val (.ref x2), .val (.ref x3), .val (.int sc), .val (.ref x4), .val (.ref x5), .val (.ref b1), .val (.int (own_is (own_fold cs1 cs2 cs3 cs4 cs5))), .val (.int v19), .val (.int v28), .val (.int ((v19 * (own_p10 fl)) + v28)), .val (.int v35), .val (.int v38), .val (.int (fl - v38)), .unset] [(.int (1 : Int32))])) _
        refine XS.istore X30.here hx rfl (hb hby at_550) rfl (l' := #[.val (.int p0), .val (.int p1), .val (.int p2), .val (.int p3), .val (.int il), .val (.int fl), .val (.int el), .val (.int es), .val (.int up), .val (.int ng), .val (.int i0), .val (.int i1), .val (.int i2), .val (.int f0), .val (.int f1), .val (.int f2), .val (.int y0), .val (.int y1), .val (.ref x1), .val (.ref x2), .val (.ref x3), .val (.int sc), .val (.ref x4), .val (.ref x5), .val (.ref b1), .val (.int (own_is (own_fold cs1 cs2 cs3 cs4 cs5))), .val (.int v19), .val (.int v28), .val (.int ((v19 * (own_p10 fl)) + v28)), .val (.int v35), .val (.int v38), .val (.int (fl - v38)), .val (.int (1 : Int32))]) rfl ?_
        refine XS.iload X30.here hx rfl (hb hby at_552) rfl ?_
        refine XS.iload X30.here hx rfl (hb hby at_554) rfl ?_
        show Steps p.tables e below (T30.setTop (mkF m 556 #[.val (.int p0), .val (.int p1), .val (.int p2), .val (.int p3), .val (.int il), .val (.int fl), .val (.int el), .val (.int es), .val (.int up), .val (.int ng), .val (.int i0), .val (.int i1), .val (.int i2), .val (.int f0), .val (.int f1), .val (.int f2), .val (.int y0), .val (.int y1), .val (.ref x1), .val (.ref x2), .val (.ref x3), .val (.int sc), .val (.ref x4), .val (.ref x5), .val (.ref b1), .val (.int (own_is (own_fold cs1 cs2 cs3 cs4 cs5))), .val (.int v19), .val (.int v28), .val (.int ((v19 * (own_p10 fl)) + v28)), .val (.int v35), .val (.int v38), .val (.int (fl - v38)), .val (.int (1 : Int32))] [(.int (1 : Int32)), (.int (own_is (own_fold cs1 cs2 cs3 cs4 cs5)))])) _
        refine XS.icmpNo X30.here hx rfl (hb hby at_556) rfl (teq hk44).2 ?_
        refine XS.iconst X30.here hx rfl (hb hby at_559) ?_
        refine XS.goto X30.here hx rfl (pc0 := 560) (pc' := 564) rfl (hb hby at_560) (by decide) (by decide) ?_
        show Steps p.tables e below (T30.setTop (mkF m 564 #[.val (.int p0), .val (.int p1), .val (.int p2), .val (.int p3), .val (.int il), .val (.int fl), .val (.int el), .val (.int es), .val (.int up), .val (.int ng), .val (.int i0), .val (.int i1), .val (.int i2), .val (.int f0), .val (.int f1), .val (.int f2), .val (.int y0), .val (.int y1), .val (.ref x1), .val (.ref x2), .val (.ref x3), .val (.int sc), .val (.ref x4), .val (.ref x5), .val (.ref b1), .val (.int (own_is (own_fold cs1 cs2 cs3 cs4 cs5))), .val (.int v19), .val (.int v28), .val (.int ((v19 * (own_p10 fl)) + v28)), .val (.int v35), .val (.int v38), .val (.int (fl - v38)), .val (.int (1 : Int32))] [(.int (1 : Int32))])) _
        exact kt
      exact ⟨_, _, _, X30.more (by decide) (by decide), N30, K30.1, pre45⟩
    ·
      have pre46 : ∀ t, Steps p.tables e below (T30.setTop (mkF m 531 #[.val (.int p0), .val (.int p1), .val (.int p2), .val (.int p3), .val (.int il), .val (.int fl), .val (.int el), .val (.int es), .val (.int up), .val (.int ng), .val (.int i0), .val (.int i1), .val (.int i2), .val (.int f0), .val (.int f1), .val (.int f2), .val (.int y0), .val (.int y1), .val (.ref x1), .val (.ref x2), .val (.ref x3), .val (.int sc), .val (.ref x4), .val (.ref x5), .val (.ref b1), .val (.int (own_is (own_fold cs1 cs2 cs3 cs4 cs5))), .val (.int v19), .val (.int v28), .val (.int ((v19 * (own_p10 fl)) + v28)), .val (.int v35), .val (.int v38), .val (.int (fl - v38)), .unset] [(.int (7 : Int32)), (.int (fl - v38))])) t → Steps p.tables e below (T0.setTop (mkF m 303 #[.val (.int p0), .val (.int p1), .val (.int p2), .val (.int p3), .val (.int il), .val (.int fl), .val (.int el), .val (.int es), .val (.int up), .val (.int ng), .val (.int i0), .val (.int i1), .val (.int i2), .val (.int f0), .val (.int f1), .val (.int f2), .val (.int y0), .val (.int y1), .val (.ref x1), .val (.ref x2), .val (.ref x3), .val (.int sc), .val (.ref x4), .val (.ref x5), .unset, .unset, .unset, .unset, .unset, .unset, .unset, .unset, .unset] [])) t := by
        intro t kt
        refine pre42 _ ?_
        show Steps p.tables e below (T30.setTop (mkF m 524 #[.val (.int p0), .val (.int p1), .val (.int p2), .val (.int p3), .val (.int il), .val (.int fl), .val (.int el), .val (.int es), .val (.int up), .val (.int ng), .val (.int i0), .val (.int i1), .val (.int i2), .val (.int f0), .val (.int f1), .val (.int f2), .val (.int y0), .val (.int y1), .val (.ref x1), .val (.ref x2), .val (.ref x3), .val (.int sc), .val (.ref x4), .val (.ref x5), .val (.ref b1), .val (.int (own_is (own_fold cs1 cs2 cs3 cs4 cs5))), .val (.int v19), .val (.int v28), .val (.int ((v19 * (own_p10 fl)) + v28)), .val (.int v35), .val (.int v38), .val (.int (fl - v38)), .unset] [(.int ((v19 * (own_p10 fl)) + v28))])) _
        refine XS.ifNo X30.here hx rfl (hb hby at_524) rfl ((if0 _ _).trans (feq hc524).1) ?_
        refine XS.iload X30.here hx rfl (hb hby at_527) rfl ?_
        refine XS.bipush X30.here hx rfl (hb hby at_529) ?_
        show Steps p.tables e below (T30.setTop (mkF m 531 #[.val (.int p0), .val (.int p1), .val (.int p2), .val (.int p3), .val (.int il), .val (.int fl), .val (.int el), .val (.int es), .val (.int up), .val (.int ng), .val (.int i0), .val (.int i1), .val (.int i2), .val (.int f0), .val (.int f1), .val (.int f2), .val (.int y0), .val (.int y1), .val (.ref x1), .val (.ref x2), .val (.ref x3), .val (.int sc), .val (.ref x4), .val (.ref x5), .val (.ref b1), .val (.int (own_is (own_fold cs1 cs2 cs3 cs4 cs5))), .val (.int v19), .val (.int v28), .val (.int ((v19 * (own_p10 fl)) + v28)), .val (.int v35), .val (.int v38), .val (.int (fl - v38)), .unset] [(.int (7 : Int32)), (.int (fl - v38))])) _
        exact kt
      by_cases hc531 : (fl - v38) < (7 : Int32)
      ·
        obtain ⟨_, _, ⟨T48, L48, k48, n48⟩, -, X48, ⟨Lc48, hQ48, l48, y48, z48⟩, st48⟩ := Jvm.LawKit.callS X30 hx (y := (⟨"com/example/reed/reed/engine/IntegralityIsIntegerPinLaw", "pow10", "(I)I"⟩ : MethodName)) hown (mvT hZ (hw _ (List.mem_of_getElem? (i := 117) rfl))) (mvT hZ (hw _ (List.mem_of_getElem? (i := 118) rfl))) (mvT hZ (hw _ (List.mem_of_getElem? (i := 2) rfl))) (mvT hZ (hw _ (List.mem_of_getElem? (i := 119) rfl))) (by decide) (backOf (W := 1) (rm20 l Z a0 hw [] (fl - v38) T30.heap n0 (Nat.le_trans Z0 K30.1)) hZ (hw _ (List.mem_of_getElem? (i := 119) rfl)) (hw _ (List.mem_of_getElem? (i := 2) rfl)) (by decide) (by decide)) (g := (mkF m 538 #[.val (.int p0), .val (.int p1), .val (.int p2), .val (.int p3), .val (.int il), .val (.int fl), .val (.int el), .val (.int es), .val (.int up), .val (.int ng), .val (.int i0), .val (.int i1), .val (.int i2), .val (.int f0), .val (.int f1), .val (.int f2), .val (.int y0), .val (.int y1), .val (.ref x1), .val (.ref x2), .val (.ref x3), .val (.int sc), .val (.ref x4), .val (.ref x5), .val (.ref b1), .val (.int (own_is (own_fold cs1 cs2 cs3 cs4 cs5))), .val (.int v19), .val (.int v28), .val (.int ((v19 * (own_p10 fl)) + v28)), .val (.int v35), .val (.int v38), .val (.int (fl - v38)), .unset] [(.int (fl - v38)), (.int ((v19 * (own_p10 fl)) + v28))])) rfl (by rw [hml]; rfl) (argsL := [(.int (fl - v38))]) (rest := [(.int ((v19 * (own_p10 fl)) + v28))]) (lenOf pd__I_I rfl) rfl (by show 2 * 0 + _ ≤ _; exact Nat.le_of_eq rfl) (hb hby at_538) (fun _ _ => ⟨rfl, rfl, (by decide : 31 + 0 ≤ _), (by decide : 2010 + 0 ≤ _)⟩)
        dsimp only [Pt.U, Pt.locs, Pt.cells, Pt.slots] at X48 l48 y48 z48 st48 hQ48
        subst l48 y48 z48
        obtain ⟨rfl, N48q, hq48⟩ := hQ48
        have N48 := Fr.app N30 N48q
        have E48 : Ext T30.heap T48.heap := by rw [hq48]; exact ⟨Nat.le_refl _, fun _ _ q => q⟩
        have K48 := K30.ext E48
        have pre49 : ∀ t, Steps p.tables e below (T48.setTop (mkF m 542 #[.val (.int p0), .val (.int p1), .val (.int p2), .val (.int p3), .val (.int il), .val (.int fl), .val (.int el), .val (.int es), .val (.int up), .val (.int ng), .val (.int i0), .val (.int i1), .val (.int i2), .val (.int f0), .val (.int f1), .val (.int f2), .val (.int y0), .val (.int y1), .val (.ref x1), .val (.ref x2), .val (.ref x3), .val (.int sc), .val (.ref x4), .val (.ref x5), .val (.ref b1), .val (.int (own_is (own_fold cs1 cs2 cs3 cs4 cs5))), .val (.int v19), .val (.int v28), .val (.int ((v19 * (own_p10 fl)) + v28)), .val (.int v35), .val (.int v38), .val (.int (fl - v38)), .unset] [(.int (((v19 * (own_p10 fl)) + v28) - ((v19 * (own_p10 fl)) + v28) / (own_p10 (fl - v38)) * (own_p10 (fl - v38))))])) t → Steps p.tables e below (T0.setTop (mkF m 303 #[.val (.int p0), .val (.int p1), .val (.int p2), .val (.int p3), .val (.int il), .val (.int fl), .val (.int el), .val (.int es), .val (.int up), .val (.int ng), .val (.int i0), .val (.int i1), .val (.int i2), .val (.int f0), .val (.int f1), .val (.int f2), .val (.int y0), .val (.int y1), .val (.ref x1), .val (.ref x2), .val (.ref x3), .val (.int sc), .val (.ref x4), .val (.ref x5), .unset, .unset, .unset, .unset, .unset, .unset, .unset, .unset, .unset] [])) t := by
          intro t kt
          refine pre46 _ ?_
          show Steps p.tables e below (T30.setTop (mkF m 531 #[.val (.int p0), .val (.int p1), .val (.int p2), .val (.int p3), .val (.int il), .val (.int fl), .val (.int el), .val (.int es), .val (.int up), .val (.int ng), .val (.int i0), .val (.int i1), .val (.int i2), .val (.int f0), .val (.int f1), .val (.int f2), .val (.int y0), .val (.int y1), .val (.ref x1), .val (.ref x2), .val (.ref x3), .val (.int sc), .val (.ref x4), .val (.ref x5), .val (.ref b1), .val (.int (own_is (own_fold cs1 cs2 cs3 cs4 cs5))), .val (.int v19), .val (.int v28), .val (.int ((v19 * (own_p10 fl)) + v28)), .val (.int v35), .val (.int v38), .val (.int (fl - v38)), .unset] [(.int (7 : Int32)), (.int (fl - v38))])) _
          refine XS.icmpNo X30.here hx rfl (hb hby at_531) rfl (tlt hc531).2.1 ?_
          refine XS.iload X30.here hx rfl (hb hby at_534) rfl ?_
          refine XS.iload X30.here hx rfl (hb hby at_536) rfl ?_
          show Steps p.tables e below (T30.setTop (mkF m 538 #[.val (.int p0), .val (.int p1), .val (.int p2), .val (.int p3), .val (.int il), .val (.int fl), .val (.int el), .val (.int es), .val (.int up), .val (.int ng), .val (.int i0), .val (.int i1), .val (.int i2), .val (.int f0), .val (.int f1), .val (.int f2), .val (.int y0), .val (.int y1), .val (.ref x1), .val (.ref x2), .val (.ref x3), .val (.int sc), .val (.ref x4), .val (.ref x5), .val (.ref b1), .val (.int (own_is (own_fold cs1 cs2 cs3 cs4 cs5))), .val (.int v19), .val (.int v28), .val (.int ((v19 * (own_p10 fl)) + v28)), .val (.int v35), .val (.int v38), .val (.int (fl - v38)), .unset] [(.int (fl - v38)), (.int ((v19 * (own_p10 fl)) + v28))])) _
          refine st48 _ ?_
          show Steps p.tables e below (T48.setTop (mkF m 541 #[.val (.int p0), .val (.int p1), .val (.int p2), .val (.int p3), .val (.int il), .val (.int fl), .val (.int el), .val (.int es), .val (.int up), .val (.int ng), .val (.int i0), .val (.int i1), .val (.int i2), .val (.int f0), .val (.int f1), .val (.int f2), .val (.int y0), .val (.int y1), .val (.ref x1), .val (.ref x2), .val (.ref x3), .val (.int sc), .val (.ref x4), .val (.ref x5), .val (.ref b1), .val (.int (own_is (own_fold cs1 cs2 cs3 cs4 cs5))), .val (.int v19), .val (.int v28), .val (.int ((v19 * (own_p10 fl)) + v28)), .val (.int v35), .val (.int v38), .val (.int (fl - v38)), .unset] [(.int (own_p10 (fl - v38))), (.int ((v19 * (own_p10 fl)) + v28))])) _
          refine XS.irem X48.here hx rfl (hb hby at_541) rfl (own_p10nz _) ?_
          show Steps p.tables e below (T48.setTop (mkF m 542 #[.val (.int p0), .val (.int p1), .val (.int p2), .val (.int p3), .val (.int il), .val (.int fl), .val (.int el), .val (.int es), .val (.int up), .val (.int ng), .val (.int i0), .val (.int i1), .val (.int i2), .val (.int f0), .val (.int f1), .val (.int f2), .val (.int y0), .val (.int y1), .val (.ref x1), .val (.ref x2), .val (.ref x3), .val (.int sc), .val (.ref x4), .val (.ref x5), .val (.ref b1), .val (.int (own_is (own_fold cs1 cs2 cs3 cs4 cs5))), .val (.int v19), .val (.int v28), .val (.int ((v19 * (own_p10 fl)) + v28)), .val (.int v35), .val (.int v38), .val (.int (fl - v38)), .unset] [(.int (((v19 * (own_p10 fl)) + v28) - ((v19 * (own_p10 fl)) + v28) / (own_p10 (fl - v38)) * (own_p10 (fl - v38))))])) _
          exact kt
        by_cases hc542 : (((v19 * (own_p10 fl)) + v28) - ((v19 * (own_p10 fl)) + v28) / (own_p10 (fl - v38)) * (own_p10 (fl - v38))) = (0 : Int32)
        ·
          have qown_iv : own_iv il i0 i1 i2 = v19 := by simp only [own_iv, hv17, hv19, hv24, hv26, hv28, hv33, hv35, hv38]
          have qown_fv : own_fv fl f0 f1 f2 = v28 := by simp only [own_fv, hv17, hv19, hv24, hv26, hv28, hv33, hv35, hv38]
          have qown_ev : own_ev el y0 y1 = v35 := by simp only [own_ev, hv17, hv19, hv24, hv26, hv28, hv33, hv35, hv38]
          have qown_e : own_e es v35 = v38 := by simp only [own_e, hv17, hv19, hv24, hv26, hv28, hv33, hv35, hv38]
          have hwant : own_want il fl el es i0 i1 i2 f0 f1 f2 y0 y1 = (1 : Int32) := by
            unfold own_want; rw [qown_iv, qown_fv, qown_ev, qown_e]; unfold own_wt; rw [if_pos hc519, if_neg hc524, if_pos hc531, if_pos hc542]
          have hk51 : (own_is (own_fold cs1 cs2 cs3 cs4 cs5)) = (1 : Int32) := HL.trans hwant
          have pre52 : ∀ t, Steps p.tables e below (T48.setTop (mkF m 564 #[.val (.int p0), .val (.int p1), .val (.int p2), .val (.int p3), .val (.int il), .val (.int fl), .val (.int el), .val (.int es), .val (.int up), .val (.int ng), .val (.int i0), .val (.int i1), .val (.int i2), .val (.int f0), .val (.int f1), .val (.int f2), .val (.int y0), .val (.int y1), .val (.ref x1), .val (.ref x2), .val (.ref x3), .val (.int sc), .val (.ref x4), .val (.ref x5), .val (.ref b1), .val (.int (own_is (own_fold cs1 cs2 cs3 cs4 cs5))), .val (.int v19), .val (.int v28), .val (.int ((v19 * (own_p10 fl)) + v28)), .val (.int v35), .val (.int v38), .val (.int (fl - v38)), .val (.int (1 : Int32))] [(.int (1 : Int32))])) t → Steps p.tables e below (T0.setTop (mkF m 303 #[.val (.int p0), .val (.int p1), .val (.int p2), .val (.int p3), .val (.int il), .val (.int fl), .val (.int el), .val (.int es), .val (.int up), .val (.int ng), .val (.int i0), .val (.int i1), .val (.int i2), .val (.int f0), .val (.int f1), .val (.int f2), .val (.int y0), .val (.int y1), .val (.ref x1), .val (.ref x2), .val (.ref x3), .val (.int sc), .val (.ref x4), .val (.ref x5), .unset, .unset, .unset, .unset, .unset, .unset, .unset, .unset, .unset] [])) t := by
            intro t kt
            refine pre49 _ ?_
            show Steps p.tables e below (T48.setTop (mkF m 542 #[.val (.int p0), .val (.int p1), .val (.int p2), .val (.int p3), .val (.int il), .val (.int fl), .val (.int el), .val (.int es), .val (.int up), .val (.int ng), .val (.int i0), .val (.int i1), .val (.int i2), .val (.int f0), .val (.int f1), .val (.int f2), .val (.int y0), .val (.int y1), .val (.ref x1), .val (.ref x2), .val (.ref x3), .val (.int sc), .val (.ref x4), .val (.ref x5), .val (.ref b1), .val (.int (own_is (own_fold cs1 cs2 cs3 cs4 cs5))), .val (.int v19), .val (.int v28), .val (.int ((v19 * (own_p10 fl)) + v28)), .val (.int v35), .val (.int v38), .val (.int (fl - v38)), .unset] [(.int (((v19 * (own_p10 fl)) + v28) - ((v19 * (own_p10 fl)) + v28) / (own_p10 (fl - v38)) * (own_p10 (fl - v38))))])) _
            refine XS.ifNo X48.here hx rfl (hb hby at_542) rfl ((if0 _ _).trans (teq hc542).2) ?_
            refine XS.iconst X48.here hx rfl (hb hby at_545) ?_
            refine XS.goto X48.here hx rfl (pc0 := 546) (pc' := 550) rfl (hb hby at_546) (by decide) (by decide) ?_
            show Steps p.tables e below (T48.setTop (mkF m 550 #[.val (.int p0), .val (.int p1), .val (.int p2), .val (.int p3), .val (.int il), .val (.int fl), .val (.int el), .val (.int es), .val (.int up), .val (.int ng), .val (.int i0), .val (.int i1), .val (.int i2), .val (.int f0), .val (.int f1), .val (.int f2), .val (.int y0), .val (.int y1), .val (.ref x1), .val (.ref x2), .val (.ref x3), .val (.int sc), .val (.ref x4), .val (.ref x5), .val (.ref b1), .val (.int (own_is (own_fold cs1 cs2 cs3 cs4 cs5))), .val (.int v19), .val (.int v28), .val (.int ((v19 * (own_p10 fl)) + v28)), .val (.int v35), .val (.int v38), .val (.int (fl - v38)), .unset] [(.int (1 : Int32))])) _
            refine XS.istore X48.here hx rfl (hb hby at_550) rfl (l' := #[.val (.int p0), .val (.int p1), .val (.int p2), .val (.int p3), .val (.int il), .val (.int fl), .val (.int el), .val (.int es), .val (.int up), .val (.int ng), .val (.int i0), .val (.int i1), .val (.int i2), .val (.int f0), .val (.int f1), .val (.int f2), .val (.int y0), .val (.int y1), .val (.ref x1), .val (.ref x2), .val (.ref x3), .val (.int sc), .val (.ref x4), .val (.ref x5), .val (.ref b1), .val (.int (own_is (own_fold cs1 cs2 cs3 cs4 cs5))), .val (.int v19), .val (.int v28), .val (.int ((v19 * (own_p10 fl)) + v28)), .val (.int v35), .val (.int v38), .val (.int (fl - v38)), .val (.int (1 : Int32))]) rfl ?_
            refine XS.iload X48.here hx rfl (hb hby at_552) rfl ?_
            refine XS.iload X48.here hx rfl (hb hby at_554) rfl ?_
            show Steps p.tables e below (T48.setTop (mkF m 556 #[.val (.int p0), .val (.int p1), .val (.int p2), .val (.int p3), .val (.int il), .val (.int fl), .val (.int el), .val (.int es), .val (.int up), .val (.int ng), .val (.int i0), .val (.int i1), .val (.int i2), .val (.int f0), .val (.int f1), .val (.int f2), .val (.int y0), .val (.int y1), .val (.ref x1), .val (.ref x2), .val (.ref x3), .val (.int sc), .val (.ref x4), .val (.ref x5), .val (.ref b1), .val (.int (own_is (own_fold cs1 cs2 cs3 cs4 cs5))), .val (.int v19), .val (.int v28), .val (.int ((v19 * (own_p10 fl)) + v28)), .val (.int v35), .val (.int v38), .val (.int (fl - v38)), .val (.int (1 : Int32))] [(.int (1 : Int32)), (.int (own_is (own_fold cs1 cs2 cs3 cs4 cs5)))])) _
            refine XS.icmpNo X48.here hx rfl (hb hby at_556) rfl (teq hk51).2 ?_
            refine XS.iconst X48.here hx rfl (hb hby at_559) ?_
            refine XS.goto X48.here hx rfl (pc0 := 560) (pc' := 564) rfl (hb hby at_560) (by decide) (by decide) ?_
            show Steps p.tables e below (T48.setTop (mkF m 564 #[.val (.int p0), .val (.int p1), .val (.int p2), .val (.int p3), .val (.int il), .val (.int fl), .val (.int el), .val (.int es), .val (.int up), .val (.int ng), .val (.int i0), .val (.int i1), .val (.int i2), .val (.int f0), .val (.int f1), .val (.int f2), .val (.int y0), .val (.int y1), .val (.ref x1), .val (.ref x2), .val (.ref x3), .val (.int sc), .val (.ref x4), .val (.ref x5), .val (.ref b1), .val (.int (own_is (own_fold cs1 cs2 cs3 cs4 cs5))), .val (.int v19), .val (.int v28), .val (.int ((v19 * (own_p10 fl)) + v28)), .val (.int v35), .val (.int v38), .val (.int (fl - v38)), .val (.int (1 : Int32))] [(.int (1 : Int32))])) _
            exact kt
          exact ⟨_, _, _, X48.more (by decide) (by decide), N48, K48.1, pre52⟩
        ·
          have qown_iv : own_iv il i0 i1 i2 = v19 := by simp only [own_iv, hv17, hv19, hv24, hv26, hv28, hv33, hv35, hv38]
          have qown_fv : own_fv fl f0 f1 f2 = v28 := by simp only [own_fv, hv17, hv19, hv24, hv26, hv28, hv33, hv35, hv38]
          have qown_ev : own_ev el y0 y1 = v35 := by simp only [own_ev, hv17, hv19, hv24, hv26, hv28, hv33, hv35, hv38]
          have qown_e : own_e es v35 = v38 := by simp only [own_e, hv17, hv19, hv24, hv26, hv28, hv33, hv35, hv38]
          have hwant : own_want il fl el es i0 i1 i2 f0 f1 f2 y0 y1 = (0 : Int32) := by
            unfold own_want; rw [qown_iv, qown_fv, qown_ev, qown_e]; unfold own_wt; rw [if_pos hc519, if_neg hc524, if_pos hc531, if_neg hc542]
          have hk53 : (own_is (own_fold cs1 cs2 cs3 cs4 cs5)) = (0 : Int32) := HL.trans hwant
          have pre54 : ∀ t, Steps p.tables e below (T48.setTop (mkF m 564 #[.val (.int p0), .val (.int p1), .val (.int p2), .val (.int p3), .val (.int il), .val (.int fl), .val (.int el), .val (.int es), .val (.int up), .val (.int ng), .val (.int i0), .val (.int i1), .val (.int i2), .val (.int f0), .val (.int f1), .val (.int f2), .val (.int y0), .val (.int y1), .val (.ref x1), .val (.ref x2), .val (.ref x3), .val (.int sc), .val (.ref x4), .val (.ref x5), .val (.ref b1), .val (.int (own_is (own_fold cs1 cs2 cs3 cs4 cs5))), .val (.int v19), .val (.int v28), .val (.int ((v19 * (own_p10 fl)) + v28)), .val (.int v35), .val (.int v38), .val (.int (fl - v38)), .val (.int (0 : Int32))] [(.int (1 : Int32))])) t → Steps p.tables e below (T0.setTop (mkF m 303 #[.val (.int p0), .val (.int p1), .val (.int p2), .val (.int p3), .val (.int il), .val (.int fl), .val (.int el), .val (.int es), .val (.int up), .val (.int ng), .val (.int i0), .val (.int i1), .val (.int i2), .val (.int f0), .val (.int f1), .val (.int f2), .val (.int y0), .val (.int y1), .val (.ref x1), .val (.ref x2), .val (.ref x3), .val (.int sc), .val (.ref x4), .val (.ref x5), .unset, .unset, .unset, .unset, .unset, .unset, .unset, .unset, .unset] [])) t := by
            intro t kt
            refine pre49 _ ?_
            show Steps p.tables e below (T48.setTop (mkF m 542 #[.val (.int p0), .val (.int p1), .val (.int p2), .val (.int p3), .val (.int il), .val (.int fl), .val (.int el), .val (.int es), .val (.int up), .val (.int ng), .val (.int i0), .val (.int i1), .val (.int i2), .val (.int f0), .val (.int f1), .val (.int f2), .val (.int y0), .val (.int y1), .val (.ref x1), .val (.ref x2), .val (.ref x3), .val (.int sc), .val (.ref x4), .val (.ref x5), .val (.ref b1), .val (.int (own_is (own_fold cs1 cs2 cs3 cs4 cs5))), .val (.int v19), .val (.int v28), .val (.int ((v19 * (own_p10 fl)) + v28)), .val (.int v35), .val (.int v38), .val (.int (fl - v38)), .unset] [(.int (((v19 * (own_p10 fl)) + v28) - ((v19 * (own_p10 fl)) + v28) / (own_p10 (fl - v38)) * (own_p10 (fl - v38))))])) _
            refine XS.ifYes X48.here hx rfl (pc0 := 542) (pc' := 549) rfl (hb hby at_542) rfl ((if0 _ _).trans (feq hc542).2) (by decide) (by decide) ?_
            refine XS.iconst X48.here hx rfl (hb hby at_549) ?_
            refine XS.istore X48.here hx rfl (hb hby at_550) rfl (l' := #[.val (.int p0), .val (.int p1), .val (.int p2), .val (.int p3), .val (.int il), .val (.int fl), .val (.int el), .val (.int es), .val (.int up), .val (.int ng), .val (.int i0), .val (.int i1), .val (.int i2), .val (.int f0), .val (.int f1), .val (.int f2), .val (.int y0), .val (.int y1), .val (.ref x1), .val (.ref x2), .val (.ref x3), .val (.int sc), .val (.ref x4), .val (.ref x5), .val (.ref b1), .val (.int (own_is (own_fold cs1 cs2 cs3 cs4 cs5))), .val (.int v19), .val (.int v28), .val (.int ((v19 * (own_p10 fl)) + v28)), .val (.int v35), .val (.int v38), .val (.int (fl - v38)), .val (.int (0 : Int32))]) rfl ?_
            show Steps p.tables e below (T48.setTop (mkF m 552 #[.val (.int p0), .val (.int p1), .val (.int p2), .val (.int p3), .val (.int il), .val (.int fl), .val (.int el), .val (.int es), .val (.int up), .val (.int ng), .val (.int i0), .val (.int i1), .val (.int i2), .val (.int f0), .val (.int f1), .val (.int f2), .val (.int y0), .val (.int y1), .val (.ref x1), .val (.ref x2), .val (.ref x3), .val (.int sc), .val (.ref x4), .val (.ref x5), .val (.ref b1), .val (.int (own_is (own_fold cs1 cs2 cs3 cs4 cs5))), .val (.int v19), .val (.int v28), .val (.int ((v19 * (own_p10 fl)) + v28)), .val (.int v35), .val (.int v38), .val (.int (fl - v38)), .val (.int (0 : Int32))] [])) _
            refine XS.iload X48.here hx rfl (hb hby at_552) rfl ?_
            refine XS.iload X48.here hx rfl (hb hby at_554) rfl ?_
            refine XS.icmpNo X48.here hx rfl (hb hby at_556) rfl (teq hk53).2 ?_
            show Steps p.tables e below (T48.setTop (mkF m 559 #[.val (.int p0), .val (.int p1), .val (.int p2), .val (.int p3), .val (.int il), .val (.int fl), .val (.int el), .val (.int es), .val (.int up), .val (.int ng), .val (.int i0), .val (.int i1), .val (.int i2), .val (.int f0), .val (.int f1), .val (.int f2), .val (.int y0), .val (.int y1), .val (.ref x1), .val (.ref x2), .val (.ref x3), .val (.int sc), .val (.ref x4), .val (.ref x5), .val (.ref b1), .val (.int (own_is (own_fold cs1 cs2 cs3 cs4 cs5))), .val (.int v19), .val (.int v28), .val (.int ((v19 * (own_p10 fl)) + v28)), .val (.int v35), .val (.int v38), .val (.int (fl - v38)), .val (.int (0 : Int32))] [])) _
            refine XS.iconst X48.here hx rfl (hb hby at_559) ?_
            refine XS.goto X48.here hx rfl (pc0 := 560) (pc' := 564) rfl (hb hby at_560) (by decide) (by decide) ?_
            show Steps p.tables e below (T48.setTop (mkF m 564 #[.val (.int p0), .val (.int p1), .val (.int p2), .val (.int p3), .val (.int il), .val (.int fl), .val (.int el), .val (.int es), .val (.int up), .val (.int ng), .val (.int i0), .val (.int i1), .val (.int i2), .val (.int f0), .val (.int f1), .val (.int f2), .val (.int y0), .val (.int y1), .val (.ref x1), .val (.ref x2), .val (.ref x3), .val (.int sc), .val (.ref x4), .val (.ref x5), .val (.ref b1), .val (.int (own_is (own_fold cs1 cs2 cs3 cs4 cs5))), .val (.int v19), .val (.int v28), .val (.int ((v19 * (own_p10 fl)) + v28)), .val (.int v35), .val (.int v38), .val (.int (fl - v38)), .val (.int (0 : Int32))] [(.int (1 : Int32))])) _
            exact kt
          exact ⟨_, _, _, X48.more (by decide) (by decide), N48, K48.1, pre54⟩
      ·
        have qown_iv : own_iv il i0 i1 i2 = v19 := by simp only [own_iv, hv17, hv19, hv24, hv26, hv28, hv33, hv35, hv38]
        have qown_fv : own_fv fl f0 f1 f2 = v28 := by simp only [own_fv, hv17, hv19, hv24, hv26, hv28, hv33, hv35, hv38]
        have qown_ev : own_ev el y0 y1 = v35 := by simp only [own_ev, hv17, hv19, hv24, hv26, hv28, hv33, hv35, hv38]
        have qown_e : own_e es v35 = v38 := by simp only [own_e, hv17, hv19, hv24, hv26, hv28, hv33, hv35, hv38]
        have hwant : own_want il fl el es i0 i1 i2 f0 f1 f2 y0 y1 = (0 : Int32) := by
          unfold own_want; rw [qown_iv, qown_fv, qown_ev, qown_e]; unfold own_wt; rw [if_pos hc519, if_neg hc524, if_neg hc531]
        have hk55 : (own_is (own_fold cs1 cs2 cs3 cs4 cs5)) = (0 : Int32) := HL.trans hwant
        have pre56 : ∀ t, Steps p.tables e below (T30.setTop (mkF m 564 #[.val (.int p0), .val (.int p1), .val (.int p2), .val (.int p3), .val (.int il), .val (.int fl), .val (.int el), .val (.int es), .val (.int up), .val (.int ng), .val (.int i0), .val (.int i1), .val (.int i2), .val (.int f0), .val (.int f1), .val (.int f2), .val (.int y0), .val (.int y1), .val (.ref x1), .val (.ref x2), .val (.ref x3), .val (.int sc), .val (.ref x4), .val (.ref x5), .val (.ref b1), .val (.int (own_is (own_fold cs1 cs2 cs3 cs4 cs5))), .val (.int v19), .val (.int v28), .val (.int ((v19 * (own_p10 fl)) + v28)), .val (.int v35), .val (.int v38), .val (.int (fl - v38)), .val (.int (0 : Int32))] [(.int (1 : Int32))])) t → Steps p.tables e below (T0.setTop (mkF m 303 #[.val (.int p0), .val (.int p1), .val (.int p2), .val (.int p3), .val (.int il), .val (.int fl), .val (.int el), .val (.int es), .val (.int up), .val (.int ng), .val (.int i0), .val (.int i1), .val (.int i2), .val (.int f0), .val (.int f1), .val (.int f2), .val (.int y0), .val (.int y1), .val (.ref x1), .val (.ref x2), .val (.ref x3), .val (.int sc), .val (.ref x4), .val (.ref x5), .unset, .unset, .unset, .unset, .unset, .unset, .unset, .unset, .unset] [])) t := by
          intro t kt
          refine pre46 _ ?_
          show Steps p.tables e below (T30.setTop (mkF m 531 #[.val (.int p0), .val (.int p1), .val (.int p2), .val (.int p3), .val (.int il), .val (.int fl), .val (.int el), .val (.int es), .val (.int up), .val (.int ng), .val (.int i0), .val (.int i1), .val (.int i2), .val (.int f0), .val (.int f1), .val (.int f2), .val (.int y0), .val (.int y1), .val (.ref x1), .val (.ref x2), .val (.ref x3), .val (.int sc), .val (.ref x4), .val (.ref x5), .val (.ref b1), .val (.int (own_is (own_fold cs1 cs2 cs3 cs4 cs5))), .val (.int v19), .val (.int v28), .val (.int ((v19 * (own_p10 fl)) + v28)), .val (.int v35), .val (.int v38), .val (.int (fl - v38)), .unset] [(.int (7 : Int32)), (.int (fl - v38))])) _
          refine XS.icmpYes X30.here hx rfl (pc0 := 531) (pc' := 549) rfl (hb hby at_531) rfl (flt hc531).2.1 (by decide) (by decide) ?_
          refine XS.iconst X30.here hx rfl (hb hby at_549) ?_
          refine XS.istore X30.here hx rfl (hb hby at_550) rfl (l' := #[.val (.int p0), .val (.int p1), .val (.int p2), .val (.int p3), .val (.int il), .val (.int fl), .val (.int el), .val (.int es), .val (.int up), .val (.int ng), .val (.int i0), .val (.int i1), .val (.int i2), .val (.int f0), .val (.int f1), .val (.int f2), .val (.int y0), .val (.int y1), .val (.ref x1), .val (.ref x2), .val (.ref x3), .val (.int sc), .val (.ref x4), .val (.ref x5), .val (.ref b1), .val (.int (own_is (own_fold cs1 cs2 cs3 cs4 cs5))), .val (.int v19), .val (.int v28), .val (.int ((v19 * (own_p10 fl)) + v28)), .val (.int v35), .val (.int v38), .val (.int (fl - v38)), .val (.int (0 : Int32))]) rfl ?_
          show Steps p.tables e below (T30.setTop (mkF m 552 #[.val (.int p0), .val (.int p1), .val (.int p2), .val (.int p3), .val (.int il), .val (.int fl), .val (.int el), .val (.int es), .val (.int up), .val (.int ng), .val (.int i0), .val (.int i1), .val (.int i2), .val (.int f0), .val (.int f1), .val (.int f2), .val (.int y0), .val (.int y1), .val (.ref x1), .val (.ref x2), .val (.ref x3), .val (.int sc), .val (.ref x4), .val (.ref x5), .val (.ref b1), .val (.int (own_is (own_fold cs1 cs2 cs3 cs4 cs5))), .val (.int v19), .val (.int v28), .val (.int ((v19 * (own_p10 fl)) + v28)), .val (.int v35), .val (.int v38), .val (.int (fl - v38)), .val (.int (0 : Int32))] [])) _
          refine XS.iload X30.here hx rfl (hb hby at_552) rfl ?_
          refine XS.iload X30.here hx rfl (hb hby at_554) rfl ?_
          refine XS.icmpNo X30.here hx rfl (hb hby at_556) rfl (teq hk55).2 ?_
          show Steps p.tables e below (T30.setTop (mkF m 559 #[.val (.int p0), .val (.int p1), .val (.int p2), .val (.int p3), .val (.int il), .val (.int fl), .val (.int el), .val (.int es), .val (.int up), .val (.int ng), .val (.int i0), .val (.int i1), .val (.int i2), .val (.int f0), .val (.int f1), .val (.int f2), .val (.int y0), .val (.int y1), .val (.ref x1), .val (.ref x2), .val (.ref x3), .val (.int sc), .val (.ref x4), .val (.ref x5), .val (.ref b1), .val (.int (own_is (own_fold cs1 cs2 cs3 cs4 cs5))), .val (.int v19), .val (.int v28), .val (.int ((v19 * (own_p10 fl)) + v28)), .val (.int v35), .val (.int v38), .val (.int (fl - v38)), .val (.int (0 : Int32))] [])) _
          refine XS.iconst X30.here hx rfl (hb hby at_559) ?_
          refine XS.goto X30.here hx rfl (pc0 := 560) (pc' := 564) rfl (hb hby at_560) (by decide) (by decide) ?_
          show Steps p.tables e below (T30.setTop (mkF m 564 #[.val (.int p0), .val (.int p1), .val (.int p2), .val (.int p3), .val (.int il), .val (.int fl), .val (.int el), .val (.int es), .val (.int up), .val (.int ng), .val (.int i0), .val (.int i1), .val (.int i2), .val (.int f0), .val (.int f1), .val (.int f2), .val (.int y0), .val (.int y1), .val (.ref x1), .val (.ref x2), .val (.ref x3), .val (.int sc), .val (.ref x4), .val (.ref x5), .val (.ref b1), .val (.int (own_is (own_fold cs1 cs2 cs3 cs4 cs5))), .val (.int v19), .val (.int v28), .val (.int ((v19 * (own_p10 fl)) + v28)), .val (.int v35), .val (.int v38), .val (.int (fl - v38)), .val (.int (0 : Int32))] [(.int (1 : Int32))])) _
          exact kt
        exact ⟨_, _, _, X30.more (by decide) (by decide), N30, K30.1, pre56⟩
  ·
    have qown_iv : own_iv il i0 i1 i2 = v19 := by simp only [own_iv, hv17, hv19, hv24, hv26, hv28, hv33, hv35, hv38]
    have qown_fv : own_fv fl f0 f1 f2 = v28 := by simp only [own_fv, hv17, hv19, hv24, hv26, hv28, hv33, hv35, hv38]
    have qown_ev : own_ev el y0 y1 = v35 := by simp only [own_ev, hv17, hv19, hv24, hv26, hv28, hv33, hv35, hv38]
    have qown_e : own_e es v35 = v38 := by simp only [own_e, hv17, hv19, hv24, hv26, hv28, hv33, hv35, hv38]
    have hwant : own_want il fl el es i0 i1 i2 f0 f1 f2 y0 y1 = (1 : Int32) := by
      unfold own_want; rw [qown_iv, qown_fv, qown_ev, qown_e]; unfold own_wt; rw [if_neg hc519]
    have hk57 : (own_is (own_fold cs1 cs2 cs3 cs4 cs5)) = (1 : Int32) := HL.trans hwant
    have pre58 : ∀ t, Steps p.tables e below (T30.setTop (mkF m 564 #[.val (.int p0), .val (.int p1), .val (.int p2), .val (.int p3), .val (.int il), .val (.int fl), .val (.int el), .val (.int es), .val (.int up), .val (.int ng), .val (.int i0), .val (.int i1), .val (.int i2), .val (.int f0), .val (.int f1), .val (.int f2), .val (.int y0), .val (.int y1), .val (.ref x1), .val (.ref x2), .val (.ref x3), .val (.int sc), .val (.ref x4), .val (.ref x5), .val (.ref b1), .val (.int (own_is (own_fold cs1 cs2 cs3 cs4 cs5))), .val (.int v19), .val (.int v28), .val (.int ((v19 * (own_p10 fl)) + v28)), .val (.int v35), .val (.int v38), .val (.int (fl - v38)), .val (.int (1 : Int32))] [(.int (1 : Int32))])) t → Steps p.tables e below (T0.setTop (mkF m 303 #[.val (.int p0), .val (.int p1), .val (.int p2), .val (.int p3), .val (.int il), .val (.int fl), .val (.int el), .val (.int es), .val (.int up), .val (.int ng), .val (.int i0), .val (.int i1), .val (.int i2), .val (.int f0), .val (.int f1), .val (.int f2), .val (.int y0), .val (.int y1), .val (.ref x1), .val (.ref x2), .val (.ref x3), .val (.int sc), .val (.ref x4), .val (.ref x5), .unset, .unset, .unset, .unset, .unset, .unset, .unset, .unset, .unset] [])) t := by
      intro t kt
      refine pre40 _ ?_
      show Steps p.tables e below (T30.setTop (mkF m 519 #[.val (.int p0), .val (.int p1), .val (.int p2), .val (.int p3), .val (.int il), .val (.int fl), .val (.int el), .val (.int es), .val (.int up), .val (.int ng), .val (.int i0), .val (.int i1), .val (.int i2), .val (.int f0), .val (.int f1), .val (.int f2), .val (.int y0), .val (.int y1), .val (.ref x1), .val (.ref x2), .val (.ref x3), .val (.int sc), .val (.ref x4), .val (.ref x5), .val (.ref b1), .val (.int (own_is (own_fold cs1 cs2 cs3 cs4 cs5))), .val (.int v19), .val (.int v28), .val (.int ((v19 * (own_p10 fl)) + v28)), .val (.int v35), .val (.int v38), .val (.int (fl - v38)), .unset] [(.int (fl - v38))])) _
      refine XS.ifYes X30.here hx rfl (pc0 := 519) (pc' := 545) rfl (hb hby at_519) rfl ((if0 _ _).trans (flt hc519).2.2.2) (by decide) (by decide) ?_
      refine XS.iconst X30.here hx rfl (hb hby at_545) ?_
      refine XS.goto X30.here hx rfl (pc0 := 546) (pc' := 550) rfl (hb hby at_546) (by decide) (by decide) ?_
      show Steps p.tables e below (T30.setTop (mkF m 550 #[.val (.int p0), .val (.int p1), .val (.int p2), .val (.int p3), .val (.int il), .val (.int fl), .val (.int el), .val (.int es), .val (.int up), .val (.int ng), .val (.int i0), .val (.int i1), .val (.int i2), .val (.int f0), .val (.int f1), .val (.int f2), .val (.int y0), .val (.int y1), .val (.ref x1), .val (.ref x2), .val (.ref x3), .val (.int sc), .val (.ref x4), .val (.ref x5), .val (.ref b1), .val (.int (own_is (own_fold cs1 cs2 cs3 cs4 cs5))), .val (.int v19), .val (.int v28), .val (.int ((v19 * (own_p10 fl)) + v28)), .val (.int v35), .val (.int v38), .val (.int (fl - v38)), .unset] [(.int (1 : Int32))])) _
      refine XS.istore X30.here hx rfl (hb hby at_550) rfl (l' := #[.val (.int p0), .val (.int p1), .val (.int p2), .val (.int p3), .val (.int il), .val (.int fl), .val (.int el), .val (.int es), .val (.int up), .val (.int ng), .val (.int i0), .val (.int i1), .val (.int i2), .val (.int f0), .val (.int f1), .val (.int f2), .val (.int y0), .val (.int y1), .val (.ref x1), .val (.ref x2), .val (.ref x3), .val (.int sc), .val (.ref x4), .val (.ref x5), .val (.ref b1), .val (.int (own_is (own_fold cs1 cs2 cs3 cs4 cs5))), .val (.int v19), .val (.int v28), .val (.int ((v19 * (own_p10 fl)) + v28)), .val (.int v35), .val (.int v38), .val (.int (fl - v38)), .val (.int (1 : Int32))]) rfl ?_
      refine XS.iload X30.here hx rfl (hb hby at_552) rfl ?_
      refine XS.iload X30.here hx rfl (hb hby at_554) rfl ?_
      show Steps p.tables e below (T30.setTop (mkF m 556 #[.val (.int p0), .val (.int p1), .val (.int p2), .val (.int p3), .val (.int il), .val (.int fl), .val (.int el), .val (.int es), .val (.int up), .val (.int ng), .val (.int i0), .val (.int i1), .val (.int i2), .val (.int f0), .val (.int f1), .val (.int f2), .val (.int y0), .val (.int y1), .val (.ref x1), .val (.ref x2), .val (.ref x3), .val (.int sc), .val (.ref x4), .val (.ref x5), .val (.ref b1), .val (.int (own_is (own_fold cs1 cs2 cs3 cs4 cs5))), .val (.int v19), .val (.int v28), .val (.int ((v19 * (own_p10 fl)) + v28)), .val (.int v35), .val (.int v38), .val (.int (fl - v38)), .val (.int (1 : Int32))] [(.int (1 : Int32)), (.int (own_is (own_fold cs1 cs2 cs3 cs4 cs5)))])) _
      refine XS.icmpNo X30.here hx rfl (hb hby at_556) rfl (teq hk57).2 ?_
      refine XS.iconst X30.here hx rfl (hb hby at_559) ?_
      refine XS.goto X30.here hx rfl (pc0 := 560) (pc' := 564) rfl (hb hby at_560) (by decide) (by decide) ?_
      show Steps p.tables e below (T30.setTop (mkF m 564 #[.val (.int p0), .val (.int p1), .val (.int p2), .val (.int p3), .val (.int il), .val (.int fl), .val (.int el), .val (.int es), .val (.int up), .val (.int ng), .val (.int i0), .val (.int i1), .val (.int i2), .val (.int f0), .val (.int f1), .val (.int f2), .val (.int y0), .val (.int y1), .val (.ref x1), .val (.ref x2), .val (.ref x3), .val (.int sc), .val (.ref x4), .val (.ref x5), .val (.ref b1), .val (.int (own_is (own_fold cs1 cs2 cs3 cs4 cs5))), .val (.int v19), .val (.int v28), .val (.int ((v19 * (own_p10 fl)) + v28)), .val (.int v35), .val (.int v38), .val (.int (fl - v38)), .val (.int (1 : Int32))] [(.int (1 : Int32))])) _
      exact kt
    exact ⟨_, _, _, X30.more (by decide) (by decide), N30, K30.1, pre58⟩
theorem pn_0 : plainName "com/example/reed/reed/engine/IntegralityIsIntegerPinLaw" = true := by first | (simp [plainName, overriddenIn]; done) | decide +kernel
theorem pd__CCCCI_Ljava_lang_String_ : parseMethodDescriptor "(CCCCI)Ljava/lang/String;" = some ⟨[.char, .char, .char, .char, .int], some (.object "java/lang/String")⟩ := by decide +kernel
theorem pd__II_I : parseMethodDescriptor "(II)I" = some ⟨[.int, .int], some .int⟩ := by decide +kernel
theorem ef_0 (m : MethodId) (p0 : Int32) (p1 : Int32) (p2 : Int32) (p3 : Int32) : entryFrame m #[(.int p0), (.int p1), (.int p2), (.int p3)] maxLocals = (mkF m 0 #[.val (.int p0), .val (.int p1), .val (.int p2), .val (.int p3), .unset, .unset, .unset, .unset, .unset, .unset, .unset, .unset, .unset, .unset, .unset, .unset, .unset, .unset, .unset, .unset, .unset, .unset, .unset, .unset, .unset, .unset, .unset, .unset, .unset, .unset, .unset, .unset, .unset] []) := by first | (simp [entryFrame, mkF, argsToLocals, Value.category, maxLocals]; done) | rfl
def Q0 (Z : State) (p0 : Int32) (p1 : Int32) (p2 : Int32) (p3 : Int32) (G1 : Int32) (fm : Value) (h0 : Heap) (n0 : Nat) (v : Option Value) (h : Heap) (L : List Loc) : Prop := v = some (.int (1 : Int32)) ∧ Fr n0 L
set_option maxRecDepth 65536 in
set_option maxHeartbeats 40000000 in
theorem rm0 (l : Launch) (Z : State) (a0 : Array Value) (hw : ∀ d ∈ tables_1, d.before a0 Z = true) (ws : List Jvm.Cond) (p0 : Int32) (p1 : Int32) (p2 : Int32) (p3 : Int32) (G1 : Int32) (fm : Value) (h0 : Heap) (n0 : Nat) (Z0 : n0 ≤ h0.size) (OLD0 : Old Z n0 h0) (SCS : Sta Z Z.heap "java/lang/String" "COMPACT_STRINGS" "Z" (.int G1)) (P5 : ¬ (G1 = (0 : Int32))) (SSI : Sta Z Z.heap "jdk/internal/util/Preconditions" "SIOOBE_FORMATTER" "Ljava/util/function/BiFunction;" fm) (rfm : fm.isRef = true) (hzh : Z.heap = h0) (HC13 : Jvm.Lit.constHeld Z "com/example/reed/reed/engine/IntegralityIsIntegerPinLaw" 13) (HC15 : Jvm.Lit.constHeld Z "com/example/reed/reed/engine/IntegralityIsIntegerPinLaw" 15) (HCW : Jvm.Lit.compactW.before a0 Z = true) :
    MetFree l x (head1 (Jvm.Cond.code x code maxLocals ret :: ws) room_1) (fun a U => a = #[(.int p0), (.int p1), (.int p2), (.int p3)] ∧ Z.Warmed39 U.vm ∧ U.heap = h0 ∧ U.vm = Z.vm) (fun _ _ _ _ _ => True) (fun _ U o U' => ∃ v L, o = .returned v ∧ Q0 Z p0 p1 p2 p3 G1 fm h0 n0 v U'.heap L ∧ ReturnedEndW U o U' L 40 2240) := by
  refine MetFree.of_bodySF (plainFor_of_name pn_0) hisR ?_
  intro p e s m args below meth c s₁ Bd hml0 hP hK
  obtain ⟨rfl, hZ, hh, hvm⟩ := hP
  have hx := Bd.exec
  have hby := Bd.bytes
  have hml : c.maxLocals = 33 := hml0
  have hown : s.vm.findClass "com/example/reed/reed/engine/IntegralityIsIntegerPinLaw" = some m.cls := findClass_of_methodNamed Bd.named
  have hnm := (name_of_methodNamed Bd.named Bd.method).1
  have X0 : Stand p l e room_1 s m #[(.int p0), (.int p1), (.int p2), (.int p3)] below meth c s₁ [] 0 0 := Stand.of_body Bd
  have e0 : s₁.heap = h0 := by rw [← hh, Bd.state]; rfl
  have N0 := Fr.nil n0
  have K0 := Keep.refl h0 ([] : List Addr)
  have pre0 : ∀ t, Steps p.tables e below (s₁.setTop (mkF m 0 #[.val (.int p0), .val (.int p1), .val (.int p2), .val (.int p3), .unset, .unset, .unset, .unset, .unset, .unset, .unset, .unset, .unset, .unset, .unset, .unset, .unset, .unset, .unset, .unset, .unset, .unset, .unset, .unset, .unset, .unset, .unset, .unset, .unset, .unset, .unset, .unset, .unset] [])) t → Steps p.tables e below (s₁.setTop (entryFrame m #[(.int p0), (.int p1), (.int p2), (.int p3)] maxLocals)) t := fun t k => castTop (ef_0 m p0 p1 p2 p3) k
  have hn0 : s.heap.size = n0 := by rw [hh, ← hzh]; exact OLD0.1
  have hkp : ∀ (b : Addr) (cl : Cell), Z.heap[b]? = some cl → s.heap[b]? = some cl := fun b cl q => by rw [hh, ← hzh]; exact q
  have I0 : IB Z s.vm [] := by rw [hvm]; exact IB.start
  have hS0 : s.Since s.vm s.heap.size := (State.WarmedH.refl s).since _
  have wS : ∀ a ∈ Bundle.stringAtoms, a.before a0 Z = true := fun d hd => hw d ((by decide +kernel : ∀ d ∈ Bundle.stringAtoms, d ∈ tables_1) d hd)
  obtain ⟨il1, hil1⟩ : ∃ z, z = ((1 : Int32) + ((p3 &&& (3 : Int32)) - (p3 &&& (3 : Int32)) / (3 : Int32) * (3 : Int32))) := ⟨_, rfl⟩
  have pre2 : ∀ t, Steps p.tables e below (s₁.setTop (mkF m 7 #[.val (.int p0), .val (.int p1), .val (.int p2), .val (.int p3), .unset, .unset, .unset, .unset, .unset, .unset, .unset, .unset, .unset, .unset, .unset, .unset, .unset, .unset, .unset, .unset, .unset, .unset, .unset, .unset, .unset, .unset, .unset, .unset, .unset, .unset, .unset, .unset, .unset] [(.int il1)])) t → Steps p.tables e below (s₁.setTop (entryFrame m #[(.int p0), (.int p1), (.int p2), (.int p3)] maxLocals)) t := by
    intro t kt
    rw [hil1] at kt
    refine pre0 _ ?_
    show Steps p.tables e below (s₁.setTop (mkF m 0 #[.val (.int p0), .val (.int p1), .val (.int p2), .val (.int p3), .unset, .unset, .unset, .unset, .unset, .unset, .unset, .unset, .unset, .unset, .unset, .unset, .unset, .unset, .unset, .unset, .unset, .unset, .unset, .unset, .unset, .unset, .unset, .unset, .unset, .unset, .unset, .unset, .unset] [])) _
    refine XS.iconst X0.here hx rfl (hb hby at_0) ?_
    refine XS.iloadN X0.here hx rfl (hb hby at_1) rfl ?_
    refine XS.iconst X0.here hx rfl (hb hby at_2) ?_
    show Steps p.tables e below (s₁.setTop (mkF m 3 #[.val (.int p0), .val (.int p1), .val (.int p2), .val (.int p3), .unset, .unset, .unset, .unset, .unset, .unset, .unset, .unset, .unset, .unset, .unset, .unset, .unset, .unset, .unset, .unset, .unset, .unset, .unset, .unset, .unset, .unset, .unset, .unset, .unset, .unset, .unset, .unset, .unset] [(.int (3 : Int32)), (.int p3), (.int (1 : Int32))])) _
    refine XS.iand X0.here hx rfl (hb hby at_3) rfl ?_
    refine XS.iconst X0.here hx rfl (hb hby at_4) ?_
    refine XS.irem X0.here hx rfl (hb hby at_5) rfl (by decide) ?_
    show Steps p.tables e below (s₁.setTop (mkF m 6 #[.val (.int p0), .val (.int p1), .val (.int p2), .val (.int p3), .unset, .unset, .unset, .unset, .unset, .unset, .unset, .unset, .unset, .unset, .unset, .unset, .unset, .unset, .unset, .unset, .unset, .unset, .unset, .unset, .unset, .unset, .unset, .unset, .unset, .unset, .unset, .unset, .unset] [(.int ((p3 &&& (3 : Int32)) - (p3 &&& (3 : Int32)) / (3 : Int32) * (3 : Int32))), (.int (1 : Int32))])) _
    refine XS.iadd X0.here hx rfl (hb hby at_6) rfl ?_
    show Steps p.tables e below (s₁.setTop (mkF m 7 #[.val (.int p0), .val (.int p1), .val (.int p2), .val (.int p3), .unset, .unset, .unset, .unset, .unset, .unset, .unset, .unset, .unset, .unset, .unset, .unset, .unset, .unset, .unset, .unset, .unset, .unset, .unset, .unset, .unset, .unset, .unset, .unset, .unset, .unset, .unset, .unset, .unset] [(.int ((1 : Int32) + ((p3 &&& (3 : Int32)) - (p3 &&& (3 : Int32)) / (3 : Int32) * (3 : Int32))))])) _
    exact kt
  obtain ⟨fl3, hfl3⟩ : ∃ z, z = (((p3.toUInt32 >>> ((2 : Int32) &&& 31).toUInt32).toInt32) &&& (3 : Int32)) := ⟨_, rfl⟩
  have pre4 : ∀ t, Steps p.tables e below (s₁.setTop (mkF m 14 #[.val (.int p0), .val (.int p1), .val (.int p2), .val (.int p3), .val (.int il1), .unset, .unset, .unset, .unset, .unset, .unset, .unset, .unset, .unset, .unset, .unset, .unset, .unset, .unset, .unset, .unset, .unset, .unset, .unset, .unset, .unset, .unset, .unset, .unset, .unset, .unset, .unset, .unset] [(.int fl3)])) t → Steps p.tables e below (s₁.setTop (entryFrame m #[(.int p0), (.int p1), (.int p2), (.int p3)] maxLocals)) t := by
    intro t kt
    rw [hfl3] at kt
    refine pre2 _ ?_
    show Steps p.tables e below (s₁.setTop (mkF m 7 #[.val (.int p0), .val (.int p1), .val (.int p2), .val (.int p3), .unset, .unset, .unset, .unset, .unset, .unset, .unset, .unset, .unset, .unset, .unset, .unset, .unset, .unset, .unset, .unset, .unset, .unset, .unset, .unset, .unset, .unset, .unset, .unset, .unset, .unset, .unset, .unset, .unset] [(.int il1)])) _
    refine XS.istore X0.here hx rfl (hb hby at_7) rfl (l' := #[.val (.int p0), .val (.int p1), .val (.int p2), .val (.int p3), .val (.int il1), .unset, .unset, .unset, .unset, .unset, .unset, .unset, .unset, .unset, .unset, .unset, .unset, .unset, .unset, .unset, .unset, .unset, .unset, .unset, .unset, .unset, .unset, .unset, .unset, .unset, .unset, .unset, .unset]) rfl ?_
    refine XS.iloadN X0.here hx rfl (hb hby at_9) rfl ?_
    refine XS.iconst X0.here hx rfl (hb hby at_10) ?_
    show Steps p.tables e below (s₁.setTop (mkF m 11 #[.val (.int p0), .val (.int p1), .val (.int p2), .val (.int p3), .val (.int il1), .unset, .unset, .unset, .unset, .unset, .unset, .unset, .unset, .unset, .unset, .unset, .unset, .unset, .unset, .unset, .unset, .unset, .unset, .unset, .unset, .unset, .unset, .unset, .unset, .unset, .unset, .unset, .unset] [(.int (2 : Int32)), (.int p3)])) _
    refine XS.iushr X0.here hx rfl (hb hby at_11) rfl ?_
    refine XS.iconst X0.here hx rfl (hb hby at_12) ?_
    refine XS.iand X0.here hx rfl (hb hby at_13) rfl ?_
    show Steps p.tables e below (s₁.setTop (mkF m 14 #[.val (.int p0), .val (.int p1), .val (.int p2), .val (.int p3), .val (.int il1), .unset, .unset, .unset, .unset, .unset, .unset, .unset, .unset, .unset, .unset, .unset, .unset, .unset, .unset, .unset, .unset, .unset, .unset, .unset, .unset, .unset, .unset, .unset, .unset, .unset, .unset, .unset, .unset] [(.int (((p3.toUInt32 >>> ((2 : Int32) &&& 31).toUInt32).toInt32) &&& (3 : Int32)))])) _
    exact kt
  obtain ⟨el5, hel5⟩ : ∃ z, z = ((((p3.toUInt32 >>> ((4 : Int32) &&& 31).toUInt32).toInt32) &&& (3 : Int32)) - (((p3.toUInt32 >>> ((4 : Int32) &&& 31).toUInt32).toInt32) &&& (3 : Int32)) / (3 : Int32) * (3 : Int32)) := ⟨_, rfl⟩
  have pre6 : ∀ t, Steps p.tables e below (s₁.setTop (mkF m 23 #[.val (.int p0), .val (.int p1), .val (.int p2), .val (.int p3), .val (.int il1), .val (.int fl3), .unset, .unset, .unset, .unset, .unset, .unset, .unset, .unset, .unset, .unset, .unset, .unset, .unset, .unset, .unset, .unset, .unset, .unset, .unset, .unset, .unset, .unset, .unset, .unset, .unset, .unset, .unset] [(.int el5)])) t → Steps p.tables e below (s₁.setTop (entryFrame m #[(.int p0), (.int p1), (.int p2), (.int p3)] maxLocals)) t := by
    intro t kt
    rw [hel5] at kt
    refine pre4 _ ?_
    show Steps p.tables e below (s₁.setTop (mkF m 14 #[.val (.int p0), .val (.int p1), .val (.int p2), .val (.int p3), .val (.int il1), .unset, .unset, .unset, .unset, .unset, .unset, .unset, .unset, .unset, .unset, .unset, .unset, .unset, .unset, .unset, .unset, .unset, .unset, .unset, .unset, .unset, .unset, .unset, .unset, .unset, .unset, .unset, .unset] [(.int fl3)])) _
    refine XS.istore X0.here hx rfl (hb hby at_14) rfl (l' := #[.val (.int p0), .val (.int p1), .val (.int p2), .val (.int p3), .val (.int il1), .val (.int fl3), .unset, .unset, .unset, .unset, .unset, .unset, .unset, .unset, .unset, .unset, .unset, .unset, .unset, .unset, .unset, .unset, .unset, .unset, .unset, .unset, .unset, .unset, .unset, .unset, .unset, .unset, .unset]) rfl ?_
    refine XS.iloadN X0.here hx rfl (hb hby at_16) rfl ?_
    refine XS.iconst X0.here hx rfl (hb hby at_17) ?_
    show Steps p.tables e below (s₁.setTop (mkF m 18 #[.val (.int p0), .val (.int p1), .val (.int p2), .val (.int p3), .val (.int il1), .val (.int fl3), .unset, .unset, .unset, .unset, .unset, .unset, .unset, .unset, .unset, .unset, .unset, .unset, .unset, .unset, .unset, .unset, .unset, .unset, .unset, .unset, .unset, .unset, .unset, .unset, .unset, .unset, .unset] [(.int (4 : Int32)), (.int p3)])) _
    refine XS.iushr X0.here hx rfl (hb hby at_18) rfl ?_
    refine XS.iconst X0.here hx rfl (hb hby at_19) ?_
    refine XS.iand X0.here hx rfl (hb hby at_20) rfl ?_
    show Steps p.tables e below (s₁.setTop (mkF m 21 #[.val (.int p0), .val (.int p1), .val (.int p2), .val (.int p3), .val (.int il1), .val (.int fl3), .unset, .unset, .unset, .unset, .unset, .unset, .unset, .unset, .unset, .unset, .unset, .unset, .unset, .unset, .unset, .unset, .unset, .unset, .unset, .unset, .unset, .unset, .unset, .unset, .unset, .unset, .unset] [(.int (((p3.toUInt32 >>> ((4 : Int32) &&& 31).toUInt32).toInt32) &&& (3 : Int32)))])) _
    refine XS.iconst X0.here hx rfl (hb hby at_21) ?_
    refine XS.irem X0.here hx rfl (hb hby at_22) rfl (by decide) ?_
    show Steps p.tables e below (s₁.setTop (mkF m 23 #[.val (.int p0), .val (.int p1), .val (.int p2), .val (.int p3), .val (.int il1), .val (.int fl3), .unset, .unset, .unset, .unset, .unset, .unset, .unset, .unset, .unset, .unset, .unset, .unset, .unset, .unset, .unset, .unset, .unset, .unset, .unset, .unset, .unset, .unset, .unset, .unset, .unset, .unset, .unset] [(.int ((((p3.toUInt32 >>> ((4 : Int32) &&& 31).toUInt32).toInt32) &&& (3 : Int32)) - (((p3.toUInt32 >>> ((4 : Int32) &&& 31).toUInt32).toInt32) &&& (3 : Int32)) / (3 : Int32) * (3 : Int32)))])) _
    exact kt
  obtain ⟨es7, hes7⟩ : ∃ z, z = ((((p3.toUInt32 >>> ((6 : Int32) &&& 31).toUInt32).toInt32) &&& (3 : Int32)) - (((p3.toUInt32 >>> ((6 : Int32) &&& 31).toUInt32).toInt32) &&& (3 : Int32)) / (3 : Int32) * (3 : Int32)) := ⟨_, rfl⟩
  have pre8 : ∀ t, Steps p.tables e below (s₁.setTop (mkF m 33 #[.val (.int p0), .val (.int p1), .val (.int p2), .val (.int p3), .val (.int il1), .val (.int fl3), .val (.int el5), .unset, .unset, .unset, .unset, .unset, .unset, .unset, .unset, .unset, .unset, .unset, .unset, .unset, .unset, .unset, .unset, .unset, .unset, .unset, .unset, .unset, .unset, .unset, .unset, .unset, .unset] [(.int es7)])) t → Steps p.tables e below (s₁.setTop (entryFrame m #[(.int p0), (.int p1), (.int p2), (.int p3)] maxLocals)) t := by
    intro t kt
    rw [hes7] at kt
    refine pre6 _ ?_
    show Steps p.tables e below (s₁.setTop (mkF m 23 #[.val (.int p0), .val (.int p1), .val (.int p2), .val (.int p3), .val (.int il1), .val (.int fl3), .unset, .unset, .unset, .unset, .unset, .unset, .unset, .unset, .unset, .unset, .unset, .unset, .unset, .unset, .unset, .unset, .unset, .unset, .unset, .unset, .unset, .unset, .unset, .unset, .unset, .unset, .unset] [(.int el5)])) _
    refine XS.istore X0.here hx rfl (hb hby at_23) rfl (l' := #[.val (.int p0), .val (.int p1), .val (.int p2), .val (.int p3), .val (.int il1), .val (.int fl3), .val (.int el5), .unset, .unset, .unset, .unset, .unset, .unset, .unset, .unset, .unset, .unset, .unset, .unset, .unset, .unset, .unset, .unset, .unset, .unset, .unset, .unset, .unset, .unset, .unset, .unset, .unset, .unset]) rfl ?_
    refine XS.iloadN X0.here hx rfl (hb hby at_25) rfl ?_
    refine XS.bipush X0.here hx rfl (hb hby at_26) ?_
    show Steps p.tables e below (s₁.setTop (mkF m 28 #[.val (.int p0), .val (.int p1), .val (.int p2), .val (.int p3), .val (.int il1), .val (.int fl3), .val (.int el5), .unset, .unset, .unset, .unset, .unset, .unset, .unset, .unset, .unset, .unset, .unset, .unset, .unset, .unset, .unset, .unset, .unset, .unset, .unset, .unset, .unset, .unset, .unset, .unset, .unset, .unset] [(.int (6 : Int32)), (.int p3)])) _
    refine XS.iushr X0.here hx rfl (hb hby at_28) rfl ?_
    refine XS.iconst X0.here hx rfl (hb hby at_29) ?_
    refine XS.iand X0.here hx rfl (hb hby at_30) rfl ?_
    show Steps p.tables e below (s₁.setTop (mkF m 31 #[.val (.int p0), .val (.int p1), .val (.int p2), .val (.int p3), .val (.int il1), .val (.int fl3), .val (.int el5), .unset, .unset, .unset, .unset, .unset, .unset, .unset, .unset, .unset, .unset, .unset, .unset, .unset, .unset, .unset, .unset, .unset, .unset, .unset, .unset, .unset, .unset, .unset, .unset, .unset, .unset] [(.int (((p3.toUInt32 >>> ((6 : Int32) &&& 31).toUInt32).toInt32) &&& (3 : Int32)))])) _
    refine XS.iconst X0.here hx rfl (hb hby at_31) ?_
    refine XS.irem X0.here hx rfl (hb hby at_32) rfl (by decide) ?_
    show Steps p.tables e below (s₁.setTop (mkF m 33 #[.val (.int p0), .val (.int p1), .val (.int p2), .val (.int p3), .val (.int il1), .val (.int fl3), .val (.int el5), .unset, .unset, .unset, .unset, .unset, .unset, .unset, .unset, .unset, .unset, .unset, .unset, .unset, .unset, .unset, .unset, .unset, .unset, .unset, .unset, .unset, .unset, .unset, .unset, .unset, .unset] [(.int ((((p3.toUInt32 >>> ((6 : Int32) &&& 31).toUInt32).toInt32) &&& (3 : Int32)) - (((p3.toUInt32 >>> ((6 : Int32) &&& 31).toUInt32).toInt32) &&& (3 : Int32)) / (3 : Int32) * (3 : Int32)))])) _
    exact kt
  obtain ⟨v10, hv10⟩ : ∃ z : Int32, z = if (((p3.toUInt32 >>> ((8 : Int32) &&& 31).toUInt32).toInt32) &&& (1 : Int32)) = (0 : Int32) then (0 : Int32) else (1 : Int32) := ⟨_, rfl⟩
  have mg11 : ∀ t, Steps p.tables e below (s₁.setTop (mkF m 49 #[.val (.int p0), .val (.int p1), .val (.int p2), .val (.int p3), .val (.int il1), .val (.int fl3), .val (.int el5), .val (.int es7), .unset, .unset, .unset, .unset, .unset, .unset, .unset, .unset, .unset, .unset, .unset, .unset, .unset, .unset, .unset, .unset, .unset, .unset, .unset, .unset, .unset, .unset, .unset, .unset, .unset] [(.int v10)])) t → Steps p.tables e below (s₁.setTop (mkF m 41 #[.val (.int p0), .val (.int p1), .val (.int p2), .val (.int p3), .val (.int il1), .val (.int fl3), .val (.int el5), .val (.int es7), .unset, .unset, .unset, .unset, .unset, .unset, .unset, .unset, .unset, .unset, .unset, .unset, .unset, .unset, .unset, .unset, .unset, .unset, .unset, .unset, .unset, .unset, .unset, .unset, .unset] [(.int (((p3.toUInt32 >>> ((8 : Int32) &&& 31).toUInt32).toInt32) &&& (1 : Int32)))])) t := by
    intro t kt
    by_cases hm9 : (((p3.toUInt32 >>> ((8 : Int32) &&& 31).toUInt32).toInt32) &&& (1 : Int32)) = (0 : Int32)
    ·
      have ev10 : v10 = (0 : Int32) := by rw [hv10, if_pos hm9]
      rw [ev10] at kt
      refine (fun t (k : Steps p.tables e below (s₁.setTop (mkF m 41 #[.val (.int p0), .val (.int p1), .val (.int p2), .val (.int p3), .val (.int il1), .val (.int fl3), .val (.int el5), .val (.int es7), .unset, .unset, .unset, .unset, .unset, .unset, .unset, .unset, .unset, .unset, .unset, .unset, .unset, .unset, .unset, .unset, .unset, .unset, .unset, .unset, .unset, .unset, .unset, .unset, .unset] [(.int (((p3.toUInt32 >>> ((8 : Int32) &&& 31).toUInt32).toInt32) &&& (1 : Int32)))])) t) => k) _ ?_
      refine XS.ifYes X0.here hx rfl (pc0 := 41) (pc' := 48) rfl (hb hby at_41) rfl ((if0 _ _).trans (teq hm9).1) (by decide) (by decide) ?_
      refine XS.iconst X0.here hx rfl (hb hby at_48) ?_
      show Steps p.tables e below (s₁.setTop (mkF m 49 #[.val (.int p0), .val (.int p1), .val (.int p2), .val (.int p3), .val (.int il1), .val (.int fl3), .val (.int el5), .val (.int es7), .unset, .unset, .unset, .unset, .unset, .unset, .unset, .unset, .unset, .unset, .unset, .unset, .unset, .unset, .unset, .unset, .unset, .unset, .unset, .unset, .unset, .unset, .unset, .unset, .unset] [(.int (0 : Int32))])) _
      exact kt
    ·
      have ev10 : v10 = (1 : Int32) := by rw [hv10, if_neg hm9]
      rw [ev10] at kt
      refine (fun t (k : Steps p.tables e below (s₁.setTop (mkF m 41 #[.val (.int p0), .val (.int p1), .val (.int p2), .val (.int p3), .val (.int il1), .val (.int fl3), .val (.int el5), .val (.int es7), .unset, .unset, .unset, .unset, .unset, .unset, .unset, .unset, .unset, .unset, .unset, .unset, .unset, .unset, .unset, .unset, .unset, .unset, .unset, .unset, .unset, .unset, .unset, .unset, .unset] [(.int (((p3.toUInt32 >>> ((8 : Int32) &&& 31).toUInt32).toInt32) &&& (1 : Int32)))])) t) => k) _ ?_
      refine XS.ifNo X0.here hx rfl (hb hby at_41) rfl ((if0 _ _).trans (feq hm9).1) ?_
      refine XS.iconst X0.here hx rfl (hb hby at_44) ?_
      refine XS.goto X0.here hx rfl (pc0 := 45) (pc' := 49) rfl (hb hby at_45) (by decide) (by decide) ?_
      show Steps p.tables e below (s₁.setTop (mkF m 49 #[.val (.int p0), .val (.int p1), .val (.int p2), .val (.int p3), .val (.int il1), .val (.int fl3), .val (.int el5), .val (.int es7), .unset, .unset, .unset, .unset, .unset, .unset, .unset, .unset, .unset, .unset, .unset, .unset, .unset, .unset, .unset, .unset, .unset, .unset, .unset, .unset, .unset, .unset, .unset, .unset, .unset] [(.int (1 : Int32))])) _
      exact kt
  obtain ⟨v13, hv13⟩ : ∃ z : Int32, z = if (((p3.toUInt32 >>> ((9 : Int32) &&& 31).toUInt32).toInt32) &&& (1 : Int32)) = (0 : Int32) then (0 : Int32) else (1 : Int32) := ⟨_, rfl⟩
  have mg14 : ∀ t, Steps p.tables e below (s₁.setTop (mkF m 65 #[.val (.int p0), .val (.int p1), .val (.int p2), .val (.int p3), .val (.int il1), .val (.int fl3), .val (.int el5), .val (.int es7), .val (.int v10), .unset, .unset, .unset, .unset, .unset, .unset, .unset, .unset, .unset, .unset, .unset, .unset, .unset, .unset, .unset, .unset, .unset, .unset, .unset, .unset, .unset, .unset, .unset, .unset] [(.int v13)])) t → Steps p.tables e below (s₁.setTop (mkF m 57 #[.val (.int p0), .val (.int p1), .val (.int p2), .val (.int p3), .val (.int il1), .val (.int fl3), .val (.int el5), .val (.int es7), .val (.int v10), .unset, .unset, .unset, .unset, .unset, .unset, .unset, .unset, .unset, .unset, .unset, .unset, .unset, .unset, .unset, .unset, .unset, .unset, .unset, .unset, .unset, .unset, .unset, .unset] [(.int (((p3.toUInt32 >>> ((9 : Int32) &&& 31).toUInt32).toInt32) &&& (1 : Int32)))])) t := by
    intro t kt
    by_cases hm12 : (((p3.toUInt32 >>> ((9 : Int32) &&& 31).toUInt32).toInt32) &&& (1 : Int32)) = (0 : Int32)
    ·
      have ev13 : v13 = (0 : Int32) := by rw [hv13, if_pos hm12]
      rw [ev13] at kt
      refine (fun t (k : Steps p.tables e below (s₁.setTop (mkF m 57 #[.val (.int p0), .val (.int p1), .val (.int p2), .val (.int p3), .val (.int il1), .val (.int fl3), .val (.int el5), .val (.int es7), .val (.int v10), .unset, .unset, .unset, .unset, .unset, .unset, .unset, .unset, .unset, .unset, .unset, .unset, .unset, .unset, .unset, .unset, .unset, .unset, .unset, .unset, .unset, .unset, .unset, .unset] [(.int (((p3.toUInt32 >>> ((9 : Int32) &&& 31).toUInt32).toInt32) &&& (1 : Int32)))])) t) => k) _ ?_
      refine XS.ifYes X0.here hx rfl (pc0 := 57) (pc' := 64) rfl (hb hby at_57) rfl ((if0 _ _).trans (teq hm12).1) (by decide) (by decide) ?_
      refine XS.iconst X0.here hx rfl (hb hby at_64) ?_
      show Steps p.tables e below (s₁.setTop (mkF m 65 #[.val (.int p0), .val (.int p1), .val (.int p2), .val (.int p3), .val (.int il1), .val (.int fl3), .val (.int el5), .val (.int es7), .val (.int v10), .unset, .unset, .unset, .unset, .unset, .unset, .unset, .unset, .unset, .unset, .unset, .unset, .unset, .unset, .unset, .unset, .unset, .unset, .unset, .unset, .unset, .unset, .unset, .unset] [(.int (0 : Int32))])) _
      exact kt
    ·
      have ev13 : v13 = (1 : Int32) := by rw [hv13, if_neg hm12]
      rw [ev13] at kt
      refine (fun t (k : Steps p.tables e below (s₁.setTop (mkF m 57 #[.val (.int p0), .val (.int p1), .val (.int p2), .val (.int p3), .val (.int il1), .val (.int fl3), .val (.int el5), .val (.int es7), .val (.int v10), .unset, .unset, .unset, .unset, .unset, .unset, .unset, .unset, .unset, .unset, .unset, .unset, .unset, .unset, .unset, .unset, .unset, .unset, .unset, .unset, .unset, .unset, .unset, .unset] [(.int (((p3.toUInt32 >>> ((9 : Int32) &&& 31).toUInt32).toInt32) &&& (1 : Int32)))])) t) => k) _ ?_
      refine XS.ifNo X0.here hx rfl (hb hby at_57) rfl ((if0 _ _).trans (feq hm12).1) ?_
      refine XS.iconst X0.here hx rfl (hb hby at_60) ?_
      refine XS.goto X0.here hx rfl (pc0 := 61) (pc' := 65) rfl (hb hby at_61) (by decide) (by decide) ?_
      show Steps p.tables e below (s₁.setTop (mkF m 65 #[.val (.int p0), .val (.int p1), .val (.int p2), .val (.int p3), .val (.int il1), .val (.int fl3), .val (.int el5), .val (.int es7), .val (.int v10), .unset, .unset, .unset, .unset, .unset, .unset, .unset, .unset, .unset, .unset, .unset, .unset, .unset, .unset, .unset, .unset, .unset, .unset, .unset, .unset, .unset, .unset, .unset, .unset] [(.int (1 : Int32))])) _
      exact kt
  obtain ⟨_, _, ⟨T15, L15, k15, n15⟩, -, X15, ⟨Lc15, hQ15, l15, y15, z15⟩, st15⟩ := Jvm.LawKit.callS X0 hx (y := (⟨"com/example/reed/reed/engine/IntegralityIsIntegerPinLaw", "digit", "(II)I"⟩ : MethodName)) hown (mvT hZ (hw _ (List.mem_of_getElem? (i := 0) rfl))) (mvT hZ (hw _ (List.mem_of_getElem? (i := 1) rfl))) (mvT hZ (hw _ (List.mem_of_getElem? (i := 2) rfl))) (mvT hZ (hw _ (List.mem_of_getElem? (i := 3) rfl))) (by decide) (backOf (W := 0) (rm1 l Z a0 hw [] p0 (0 : Int32) h0 n0 (Nat.le_trans Z0 K0.1)) hZ (hw _ (List.mem_of_getElem? (i := 3) rfl)) (hw _ (List.mem_of_getElem? (i := 2) rfl)) (by decide) (by decide)) (g := (mkF m 69 #[.val (.int p0), .val (.int p1), .val (.int p2), .val (.int p3), .val (.int il1), .val (.int fl3), .val (.int el5), .val (.int es7), .val (.int v10), .val (.int v13), .unset, .unset, .unset, .unset, .unset, .unset, .unset, .unset, .unset, .unset, .unset, .unset, .unset, .unset, .unset, .unset, .unset, .unset, .unset, .unset, .unset, .unset, .unset] [(.int (0 : Int32)), (.int p0)])) rfl (by rw [hml]; rfl) (argsL := [(.int p0), (.int (0 : Int32))]) (rest := []) (lenOf pd__II_I rfl) rfl (by show 2 * 0 + _ ≤ _; exact Nat.le_of_eq rfl) (hb hby at_69) (fun _ _ => ⟨rfl, e0, (by decide : 0 + 0 ≤ _), (by decide : 0 + 0 ≤ _)⟩)
  dsimp only [Pt.U, Pt.locs, Pt.cells, Pt.slots] at X15 l15 y15 z15 st15 hQ15
  subst l15 y15 z15
  obtain ⟨rfl, N15q, hq15⟩ := hQ15
  have N15 := Fr.app N0 N15q
  have E15 : Ext h0 T15.heap := by rw [hq15]; exact ⟨Nat.le_refl _, fun _ _ q => q⟩
  have K15 := K0.ext E15
  obtain ⟨d16, hd16⟩ : ∃ z, z = (own_dg p0 (0 : Int32)) := ⟨_, rfl⟩
  have pre17 : ∀ t, Steps p.tables e below (T15.setTop (mkF m 72 #[.val (.int p0), .val (.int p1), .val (.int p2), .val (.int p3), .val (.int il1), .val (.int fl3), .val (.int el5), .val (.int es7), .val (.int v10), .val (.int v13), .unset, .unset, .unset, .unset, .unset, .unset, .unset, .unset, .unset, .unset, .unset, .unset, .unset, .unset, .unset, .unset, .unset, .unset, .unset, .unset, .unset, .unset, .unset] [(.int d16)])) t → Steps p.tables e below (s₁.setTop (entryFrame m #[(.int p0), (.int p1), (.int p2), (.int p3)] maxLocals)) t := by
    intro t kt
    rw [hd16] at kt
    refine pre8 _ ?_
    show Steps p.tables e below (s₁.setTop (mkF m 33 #[.val (.int p0), .val (.int p1), .val (.int p2), .val (.int p3), .val (.int il1), .val (.int fl3), .val (.int el5), .unset, .unset, .unset, .unset, .unset, .unset, .unset, .unset, .unset, .unset, .unset, .unset, .unset, .unset, .unset, .unset, .unset, .unset, .unset, .unset, .unset, .unset, .unset, .unset, .unset, .unset] [(.int es7)])) _
    refine XS.istore X0.here hx rfl (hb hby at_33) rfl (l' := #[.val (.int p0), .val (.int p1), .val (.int p2), .val (.int p3), .val (.int il1), .val (.int fl3), .val (.int el5), .val (.int es7), .unset, .unset, .unset, .unset, .unset, .unset, .unset, .unset, .unset, .unset, .unset, .unset, .unset, .unset, .unset, .unset, .unset, .unset, .unset, .unset, .unset, .unset, .unset, .unset, .unset]) rfl ?_
    refine XS.iloadN X0.here hx rfl (hb hby at_35) rfl ?_
    refine XS.bipush X0.here hx rfl (hb hby at_36) ?_
    show Steps p.tables e below (s₁.setTop (mkF m 38 #[.val (.int p0), .val (.int p1), .val (.int p2), .val (.int p3), .val (.int il1), .val (.int fl3), .val (.int el5), .val (.int es7), .unset, .unset, .unset, .unset, .unset, .unset, .unset, .unset, .unset, .unset, .unset, .unset, .unset, .unset, .unset, .unset, .unset, .unset, .unset, .unset, .unset, .unset, .unset, .unset, .unset] [(.int (8 : Int32)), (.int p3)])) _
    refine XS.iushr X0.here hx rfl (hb hby at_38) rfl ?_
    refine XS.iconst X0.here hx rfl (hb hby at_39) ?_
    refine XS.iand X0.here hx rfl (hb hby at_40) rfl ?_
    show Steps p.tables e below (s₁.setTop (mkF m 41 #[.val (.int p0), .val (.int p1), .val (.int p2), .val (.int p3), .val (.int il1), .val (.int fl3), .val (.int el5), .val (.int es7), .unset, .unset, .unset, .unset, .unset, .unset, .unset, .unset, .unset, .unset, .unset, .unset, .unset, .unset, .unset, .unset, .unset, .unset, .unset, .unset, .unset, .unset, .unset, .unset, .unset] [(.int (((p3.toUInt32 >>> ((8 : Int32) &&& 31).toUInt32).toInt32) &&& (1 : Int32)))])) _
    refine mg11 _ ?_
    show Steps p.tables e below (s₁.setTop (mkF m 49 #[.val (.int p0), .val (.int p1), .val (.int p2), .val (.int p3), .val (.int il1), .val (.int fl3), .val (.int el5), .val (.int es7), .unset, .unset, .unset, .unset, .unset, .unset, .unset, .unset, .unset, .unset, .unset, .unset, .unset, .unset, .unset, .unset, .unset, .unset, .unset, .unset, .unset, .unset, .unset, .unset, .unset] [(.int v10)])) _
    refine XS.istore X0.here hx rfl (hb hby at_49) rfl (l' := #[.val (.int p0), .val (.int p1), .val (.int p2), .val (.int p3), .val (.int il1), .val (.int fl3), .val (.int el5), .val (.int es7), .val (.int v10), .unset, .unset, .unset, .unset, .unset, .unset, .unset, .unset, .unset, .unset, .unset, .unset, .unset, .unset, .unset, .unset, .unset, .unset, .unset, .unset, .unset, .unset, .unset, .unset]) rfl ?_
    refine XS.iloadN X0.here hx rfl (hb hby at_51) rfl ?_
    refine XS.bipush X0.here hx rfl (hb hby at_52) ?_
    show Steps p.tables e below (s₁.setTop (mkF m 54 #[.val (.int p0), .val (.int p1), .val (.int p2), .val (.int p3), .val (.int il1), .val (.int fl3), .val (.int el5), .val (.int es7), .val (.int v10), .unset, .unset, .unset, .unset, .unset, .unset, .unset, .unset, .unset, .unset, .unset, .unset, .unset, .unset, .unset, .unset, .unset, .unset, .unset, .unset, .unset, .unset, .unset, .unset] [(.int (9 : Int32)), (.int p3)])) _
    refine XS.iushr X0.here hx rfl (hb hby at_54) rfl ?_
    refine XS.iconst X0.here hx rfl (hb hby at_55) ?_
    refine XS.iand X0.here hx rfl (hb hby at_56) rfl ?_
    show Steps p.tables e below (s₁.setTop (mkF m 57 #[.val (.int p0), .val (.int p1), .val (.int p2), .val (.int p3), .val (.int il1), .val (.int fl3), .val (.int el5), .val (.int es7), .val (.int v10), .unset, .unset, .unset, .unset, .unset, .unset, .unset, .unset, .unset, .unset, .unset, .unset, .unset, .unset, .unset, .unset, .unset, .unset, .unset, .unset, .unset, .unset, .unset, .unset] [(.int (((p3.toUInt32 >>> ((9 : Int32) &&& 31).toUInt32).toInt32) &&& (1 : Int32)))])) _
    refine mg14 _ ?_
    show Steps p.tables e below (s₁.setTop (mkF m 65 #[.val (.int p0), .val (.int p1), .val (.int p2), .val (.int p3), .val (.int il1), .val (.int fl3), .val (.int el5), .val (.int es7), .val (.int v10), .unset, .unset, .unset, .unset, .unset, .unset, .unset, .unset, .unset, .unset, .unset, .unset, .unset, .unset, .unset, .unset, .unset, .unset, .unset, .unset, .unset, .unset, .unset, .unset] [(.int v13)])) _
    refine XS.istore X0.here hx rfl (hb hby at_65) rfl (l' := #[.val (.int p0), .val (.int p1), .val (.int p2), .val (.int p3), .val (.int il1), .val (.int fl3), .val (.int el5), .val (.int es7), .val (.int v10), .val (.int v13), .unset, .unset, .unset, .unset, .unset, .unset, .unset, .unset, .unset, .unset, .unset, .unset, .unset, .unset, .unset, .unset, .unset, .unset, .unset, .unset, .unset, .unset, .unset]) rfl ?_
    refine XS.iloadN X0.here hx rfl (hb hby at_67) rfl ?_
    refine XS.iconst X0.here hx rfl (hb hby at_68) ?_
    show Steps p.tables e below (s₁.setTop (mkF m 69 #[.val (.int p0), .val (.int p1), .val (.int p2), .val (.int p3), .val (.int il1), .val (.int fl3), .val (.int el5), .val (.int es7), .val (.int v10), .val (.int v13), .unset, .unset, .unset, .unset, .unset, .unset, .unset, .unset, .unset, .unset, .unset, .unset, .unset, .unset, .unset, .unset, .unset, .unset, .unset, .unset, .unset, .unset, .unset] [(.int (0 : Int32)), (.int p0)])) _
    refine st15 _ ?_
    show Steps p.tables e below (T15.setTop (mkF m 72 #[.val (.int p0), .val (.int p1), .val (.int p2), .val (.int p3), .val (.int il1), .val (.int fl3), .val (.int el5), .val (.int es7), .val (.int v10), .val (.int v13), .unset, .unset, .unset, .unset, .unset, .unset, .unset, .unset, .unset, .unset, .unset, .unset, .unset, .unset, .unset, .unset, .unset, .unset, .unset, .unset, .unset, .unset, .unset] [(.int (own_dg p0 (0 : Int32)))])) _
    exact kt
  obtain ⟨_, _, ⟨T18, L18, k18, n18⟩, -, X18, ⟨Lc18, hQ18, l18, y18, z18⟩, st18⟩ := Jvm.LawKit.callS X15 hx (y := (⟨"com/example/reed/reed/engine/IntegralityIsIntegerPinLaw", "digit", "(II)I"⟩ : MethodName)) hown (mvT hZ (hw _ (List.mem_of_getElem? (i := 0) rfl))) (mvT hZ (hw _ (List.mem_of_getElem? (i := 1) rfl))) (mvT hZ (hw _ (List.mem_of_getElem? (i := 2) rfl))) (mvT hZ (hw _ (List.mem_of_getElem? (i := 3) rfl))) (by decide) (backOf (W := 0) (rm1 l Z a0 hw [] p0 (4 : Int32) T15.heap n0 (Nat.le_trans Z0 K15.1)) hZ (hw _ (List.mem_of_getElem? (i := 3) rfl)) (hw _ (List.mem_of_getElem? (i := 2) rfl)) (by decide) (by decide)) (g := (mkF m 76 #[.val (.int p0), .val (.int p1), .val (.int p2), .val (.int p3), .val (.int il1), .val (.int fl3), .val (.int el5), .val (.int es7), .val (.int v10), .val (.int v13), .val (.int d16), .unset, .unset, .unset, .unset, .unset, .unset, .unset, .unset, .unset, .unset, .unset, .unset, .unset, .unset, .unset, .unset, .unset, .unset, .unset, .unset, .unset, .unset] [(.int (4 : Int32)), (.int p0)])) rfl (by rw [hml]; rfl) (argsL := [(.int p0), (.int (4 : Int32))]) (rest := []) (lenOf pd__II_I rfl) rfl (by show 2 * 0 + _ ≤ _; exact Nat.le_of_eq rfl) (hb hby at_76) (fun _ _ => ⟨rfl, rfl, (by decide : 0 + 0 ≤ _), (by decide : 0 + 0 ≤ _)⟩)
  dsimp only [Pt.U, Pt.locs, Pt.cells, Pt.slots] at X18 l18 y18 z18 st18 hQ18
  subst l18 y18 z18
  obtain ⟨rfl, N18q, hq18⟩ := hQ18
  have N18 := Fr.app N15 N18q
  have E18 : Ext T15.heap T18.heap := by rw [hq18]; exact ⟨Nat.le_refl _, fun _ _ q => q⟩
  have K18 := K15.ext E18
  obtain ⟨d19, hd19⟩ : ∃ z, z = (own_dg p0 (4 : Int32)) := ⟨_, rfl⟩
  have pre20 : ∀ t, Steps p.tables e below (T18.setTop (mkF m 79 #[.val (.int p0), .val (.int p1), .val (.int p2), .val (.int p3), .val (.int il1), .val (.int fl3), .val (.int el5), .val (.int es7), .val (.int v10), .val (.int v13), .val (.int d16), .unset, .unset, .unset, .unset, .unset, .unset, .unset, .unset, .unset, .unset, .unset, .unset, .unset, .unset, .unset, .unset, .unset, .unset, .unset, .unset, .unset, .unset] [(.int d19)])) t → Steps p.tables e below (s₁.setTop (entryFrame m #[(.int p0), (.int p1), (.int p2), (.int p3)] maxLocals)) t := by
    intro t kt
    rw [hd19] at kt
    refine pre17 _ ?_
    show Steps p.tables e below (T15.setTop (mkF m 72 #[.val (.int p0), .val (.int p1), .val (.int p2), .val (.int p3), .val (.int il1), .val (.int fl3), .val (.int el5), .val (.int es7), .val (.int v10), .val (.int v13), .unset, .unset, .unset, .unset, .unset, .unset, .unset, .unset, .unset, .unset, .unset, .unset, .unset, .unset, .unset, .unset, .unset, .unset, .unset, .unset, .unset, .unset, .unset] [(.int d16)])) _
    refine XS.istore X15.here hx rfl (hb hby at_72) rfl (l' := #[.val (.int p0), .val (.int p1), .val (.int p2), .val (.int p3), .val (.int il1), .val (.int fl3), .val (.int el5), .val (.int es7), .val (.int v10), .val (.int v13), .val (.int d16), .unset, .unset, .unset, .unset, .unset, .unset, .unset, .unset, .unset, .unset, .unset, .unset, .unset, .unset, .unset, .unset, .unset, .unset, .unset, .unset, .unset, .unset]) rfl ?_
    refine XS.iloadN X15.here hx rfl (hb hby at_74) rfl ?_
    refine XS.iconst X15.here hx rfl (hb hby at_75) ?_
    show Steps p.tables e below (T15.setTop (mkF m 76 #[.val (.int p0), .val (.int p1), .val (.int p2), .val (.int p3), .val (.int il1), .val (.int fl3), .val (.int el5), .val (.int es7), .val (.int v10), .val (.int v13), .val (.int d16), .unset, .unset, .unset, .unset, .unset, .unset, .unset, .unset, .unset, .unset, .unset, .unset, .unset, .unset, .unset, .unset, .unset, .unset, .unset, .unset, .unset, .unset] [(.int (4 : Int32)), (.int p0)])) _
    refine st18 _ ?_
    show Steps p.tables e below (T18.setTop (mkF m 79 #[.val (.int p0), .val (.int p1), .val (.int p2), .val (.int p3), .val (.int il1), .val (.int fl3), .val (.int el5), .val (.int es7), .val (.int v10), .val (.int v13), .val (.int d16), .unset, .unset, .unset, .unset, .unset, .unset, .unset, .unset, .unset, .unset, .unset, .unset, .unset, .unset, .unset, .unset, .unset, .unset, .unset, .unset, .unset, .unset] [(.int (own_dg p0 (4 : Int32)))])) _
    exact kt
  obtain ⟨_, _, ⟨T21, L21, k21, n21⟩, -, X21, ⟨Lc21, hQ21, l21, y21, z21⟩, st21⟩ := Jvm.LawKit.callS X18 hx (y := (⟨"com/example/reed/reed/engine/IntegralityIsIntegerPinLaw", "digit", "(II)I"⟩ : MethodName)) hown (mvT hZ (hw _ (List.mem_of_getElem? (i := 0) rfl))) (mvT hZ (hw _ (List.mem_of_getElem? (i := 1) rfl))) (mvT hZ (hw _ (List.mem_of_getElem? (i := 2) rfl))) (mvT hZ (hw _ (List.mem_of_getElem? (i := 3) rfl))) (by decide) (backOf (W := 0) (rm1 l Z a0 hw [] p0 (8 : Int32) T18.heap n0 (Nat.le_trans Z0 K18.1)) hZ (hw _ (List.mem_of_getElem? (i := 3) rfl)) (hw _ (List.mem_of_getElem? (i := 2) rfl)) (by decide) (by decide)) (g := (mkF m 84 #[.val (.int p0), .val (.int p1), .val (.int p2), .val (.int p3), .val (.int il1), .val (.int fl3), .val (.int el5), .val (.int es7), .val (.int v10), .val (.int v13), .val (.int d16), .val (.int d19), .unset, .unset, .unset, .unset, .unset, .unset, .unset, .unset, .unset, .unset, .unset, .unset, .unset, .unset, .unset, .unset, .unset, .unset, .unset, .unset, .unset] [(.int (8 : Int32)), (.int p0)])) rfl (by rw [hml]; rfl) (argsL := [(.int p0), (.int (8 : Int32))]) (rest := []) (lenOf pd__II_I rfl) rfl (by show 2 * 0 + _ ≤ _; exact Nat.le_of_eq rfl) (hb hby at_84) (fun _ _ => ⟨rfl, rfl, (by decide : 0 + 0 ≤ _), (by decide : 0 + 0 ≤ _)⟩)
  dsimp only [Pt.U, Pt.locs, Pt.cells, Pt.slots] at X21 l21 y21 z21 st21 hQ21
  subst l21 y21 z21
  obtain ⟨rfl, N21q, hq21⟩ := hQ21
  have N21 := Fr.app N18 N21q
  have E21 : Ext T18.heap T21.heap := by rw [hq21]; exact ⟨Nat.le_refl _, fun _ _ q => q⟩
  have K21 := K18.ext E21
  obtain ⟨d22, hd22⟩ : ∃ z, z = (own_dg p0 (8 : Int32)) := ⟨_, rfl⟩
  have pre23 : ∀ t, Steps p.tables e below (T21.setTop (mkF m 87 #[.val (.int p0), .val (.int p1), .val (.int p2), .val (.int p3), .val (.int il1), .val (.int fl3), .val (.int el5), .val (.int es7), .val (.int v10), .val (.int v13), .val (.int d16), .val (.int d19), .unset, .unset, .unset, .unset, .unset, .unset, .unset, .unset, .unset, .unset, .unset, .unset, .unset, .unset, .unset, .unset, .unset, .unset, .unset, .unset, .unset] [(.int d22)])) t → Steps p.tables e below (s₁.setTop (entryFrame m #[(.int p0), (.int p1), (.int p2), (.int p3)] maxLocals)) t := by
    intro t kt
    rw [hd22] at kt
    refine pre20 _ ?_
    show Steps p.tables e below (T18.setTop (mkF m 79 #[.val (.int p0), .val (.int p1), .val (.int p2), .val (.int p3), .val (.int il1), .val (.int fl3), .val (.int el5), .val (.int es7), .val (.int v10), .val (.int v13), .val (.int d16), .unset, .unset, .unset, .unset, .unset, .unset, .unset, .unset, .unset, .unset, .unset, .unset, .unset, .unset, .unset, .unset, .unset, .unset, .unset, .unset, .unset, .unset] [(.int d19)])) _
    refine XS.istore X18.here hx rfl (hb hby at_79) rfl (l' := #[.val (.int p0), .val (.int p1), .val (.int p2), .val (.int p3), .val (.int il1), .val (.int fl3), .val (.int el5), .val (.int es7), .val (.int v10), .val (.int v13), .val (.int d16), .val (.int d19), .unset, .unset, .unset, .unset, .unset, .unset, .unset, .unset, .unset, .unset, .unset, .unset, .unset, .unset, .unset, .unset, .unset, .unset, .unset, .unset, .unset]) rfl ?_
    refine XS.iloadN X18.here hx rfl (hb hby at_81) rfl ?_
    refine XS.bipush X18.here hx rfl (hb hby at_82) ?_
    show Steps p.tables e below (T18.setTop (mkF m 84 #[.val (.int p0), .val (.int p1), .val (.int p2), .val (.int p3), .val (.int il1), .val (.int fl3), .val (.int el5), .val (.int es7), .val (.int v10), .val (.int v13), .val (.int d16), .val (.int d19), .unset, .unset, .unset, .unset, .unset, .unset, .unset, .unset, .unset, .unset, .unset, .unset, .unset, .unset, .unset, .unset, .unset, .unset, .unset, .unset, .unset] [(.int (8 : Int32)), (.int p0)])) _
    refine st21 _ ?_
    show Steps p.tables e below (T21.setTop (mkF m 87 #[.val (.int p0), .val (.int p1), .val (.int p2), .val (.int p3), .val (.int il1), .val (.int fl3), .val (.int el5), .val (.int es7), .val (.int v10), .val (.int v13), .val (.int d16), .val (.int d19), .unset, .unset, .unset, .unset, .unset, .unset, .unset, .unset, .unset, .unset, .unset, .unset, .unset, .unset, .unset, .unset, .unset, .unset, .unset, .unset, .unset] [(.int (own_dg p0 (8 : Int32)))])) _
    exact kt
  obtain ⟨v26, hv26⟩ : ∃ z : Int32, z = if d16 = (0 : Int32) then (7 : Int32) else d16 := ⟨_, rfl⟩
  obtain ⟨v28, hv28⟩ : ∃ z : Int32, z = if (1 : Int32) < il1 then v26 else d16 := ⟨_, rfl⟩
  have mg29 : ∀ t, Steps p.tables e below (T21.setTop (mkF m 104 #[.val (.int p0), .val (.int p1), .val (.int p2), .val (.int p3), .val (.int il1), .val (.int fl3), .val (.int el5), .val (.int es7), .val (.int v10), .val (.int v13), .val (.int v28), .val (.int d19), .val (.int d22), .unset, .unset, .unset, .unset, .unset, .unset, .unset, .unset, .unset, .unset, .unset, .unset, .unset, .unset, .unset, .unset, .unset, .unset, .unset, .unset] [])) t → Steps p.tables e below (T21.setTop (mkF m 92 #[.val (.int p0), .val (.int p1), .val (.int p2), .val (.int p3), .val (.int il1), .val (.int fl3), .val (.int el5), .val (.int es7), .val (.int v10), .val (.int v13), .val (.int d16), .val (.int d19), .val (.int d22), .unset, .unset, .unset, .unset, .unset, .unset, .unset, .unset, .unset, .unset, .unset, .unset, .unset, .unset, .unset, .unset, .unset, .unset, .unset, .unset] [(.int (1 : Int32)), (.int il1)])) t := by
    intro t kt
    by_cases hm24 : (1 : Int32) < il1
    ·
      have ev28 : v28 = v26 := by rw [hv28, if_pos hm24]
      rw [ev28] at kt
      have mg27 : ∀ t, Steps p.tables e below (T21.setTop (mkF m 104 #[.val (.int p0), .val (.int p1), .val (.int p2), .val (.int p3), .val (.int il1), .val (.int fl3), .val (.int el5), .val (.int es7), .val (.int v10), .val (.int v13), .val (.int v26), .val (.int d19), .val (.int d22), .unset, .unset, .unset, .unset, .unset, .unset, .unset, .unset, .unset, .unset, .unset, .unset, .unset, .unset, .unset, .unset, .unset, .unset, .unset, .unset] [])) t → Steps p.tables e below (T21.setTop (mkF m 97 #[.val (.int p0), .val (.int p1), .val (.int p2), .val (.int p3), .val (.int il1), .val (.int fl3), .val (.int el5), .val (.int es7), .val (.int v10), .val (.int v13), .val (.int d16), .val (.int d19), .val (.int d22), .unset, .unset, .unset, .unset, .unset, .unset, .unset, .unset, .unset, .unset, .unset, .unset, .unset, .unset, .unset, .unset, .unset, .unset, .unset, .unset] [(.int d16)])) t := by
        intro t kt
        by_cases hm25 : d16 = (0 : Int32)
        ·
          have ev26 : v26 = (7 : Int32) := by rw [hv26, if_pos hm25]
          rw [ev26] at kt
          refine (fun t (k : Steps p.tables e below (T21.setTop (mkF m 97 #[.val (.int p0), .val (.int p1), .val (.int p2), .val (.int p3), .val (.int il1), .val (.int fl3), .val (.int el5), .val (.int es7), .val (.int v10), .val (.int v13), .val (.int d16), .val (.int d19), .val (.int d22), .unset, .unset, .unset, .unset, .unset, .unset, .unset, .unset, .unset, .unset, .unset, .unset, .unset, .unset, .unset, .unset, .unset, .unset, .unset, .unset] [(.int d16)])) t) => k) _ ?_
          refine XS.ifNo X21.here hx rfl (hb hby at_97) rfl ((if0 _ _).trans (teq hm25).2) ?_
          refine XS.bipush X21.here hx rfl (hb hby at_100) ?_
          refine XS.istore X21.here hx rfl (hb hby at_102) rfl (l' := #[.val (.int p0), .val (.int p1), .val (.int p2), .val (.int p3), .val (.int il1), .val (.int fl3), .val (.int el5), .val (.int es7), .val (.int v10), .val (.int v13), .val (.int (7 : Int32)), .val (.int d19), .val (.int d22), .unset, .unset, .unset, .unset, .unset, .unset, .unset, .unset, .unset, .unset, .unset, .unset, .unset, .unset, .unset, .unset, .unset, .unset, .unset, .unset]) rfl ?_
          show Steps p.tables e below (T21.setTop (mkF m 104 #[.val (.int p0), .val (.int p1), .val (.int p2), .val (.int p3), .val (.int il1), .val (.int fl3), .val (.int el5), .val (.int es7), .val (.int v10), .val (.int v13), .val (.int (7 : Int32)), .val (.int d19), .val (.int d22), .unset, .unset, .unset, .unset, .unset, .unset, .unset, .unset, .unset, .unset, .unset, .unset, .unset, .unset, .unset, .unset, .unset, .unset, .unset, .unset] [])) _
          exact kt
        ·
          have ev26 : v26 = d16 := by rw [hv26, if_neg hm25]
          rw [ev26] at kt
          refine (fun t (k : Steps p.tables e below (T21.setTop (mkF m 97 #[.val (.int p0), .val (.int p1), .val (.int p2), .val (.int p3), .val (.int il1), .val (.int fl3), .val (.int el5), .val (.int es7), .val (.int v10), .val (.int v13), .val (.int d16), .val (.int d19), .val (.int d22), .unset, .unset, .unset, .unset, .unset, .unset, .unset, .unset, .unset, .unset, .unset, .unset, .unset, .unset, .unset, .unset, .unset, .unset, .unset, .unset] [(.int d16)])) t) => k) _ ?_
          refine XS.ifYes X21.here hx rfl (pc0 := 97) (pc' := 104) rfl (hb hby at_97) rfl ((if0 _ _).trans (feq hm25).2) (by decide) (by decide) ?_
          show Steps p.tables e below (T21.setTop (mkF m 104 #[.val (.int p0), .val (.int p1), .val (.int p2), .val (.int p3), .val (.int il1), .val (.int fl3), .val (.int el5), .val (.int es7), .val (.int v10), .val (.int v13), .val (.int d16), .val (.int d19), .val (.int d22), .unset, .unset, .unset, .unset, .unset, .unset, .unset, .unset, .unset, .unset, .unset, .unset, .unset, .unset, .unset, .unset, .unset, .unset, .unset, .unset] [])) _
          exact kt
      refine (fun t (k : Steps p.tables e below (T21.setTop (mkF m 92 #[.val (.int p0), .val (.int p1), .val (.int p2), .val (.int p3), .val (.int il1), .val (.int fl3), .val (.int el5), .val (.int es7), .val (.int v10), .val (.int v13), .val (.int d16), .val (.int d19), .val (.int d22), .unset, .unset, .unset, .unset, .unset, .unset, .unset, .unset, .unset, .unset, .unset, .unset, .unset, .unset, .unset, .unset, .unset, .unset, .unset, .unset] [(.int (1 : Int32)), (.int il1)])) t) => k) _ ?_
      refine XS.icmpNo X21.here hx rfl (hb hby at_92) rfl (tlt hm24).2.2.2 ?_
      refine XS.iload X21.here hx rfl (hb hby at_95) rfl ?_
      show Steps p.tables e below (T21.setTop (mkF m 97 #[.val (.int p0), .val (.int p1), .val (.int p2), .val (.int p3), .val (.int il1), .val (.int fl3), .val (.int el5), .val (.int es7), .val (.int v10), .val (.int v13), .val (.int d16), .val (.int d19), .val (.int d22), .unset, .unset, .unset, .unset, .unset, .unset, .unset, .unset, .unset, .unset, .unset, .unset, .unset, .unset, .unset, .unset, .unset, .unset, .unset, .unset] [(.int d16)])) _
      refine mg27 _ ?_
      show Steps p.tables e below (T21.setTop (mkF m 104 #[.val (.int p0), .val (.int p1), .val (.int p2), .val (.int p3), .val (.int il1), .val (.int fl3), .val (.int el5), .val (.int es7), .val (.int v10), .val (.int v13), .val (.int v26), .val (.int d19), .val (.int d22), .unset, .unset, .unset, .unset, .unset, .unset, .unset, .unset, .unset, .unset, .unset, .unset, .unset, .unset, .unset, .unset, .unset, .unset, .unset, .unset] [])) _
      exact kt
    ·
      have ev28 : v28 = d16 := by rw [hv28, if_neg hm24]
      rw [ev28] at kt
      refine (fun t (k : Steps p.tables e below (T21.setTop (mkF m 92 #[.val (.int p0), .val (.int p1), .val (.int p2), .val (.int p3), .val (.int il1), .val (.int fl3), .val (.int el5), .val (.int es7), .val (.int v10), .val (.int v13), .val (.int d16), .val (.int d19), .val (.int d22), .unset, .unset, .unset, .unset, .unset, .unset, .unset, .unset, .unset, .unset, .unset, .unset, .unset, .unset, .unset, .unset, .unset, .unset, .unset, .unset] [(.int (1 : Int32)), (.int il1)])) t) => k) _ ?_
      refine XS.icmpYes X21.here hx rfl (pc0 := 92) (pc' := 104) rfl (hb hby at_92) rfl (flt hm24).2.2.2 (by decide) (by decide) ?_
      show Steps p.tables e below (T21.setTop (mkF m 104 #[.val (.int p0), .val (.int p1), .val (.int p2), .val (.int p3), .val (.int il1), .val (.int fl3), .val (.int el5), .val (.int es7), .val (.int v10), .val (.int v13), .val (.int d16), .val (.int d19), .val (.int d22), .unset, .unset, .unset, .unset, .unset, .unset, .unset, .unset, .unset, .unset, .unset, .unset, .unset, .unset, .unset, .unset, .unset, .unset, .unset, .unset] [])) _
      exact kt
  obtain ⟨_, _, ⟨T30, L30, k30, n30⟩, -, X30, ⟨Lc30, hQ30, l30, y30, z30⟩, st30⟩ := Jvm.LawKit.callS X21 hx (y := (⟨"com/example/reed/reed/engine/IntegralityIsIntegerPinLaw", "digit", "(II)I"⟩ : MethodName)) hown (mvT hZ (hw _ (List.mem_of_getElem? (i := 0) rfl))) (mvT hZ (hw _ (List.mem_of_getElem? (i := 1) rfl))) (mvT hZ (hw _ (List.mem_of_getElem? (i := 2) rfl))) (mvT hZ (hw _ (List.mem_of_getElem? (i := 3) rfl))) (by decide) (backOf (W := 0) (rm1 l Z a0 hw [] p1 (0 : Int32) T21.heap n0 (Nat.le_trans Z0 K21.1)) hZ (hw _ (List.mem_of_getElem? (i := 3) rfl)) (hw _ (List.mem_of_getElem? (i := 2) rfl)) (by decide) (by decide)) (g := (mkF m 106 #[.val (.int p0), .val (.int p1), .val (.int p2), .val (.int p3), .val (.int il1), .val (.int fl3), .val (.int el5), .val (.int es7), .val (.int v10), .val (.int v13), .val (.int v28), .val (.int d19), .val (.int d22), .unset, .unset, .unset, .unset, .unset, .unset, .unset, .unset, .unset, .unset, .unset, .unset, .unset, .unset, .unset, .unset, .unset, .unset, .unset, .unset] [(.int (0 : Int32)), (.int p1)])) rfl (by rw [hml]; rfl) (argsL := [(.int p1), (.int (0 : Int32))]) (rest := []) (lenOf pd__II_I rfl) rfl (by show 2 * 0 + _ ≤ _; exact Nat.le_of_eq rfl) (hb hby at_106) (fun _ _ => ⟨rfl, rfl, (by decide : 0 + 0 ≤ _), (by decide : 0 + 0 ≤ _)⟩)
  dsimp only [Pt.U, Pt.locs, Pt.cells, Pt.slots] at X30 l30 y30 z30 st30 hQ30
  subst l30 y30 z30
  obtain ⟨rfl, N30q, hq30⟩ := hQ30
  have N30 := Fr.app N21 N30q
  have E30 : Ext T21.heap T30.heap := by rw [hq30]; exact ⟨Nat.le_refl _, fun _ _ q => q⟩
  have K30 := K21.ext E30
  obtain ⟨d31, hd31⟩ : ∃ z, z = (own_dg p1 (0 : Int32)) := ⟨_, rfl⟩
  have pre32 : ∀ t, Steps p.tables e below (T30.setTop (mkF m 109 #[.val (.int p0), .val (.int p1), .val (.int p2), .val (.int p3), .val (.int il1), .val (.int fl3), .val (.int el5), .val (.int es7), .val (.int v10), .val (.int v13), .val (.int v28), .val (.int d19), .val (.int d22), .unset, .unset, .unset, .unset, .unset, .unset, .unset, .unset, .unset, .unset, .unset, .unset, .unset, .unset, .unset, .unset, .unset, .unset, .unset, .unset] [(.int d31)])) t → Steps p.tables e below (s₁.setTop (entryFrame m #[(.int p0), (.int p1), (.int p2), (.int p3)] maxLocals)) t := by
    intro t kt
    rw [hd31] at kt
    refine pre23 _ ?_
    show Steps p.tables e below (T21.setTop (mkF m 87 #[.val (.int p0), .val (.int p1), .val (.int p2), .val (.int p3), .val (.int il1), .val (.int fl3), .val (.int el5), .val (.int es7), .val (.int v10), .val (.int v13), .val (.int d16), .val (.int d19), .unset, .unset, .unset, .unset, .unset, .unset, .unset, .unset, .unset, .unset, .unset, .unset, .unset, .unset, .unset, .unset, .unset, .unset, .unset, .unset, .unset] [(.int d22)])) _
    refine XS.istore X21.here hx rfl (hb hby at_87) rfl (l' := #[.val (.int p0), .val (.int p1), .val (.int p2), .val (.int p3), .val (.int il1), .val (.int fl3), .val (.int el5), .val (.int es7), .val (.int v10), .val (.int v13), .val (.int d16), .val (.int d19), .val (.int d22), .unset, .unset, .unset, .unset, .unset, .unset, .unset, .unset, .unset, .unset, .unset, .unset, .unset, .unset, .unset, .unset, .unset, .unset, .unset, .unset]) rfl ?_
    refine XS.iload X21.here hx rfl (hb hby at_89) rfl ?_
    refine XS.iconst X21.here hx rfl (hb hby at_91) ?_
    show Steps p.tables e below (T21.setTop (mkF m 92 #[.val (.int p0), .val (.int p1), .val (.int p2), .val (.int p3), .val (.int il1), .val (.int fl3), .val (.int el5), .val (.int es7), .val (.int v10), .val (.int v13), .val (.int d16), .val (.int d19), .val (.int d22), .unset, .unset, .unset, .unset, .unset, .unset, .unset, .unset, .unset, .unset, .unset, .unset, .unset, .unset, .unset, .unset, .unset, .unset, .unset, .unset] [(.int (1 : Int32)), (.int il1)])) _
    refine mg29 _ ?_
    show Steps p.tables e below (T21.setTop (mkF m 104 #[.val (.int p0), .val (.int p1), .val (.int p2), .val (.int p3), .val (.int il1), .val (.int fl3), .val (.int el5), .val (.int es7), .val (.int v10), .val (.int v13), .val (.int v28), .val (.int d19), .val (.int d22), .unset, .unset, .unset, .unset, .unset, .unset, .unset, .unset, .unset, .unset, .unset, .unset, .unset, .unset, .unset, .unset, .unset, .unset, .unset, .unset] [])) _
    refine XS.iloadN X21.here hx rfl (hb hby at_104) rfl ?_
    refine XS.iconst X21.here hx rfl (hb hby at_105) ?_
    show Steps p.tables e below (T21.setTop (mkF m 106 #[.val (.int p0), .val (.int p1), .val (.int p2), .val (.int p3), .val (.int il1), .val (.int fl3), .val (.int el5), .val (.int es7), .val (.int v10), .val (.int v13), .val (.int v28), .val (.int d19), .val (.int d22), .unset, .unset, .unset, .unset, .unset, .unset, .unset, .unset, .unset, .unset, .unset, .unset, .unset, .unset, .unset, .unset, .unset, .unset, .unset, .unset] [(.int (0 : Int32)), (.int p1)])) _
    refine st30 _ ?_
    show Steps p.tables e below (T30.setTop (mkF m 109 #[.val (.int p0), .val (.int p1), .val (.int p2), .val (.int p3), .val (.int il1), .val (.int fl3), .val (.int el5), .val (.int es7), .val (.int v10), .val (.int v13), .val (.int v28), .val (.int d19), .val (.int d22), .unset, .unset, .unset, .unset, .unset, .unset, .unset, .unset, .unset, .unset, .unset, .unset, .unset, .unset, .unset, .unset, .unset, .unset, .unset, .unset] [(.int (own_dg p1 (0 : Int32)))])) _
    exact kt
  obtain ⟨_, _, ⟨T33, L33, k33, n33⟩, -, X33, ⟨Lc33, hQ33, l33, y33, z33⟩, st33⟩ := Jvm.LawKit.callS X30 hx (y := (⟨"com/example/reed/reed/engine/IntegralityIsIntegerPinLaw", "digit", "(II)I"⟩ : MethodName)) hown (mvT hZ (hw _ (List.mem_of_getElem? (i := 0) rfl))) (mvT hZ (hw _ (List.mem_of_getElem? (i := 1) rfl))) (mvT hZ (hw _ (List.mem_of_getElem? (i := 2) rfl))) (mvT hZ (hw _ (List.mem_of_getElem? (i := 3) rfl))) (by decide) (backOf (W := 0) (rm1 l Z a0 hw [] p1 (4 : Int32) T30.heap n0 (Nat.le_trans Z0 K30.1)) hZ (hw _ (List.mem_of_getElem? (i := 3) rfl)) (hw _ (List.mem_of_getElem? (i := 2) rfl)) (by decide) (by decide)) (g := (mkF m 113 #[.val (.int p0), .val (.int p1), .val (.int p2), .val (.int p3), .val (.int il1), .val (.int fl3), .val (.int el5), .val (.int es7), .val (.int v10), .val (.int v13), .val (.int v28), .val (.int d19), .val (.int d22), .val (.int d31), .unset, .unset, .unset, .unset, .unset, .unset, .unset, .unset, .unset, .unset, .unset, .unset, .unset, .unset, .unset, .unset, .unset, .unset, .unset] [(.int (4 : Int32)), (.int p1)])) rfl (by rw [hml]; rfl) (argsL := [(.int p1), (.int (4 : Int32))]) (rest := []) (lenOf pd__II_I rfl) rfl (by show 2 * 0 + _ ≤ _; exact Nat.le_of_eq rfl) (hb hby at_113) (fun _ _ => ⟨rfl, rfl, (by decide : 0 + 0 ≤ _), (by decide : 0 + 0 ≤ _)⟩)
  dsimp only [Pt.U, Pt.locs, Pt.cells, Pt.slots] at X33 l33 y33 z33 st33 hQ33
  subst l33 y33 z33
  obtain ⟨rfl, N33q, hq33⟩ := hQ33
  have N33 := Fr.app N30 N33q
  have E33 : Ext T30.heap T33.heap := by rw [hq33]; exact ⟨Nat.le_refl _, fun _ _ q => q⟩
  have K33 := K30.ext E33
  obtain ⟨d34, hd34⟩ : ∃ z, z = (own_dg p1 (4 : Int32)) := ⟨_, rfl⟩
  have pre35 : ∀ t, Steps p.tables e below (T33.setTop (mkF m 116 #[.val (.int p0), .val (.int p1), .val (.int p2), .val (.int p3), .val (.int il1), .val (.int fl3), .val (.int el5), .val (.int es7), .val (.int v10), .val (.int v13), .val (.int v28), .val (.int d19), .val (.int d22), .val (.int d31), .unset, .unset, .unset, .unset, .unset, .unset, .unset, .unset, .unset, .unset, .unset, .unset, .unset, .unset, .unset, .unset, .unset, .unset, .unset] [(.int d34)])) t → Steps p.tables e below (s₁.setTop (entryFrame m #[(.int p0), (.int p1), (.int p2), (.int p3)] maxLocals)) t := by
    intro t kt
    rw [hd34] at kt
    refine pre32 _ ?_
    show Steps p.tables e below (T30.setTop (mkF m 109 #[.val (.int p0), .val (.int p1), .val (.int p2), .val (.int p3), .val (.int il1), .val (.int fl3), .val (.int el5), .val (.int es7), .val (.int v10), .val (.int v13), .val (.int v28), .val (.int d19), .val (.int d22), .unset, .unset, .unset, .unset, .unset, .unset, .unset, .unset, .unset, .unset, .unset, .unset, .unset, .unset, .unset, .unset, .unset, .unset, .unset, .unset] [(.int d31)])) _
    refine XS.istore X30.here hx rfl (hb hby at_109) rfl (l' := #[.val (.int p0), .val (.int p1), .val (.int p2), .val (.int p3), .val (.int il1), .val (.int fl3), .val (.int el5), .val (.int es7), .val (.int v10), .val (.int v13), .val (.int v28), .val (.int d19), .val (.int d22), .val (.int d31), .unset, .unset, .unset, .unset, .unset, .unset, .unset, .unset, .unset, .unset, .unset, .unset, .unset, .unset, .unset, .unset, .unset, .unset, .unset]) rfl ?_
    refine XS.iloadN X30.here hx rfl (hb hby at_111) rfl ?_
    refine XS.iconst X30.here hx rfl (hb hby at_112) ?_
    show Steps p.tables e below (T30.setTop (mkF m 113 #[.val (.int p0), .val (.int p1), .val (.int p2), .val (.int p3), .val (.int il1), .val (.int fl3), .val (.int el5), .val (.int es7), .val (.int v10), .val (.int v13), .val (.int v28), .val (.int d19), .val (.int d22), .val (.int d31), .unset, .unset, .unset, .unset, .unset, .unset, .unset, .unset, .unset, .unset, .unset, .unset, .unset, .unset, .unset, .unset, .unset, .unset, .unset] [(.int (4 : Int32)), (.int p1)])) _
    refine st33 _ ?_
    show Steps p.tables e below (T33.setTop (mkF m 116 #[.val (.int p0), .val (.int p1), .val (.int p2), .val (.int p3), .val (.int il1), .val (.int fl3), .val (.int el5), .val (.int es7), .val (.int v10), .val (.int v13), .val (.int v28), .val (.int d19), .val (.int d22), .val (.int d31), .unset, .unset, .unset, .unset, .unset, .unset, .unset, .unset, .unset, .unset, .unset, .unset, .unset, .unset, .unset, .unset, .unset, .unset, .unset] [(.int (own_dg p1 (4 : Int32)))])) _
    exact kt
  obtain ⟨_, _, ⟨T36, L36, k36, n36⟩, -, X36, ⟨Lc36, hQ36, l36, y36, z36⟩, st36⟩ := Jvm.LawKit.callS X33 hx (y := (⟨"com/example/reed/reed/engine/IntegralityIsIntegerPinLaw", "digit", "(II)I"⟩ : MethodName)) hown (mvT hZ (hw _ (List.mem_of_getElem? (i := 0) rfl))) (mvT hZ (hw _ (List.mem_of_getElem? (i := 1) rfl))) (mvT hZ (hw _ (List.mem_of_getElem? (i := 2) rfl))) (mvT hZ (hw _ (List.mem_of_getElem? (i := 3) rfl))) (by decide) (backOf (W := 0) (rm1 l Z a0 hw [] p1 (8 : Int32) T33.heap n0 (Nat.le_trans Z0 K33.1)) hZ (hw _ (List.mem_of_getElem? (i := 3) rfl)) (hw _ (List.mem_of_getElem? (i := 2) rfl)) (by decide) (by decide)) (g := (mkF m 121 #[.val (.int p0), .val (.int p1), .val (.int p2), .val (.int p3), .val (.int il1), .val (.int fl3), .val (.int el5), .val (.int es7), .val (.int v10), .val (.int v13), .val (.int v28), .val (.int d19), .val (.int d22), .val (.int d31), .val (.int d34), .unset, .unset, .unset, .unset, .unset, .unset, .unset, .unset, .unset, .unset, .unset, .unset, .unset, .unset, .unset, .unset, .unset, .unset] [(.int (8 : Int32)), (.int p1)])) rfl (by rw [hml]; rfl) (argsL := [(.int p1), (.int (8 : Int32))]) (rest := []) (lenOf pd__II_I rfl) rfl (by show 2 * 0 + _ ≤ _; exact Nat.le_of_eq rfl) (hb hby at_121) (fun _ _ => ⟨rfl, rfl, (by decide : 0 + 0 ≤ _), (by decide : 0 + 0 ≤ _)⟩)
  dsimp only [Pt.U, Pt.locs, Pt.cells, Pt.slots] at X36 l36 y36 z36 st36 hQ36
  subst l36 y36 z36
  obtain ⟨rfl, N36q, hq36⟩ := hQ36
  have N36 := Fr.app N33 N36q
  have E36 : Ext T33.heap T36.heap := by rw [hq36]; exact ⟨Nat.le_refl _, fun _ _ q => q⟩
  have K36 := K33.ext E36
  obtain ⟨d37, hd37⟩ : ∃ z, z = (own_dg p1 (8 : Int32)) := ⟨_, rfl⟩
  have pre38 : ∀ t, Steps p.tables e below (T36.setTop (mkF m 124 #[.val (.int p0), .val (.int p1), .val (.int p2), .val (.int p3), .val (.int il1), .val (.int fl3), .val (.int el5), .val (.int es7), .val (.int v10), .val (.int v13), .val (.int v28), .val (.int d19), .val (.int d22), .val (.int d31), .val (.int d34), .unset, .unset, .unset, .unset, .unset, .unset, .unset, .unset, .unset, .unset, .unset, .unset, .unset, .unset, .unset, .unset, .unset, .unset] [(.int d37)])) t → Steps p.tables e below (s₁.setTop (entryFrame m #[(.int p0), (.int p1), (.int p2), (.int p3)] maxLocals)) t := by
    intro t kt
    rw [hd37] at kt
    refine pre35 _ ?_
    show Steps p.tables e below (T33.setTop (mkF m 116 #[.val (.int p0), .val (.int p1), .val (.int p2), .val (.int p3), .val (.int il1), .val (.int fl3), .val (.int el5), .val (.int es7), .val (.int v10), .val (.int v13), .val (.int v28), .val (.int d19), .val (.int d22), .val (.int d31), .unset, .unset, .unset, .unset, .unset, .unset, .unset, .unset, .unset, .unset, .unset, .unset, .unset, .unset, .unset, .unset, .unset, .unset, .unset] [(.int d34)])) _
    refine XS.istore X33.here hx rfl (hb hby at_116) rfl (l' := #[.val (.int p0), .val (.int p1), .val (.int p2), .val (.int p3), .val (.int il1), .val (.int fl3), .val (.int el5), .val (.int es7), .val (.int v10), .val (.int v13), .val (.int v28), .val (.int d19), .val (.int d22), .val (.int d31), .val (.int d34), .unset, .unset, .unset, .unset, .unset, .unset, .unset, .unset, .unset, .unset, .unset, .unset, .unset, .unset, .unset, .unset, .unset, .unset]) rfl ?_
    refine XS.iloadN X33.here hx rfl (hb hby at_118) rfl ?_
    refine XS.bipush X33.here hx rfl (hb hby at_119) ?_
    show Steps p.tables e below (T33.setTop (mkF m 121 #[.val (.int p0), .val (.int p1), .val (.int p2), .val (.int p3), .val (.int il1), .val (.int fl3), .val (.int el5), .val (.int es7), .val (.int v10), .val (.int v13), .val (.int v28), .val (.int d19), .val (.int d22), .val (.int d31), .val (.int d34), .unset, .unset, .unset, .unset, .unset, .unset, .unset, .unset, .unset, .unset, .unset, .unset, .unset, .unset, .unset, .unset, .unset, .unset] [(.int (8 : Int32)), (.int p1)])) _
    refine st36 _ ?_
    show Steps p.tables e below (T36.setTop (mkF m 124 #[.val (.int p0), .val (.int p1), .val (.int p2), .val (.int p3), .val (.int il1), .val (.int fl3), .val (.int el5), .val (.int es7), .val (.int v10), .val (.int v13), .val (.int v28), .val (.int d19), .val (.int d22), .val (.int d31), .val (.int d34), .unset, .unset, .unset, .unset, .unset, .unset, .unset, .unset, .unset, .unset, .unset, .unset, .unset, .unset, .unset, .unset, .unset, .unset] [(.int (own_dg p1 (8 : Int32)))])) _
    exact kt
  obtain ⟨_, _, ⟨T39, L39, k39, n39⟩, -, X39, ⟨Lc39, hQ39, l39, y39, z39⟩, st39⟩ := Jvm.LawKit.callS X36 hx (y := (⟨"com/example/reed/reed/engine/IntegralityIsIntegerPinLaw", "digit", "(II)I"⟩ : MethodName)) hown (mvT hZ (hw _ (List.mem_of_getElem? (i := 0) rfl))) (mvT hZ (hw _ (List.mem_of_getElem? (i := 1) rfl))) (mvT hZ (hw _ (List.mem_of_getElem? (i := 2) rfl))) (mvT hZ (hw _ (List.mem_of_getElem? (i := 3) rfl))) (by decide) (backOf (W := 0) (rm1 l Z a0 hw [] p2 (0 : Int32) T36.heap n0 (Nat.le_trans Z0 K36.1)) hZ (hw _ (List.mem_of_getElem? (i := 3) rfl)) (hw _ (List.mem_of_getElem? (i := 2) rfl)) (by decide) (by decide)) (g := (mkF m 128 #[.val (.int p0), .val (.int p1), .val (.int p2), .val (.int p3), .val (.int il1), .val (.int fl3), .val (.int el5), .val (.int es7), .val (.int v10), .val (.int v13), .val (.int v28), .val (.int d19), .val (.int d22), .val (.int d31), .val (.int d34), .val (.int d37), .unset, .unset, .unset, .unset, .unset, .unset, .unset, .unset, .unset, .unset, .unset, .unset, .unset, .unset, .unset, .unset, .unset] [(.int (0 : Int32)), (.int p2)])) rfl (by rw [hml]; rfl) (argsL := [(.int p2), (.int (0 : Int32))]) (rest := []) (lenOf pd__II_I rfl) rfl (by show 2 * 0 + _ ≤ _; exact Nat.le_of_eq rfl) (hb hby at_128) (fun _ _ => ⟨rfl, rfl, (by decide : 0 + 0 ≤ _), (by decide : 0 + 0 ≤ _)⟩)
  dsimp only [Pt.U, Pt.locs, Pt.cells, Pt.slots] at X39 l39 y39 z39 st39 hQ39
  subst l39 y39 z39
  obtain ⟨rfl, N39q, hq39⟩ := hQ39
  have N39 := Fr.app N36 N39q
  have E39 : Ext T36.heap T39.heap := by rw [hq39]; exact ⟨Nat.le_refl _, fun _ _ q => q⟩
  have K39 := K36.ext E39
  obtain ⟨d40, hd40⟩ : ∃ z, z = (own_dg p2 (0 : Int32)) := ⟨_, rfl⟩
  have pre41 : ∀ t, Steps p.tables e below (T39.setTop (mkF m 131 #[.val (.int p0), .val (.int p1), .val (.int p2), .val (.int p3), .val (.int il1), .val (.int fl3), .val (.int el5), .val (.int es7), .val (.int v10), .val (.int v13), .val (.int v28), .val (.int d19), .val (.int d22), .val (.int d31), .val (.int d34), .val (.int d37), .unset, .unset, .unset, .unset, .unset, .unset, .unset, .unset, .unset, .unset, .unset, .unset, .unset, .unset, .unset, .unset, .unset] [(.int d40)])) t → Steps p.tables e below (s₁.setTop (entryFrame m #[(.int p0), (.int p1), (.int p2), (.int p3)] maxLocals)) t := by
    intro t kt
    rw [hd40] at kt
    refine pre38 _ ?_
    show Steps p.tables e below (T36.setTop (mkF m 124 #[.val (.int p0), .val (.int p1), .val (.int p2), .val (.int p3), .val (.int il1), .val (.int fl3), .val (.int el5), .val (.int es7), .val (.int v10), .val (.int v13), .val (.int v28), .val (.int d19), .val (.int d22), .val (.int d31), .val (.int d34), .unset, .unset, .unset, .unset, .unset, .unset, .unset, .unset, .unset, .unset, .unset, .unset, .unset, .unset, .unset, .unset, .unset, .unset] [(.int d37)])) _
    refine XS.istore X36.here hx rfl (hb hby at_124) rfl (l' := #[.val (.int p0), .val (.int p1), .val (.int p2), .val (.int p3), .val (.int il1), .val (.int fl3), .val (.int el5), .val (.int es7), .val (.int v10), .val (.int v13), .val (.int v28), .val (.int d19), .val (.int d22), .val (.int d31), .val (.int d34), .val (.int d37), .unset, .unset, .unset, .unset, .unset, .unset, .unset, .unset, .unset, .unset, .unset, .unset, .unset, .unset, .unset, .unset, .unset]) rfl ?_
    refine XS.iloadN X36.here hx rfl (hb hby at_126) rfl ?_
    refine XS.iconst X36.here hx rfl (hb hby at_127) ?_
    show Steps p.tables e below (T36.setTop (mkF m 128 #[.val (.int p0), .val (.int p1), .val (.int p2), .val (.int p3), .val (.int il1), .val (.int fl3), .val (.int el5), .val (.int es7), .val (.int v10), .val (.int v13), .val (.int v28), .val (.int d19), .val (.int d22), .val (.int d31), .val (.int d34), .val (.int d37), .unset, .unset, .unset, .unset, .unset, .unset, .unset, .unset, .unset, .unset, .unset, .unset, .unset, .unset, .unset, .unset, .unset] [(.int (0 : Int32)), (.int p2)])) _
    refine st39 _ ?_
    show Steps p.tables e below (T39.setTop (mkF m 131 #[.val (.int p0), .val (.int p1), .val (.int p2), .val (.int p3), .val (.int il1), .val (.int fl3), .val (.int el5), .val (.int es7), .val (.int v10), .val (.int v13), .val (.int v28), .val (.int d19), .val (.int d22), .val (.int d31), .val (.int d34), .val (.int d37), .unset, .unset, .unset, .unset, .unset, .unset, .unset, .unset, .unset, .unset, .unset, .unset, .unset, .unset, .unset, .unset, .unset] [(.int (own_dg p2 (0 : Int32)))])) _
    exact kt
  obtain ⟨_, _, ⟨T42, L42, k42, n42⟩, -, X42, ⟨Lc42, hQ42, l42, y42, z42⟩, st42⟩ := Jvm.LawKit.callS X39 hx (y := (⟨"com/example/reed/reed/engine/IntegralityIsIntegerPinLaw", "digit", "(II)I"⟩ : MethodName)) hown (mvT hZ (hw _ (List.mem_of_getElem? (i := 0) rfl))) (mvT hZ (hw _ (List.mem_of_getElem? (i := 1) rfl))) (mvT hZ (hw _ (List.mem_of_getElem? (i := 2) rfl))) (mvT hZ (hw _ (List.mem_of_getElem? (i := 3) rfl))) (by decide) (backOf (W := 0) (rm1 l Z a0 hw [] p2 (4 : Int32) T39.heap n0 (Nat.le_trans Z0 K39.1)) hZ (hw _ (List.mem_of_getElem? (i := 3) rfl)) (hw _ (List.mem_of_getElem? (i := 2) rfl)) (by decide) (by decide)) (g := (mkF m 135 #[.val (.int p0), .val (.int p1), .val (.int p2), .val (.int p3), .val (.int il1), .val (.int fl3), .val (.int el5), .val (.int es7), .val (.int v10), .val (.int v13), .val (.int v28), .val (.int d19), .val (.int d22), .val (.int d31), .val (.int d34), .val (.int d37), .val (.int d40), .unset, .unset, .unset, .unset, .unset, .unset, .unset, .unset, .unset, .unset, .unset, .unset, .unset, .unset, .unset, .unset] [(.int (4 : Int32)), (.int p2)])) rfl (by rw [hml]; rfl) (argsL := [(.int p2), (.int (4 : Int32))]) (rest := []) (lenOf pd__II_I rfl) rfl (by show 2 * 0 + _ ≤ _; exact Nat.le_of_eq rfl) (hb hby at_135) (fun _ _ => ⟨rfl, rfl, (by decide : 0 + 0 ≤ _), (by decide : 0 + 0 ≤ _)⟩)
  dsimp only [Pt.U, Pt.locs, Pt.cells, Pt.slots] at X42 l42 y42 z42 st42 hQ42
  subst l42 y42 z42
  obtain ⟨rfl, N42q, hq42⟩ := hQ42
  have N42 := Fr.app N39 N42q
  have E42 : Ext T39.heap T42.heap := by rw [hq42]; exact ⟨Nat.le_refl _, fun _ _ q => q⟩
  have K42 := K39.ext E42
  obtain ⟨d43, hd43⟩ : ∃ z, z = (own_dg p2 (4 : Int32)) := ⟨_, rfl⟩
  have pre44 : ∀ t, Steps p.tables e below (T42.setTop (mkF m 138 #[.val (.int p0), .val (.int p1), .val (.int p2), .val (.int p3), .val (.int il1), .val (.int fl3), .val (.int el5), .val (.int es7), .val (.int v10), .val (.int v13), .val (.int v28), .val (.int d19), .val (.int d22), .val (.int d31), .val (.int d34), .val (.int d37), .val (.int d40), .unset, .unset, .unset, .unset, .unset, .unset, .unset, .unset, .unset, .unset, .unset, .unset, .unset, .unset, .unset, .unset] [(.int d43)])) t → Steps p.tables e below (s₁.setTop (entryFrame m #[(.int p0), (.int p1), (.int p2), (.int p3)] maxLocals)) t := by
    intro t kt
    rw [hd43] at kt
    refine pre41 _ ?_
    show Steps p.tables e below (T39.setTop (mkF m 131 #[.val (.int p0), .val (.int p1), .val (.int p2), .val (.int p3), .val (.int il1), .val (.int fl3), .val (.int el5), .val (.int es7), .val (.int v10), .val (.int v13), .val (.int v28), .val (.int d19), .val (.int d22), .val (.int d31), .val (.int d34), .val (.int d37), .unset, .unset, .unset, .unset, .unset, .unset, .unset, .unset, .unset, .unset, .unset, .unset, .unset, .unset, .unset, .unset, .unset] [(.int d40)])) _
    refine XS.istore X39.here hx rfl (hb hby at_131) rfl (l' := #[.val (.int p0), .val (.int p1), .val (.int p2), .val (.int p3), .val (.int il1), .val (.int fl3), .val (.int el5), .val (.int es7), .val (.int v10), .val (.int v13), .val (.int v28), .val (.int d19), .val (.int d22), .val (.int d31), .val (.int d34), .val (.int d37), .val (.int d40), .unset, .unset, .unset, .unset, .unset, .unset, .unset, .unset, .unset, .unset, .unset, .unset, .unset, .unset, .unset, .unset]) rfl ?_
    refine XS.iloadN X39.here hx rfl (hb hby at_133) rfl ?_
    refine XS.iconst X39.here hx rfl (hb hby at_134) ?_
    show Steps p.tables e below (T39.setTop (mkF m 135 #[.val (.int p0), .val (.int p1), .val (.int p2), .val (.int p3), .val (.int il1), .val (.int fl3), .val (.int el5), .val (.int es7), .val (.int v10), .val (.int v13), .val (.int v28), .val (.int d19), .val (.int d22), .val (.int d31), .val (.int d34), .val (.int d37), .val (.int d40), .unset, .unset, .unset, .unset, .unset, .unset, .unset, .unset, .unset, .unset, .unset, .unset, .unset, .unset, .unset, .unset] [(.int (4 : Int32)), (.int p2)])) _
    refine st42 _ ?_
    show Steps p.tables e below (T42.setTop (mkF m 138 #[.val (.int p0), .val (.int p1), .val (.int p2), .val (.int p3), .val (.int il1), .val (.int fl3), .val (.int el5), .val (.int es7), .val (.int v10), .val (.int v13), .val (.int v28), .val (.int d19), .val (.int d22), .val (.int d31), .val (.int d34), .val (.int d37), .val (.int d40), .unset, .unset, .unset, .unset, .unset, .unset, .unset, .unset, .unset, .unset, .unset, .unset, .unset, .unset, .unset, .unset] [(.int (own_dg p2 (4 : Int32)))])) _
    exact kt
  have pre45 : ∀ t, Steps p.tables e below (T42.setTop (mkF m 140 #[.val (.int p0), .val (.int p1), .val (.int p2), .val (.int p3), .val (.int il1), .val (.int fl3), .val (.int el5), .val (.int es7), .val (.int v10), .val (.int v13), .val (.int v28), .val (.int d19), .val (.int d22), .val (.int d31), .val (.int d34), .val (.int d37), .val (.int d40), .val (.int d43), .unset, .unset, .unset, .unset, .unset, .unset, .unset, .unset, .unset, .unset, .unset, .unset, .unset, .unset, .unset] [])) t → Steps p.tables e below (s₁.setTop (entryFrame m #[(.int p0), (.int p1), (.int p2), (.int p3)] maxLocals)) t := by
    intro t kt
    refine pre44 _ ?_
    show Steps p.tables e below (T42.setTop (mkF m 138 #[.val (.int p0), .val (.int p1), .val (.int p2), .val (.int p3), .val (.int il1), .val (.int fl3), .val (.int el5), .val (.int es7), .val (.int v10), .val (.int v13), .val (.int v28), .val (.int d19), .val (.int d22), .val (.int d31), .val (.int d34), .val (.int d37), .val (.int d40), .unset, .unset, .unset, .unset, .unset, .unset, .unset, .unset, .unset, .unset, .unset, .unset, .unset, .unset, .unset, .unset] [(.int d43)])) _
    refine XS.istore X42.here hx rfl (hb hby at_138) rfl (l' := #[.val (.int p0), .val (.int p1), .val (.int p2), .val (.int p3), .val (.int il1), .val (.int fl3), .val (.int el5), .val (.int es7), .val (.int v10), .val (.int v13), .val (.int v28), .val (.int d19), .val (.int d22), .val (.int d31), .val (.int d34), .val (.int d37), .val (.int d40), .val (.int d43), .unset, .unset, .unset, .unset, .unset, .unset, .unset, .unset, .unset, .unset, .unset, .unset, .unset, .unset, .unset]) rfl ?_
    show Steps p.tables e below (T42.setTop (mkF m 140 #[.val (.int p0), .val (.int p1), .val (.int p2), .val (.int p3), .val (.int il1), .val (.int fl3), .val (.int el5), .val (.int es7), .val (.int v10), .val (.int v13), .val (.int v28), .val (.int d19), .val (.int d22), .val (.int d31), .val (.int d34), .val (.int d37), .val (.int d40), .val (.int d43), .unset, .unset, .unset, .unset, .unset, .unset, .unset, .unset, .unset, .unset, .unset, .unset, .unset, .unset, .unset] [])) _
    exact kt
  have d9d19 : own_d9 d19 := by rw [hd19]; exact own_dg9 _ _
  have d9d22 : own_d9 d22 := by rw [hd22]; exact own_dg9 _ _
  have d9d31 : own_d9 d31 := by rw [hd31]; exact own_dg9 _ _
  have d9d34 : own_d9 d34 := by rw [hd34]; exact own_dg9 _ _
  have d9d37 : own_d9 d37 := by rw [hd37]; exact own_dg9 _ _
  have d9d40 : own_d9 d40 := by rw [hd40]; exact own_dg9 _ _
  have d9d43 : own_d9 d43 := by rw [hd43]; exact own_dg9 _ _
  have d9d16 : own_d9 d16 := by
    rw [hd16]; exact own_dg9 _ _
  have d9v28 : own_d9 v28 := by
    rw [hv28]; split
    · rw [hv26]; split
      · exact ⟨by decide, by decide⟩
      · exact d9d16
    · exact d9d16
  have kil : ∃ k : Fin 3, il1 = (1 : Int32) + Int32.ofNat k.val := by
    obtain ⟨k, hk⟩ := own_m3 p3; exact ⟨k, by rw [hil1, hk]⟩
  have kfl : ∃ k : Fin 4, fl3 = Int32.ofNat k.val := by rw [hfl3]; exact own_and3 _
  have kel : ∃ k : Fin 3, el5 = Int32.ofNat k.val := by rw [hel5]; exact own_m3 _
  have kes : ∃ k : Fin 3, es7 = Int32.ofNat k.val := by rw [hes7]; exact own_m3 _
  have pre46 : ∀ t, Steps p.tables e below (T42.setTop (mkF m 142 #[.val (.int p0), .val (.int p1), .val (.int p2), .val (.int p3), .val (.int il1), .val (.int fl3), .val (.int el5), .val (.int es7), .val (.int v10), .val (.int v13), .val (.int v28), .val (.int d19), .val (.int d22), .val (.int d31), .val (.int d34), .val (.int d37), .val (.int d40), .val (.int d43), .unset, .unset, .unset, .unset, .unset, .unset, .unset, .unset, .unset, .unset, .unset, .unset, .unset, .unset, .unset] [(.int v13)])) t → Steps p.tables e below (s₁.setTop (entryFrame m #[(.int p0), (.int p1), (.int p2), (.int p3)] maxLocals)) t := by
    intro t kt
    refine pre45 _ ?_
    show Steps p.tables e below (T42.setTop (mkF m 140 #[.val (.int p0), .val (.int p1), .val (.int p2), .val (.int p3), .val (.int il1), .val (.int fl3), .val (.int el5), .val (.int es7), .val (.int v10), .val (.int v13), .val (.int v28), .val (.int d19), .val (.int d22), .val (.int d31), .val (.int d34), .val (.int d37), .val (.int d40), .val (.int d43), .unset, .unset, .unset, .unset, .unset, .unset, .unset, .unset, .unset, .unset, .unset, .unset, .unset, .unset, .unset] [])) _
    refine XS.iload X42.here hx rfl (hb hby at_140) rfl ?_
    show Steps p.tables e below (T42.setTop (mkF m 142 #[.val (.int p0), .val (.int p1), .val (.int p2), .val (.int p3), .val (.int il1), .val (.int fl3), .val (.int el5), .val (.int es7), .val (.int v10), .val (.int v13), .val (.int v28), .val (.int d19), .val (.int d22), .val (.int d31), .val (.int d34), .val (.int d37), .val (.int d40), .val (.int d43), .unset, .unset, .unset, .unset, .unset, .unset, .unset, .unset, .unset, .unset, .unset, .unset, .unset, .unset, .unset] [(.int v13)])) _
    exact kt
  by_cases hc142 : v13 = (0 : Int32)
  ·
    have pre48 : ∀ t, Steps p.tables e below (T42.setTop (mkF m 150 #[.val (.int p0), .val (.int p1), .val (.int p2), .val (.int p3), .val (.int il1), .val (.int fl3), .val (.int el5), .val (.int es7), .val (.int v10), .val (.int v13), .val (.int v28), .val (.int d19), .val (.int d22), .val (.int d31), .val (.int d34), .val (.int d37), .val (.int d40), .val (.int d43), .unset, .unset, .unset, .unset, .unset, .unset, .unset, .unset, .unset, .unset, .unset, .unset, .unset, .unset, .unset] [])) t → Steps p.tables e below (s₁.setTop (entryFrame m #[(.int p0), (.int p1), (.int p2), (.int p3)] maxLocals)) t := by
      intro t kt
      refine pre46 _ ?_
      show Steps p.tables e below (T42.setTop (mkF m 142 #[.val (.int p0), .val (.int p1), .val (.int p2), .val (.int p3), .val (.int il1), .val (.int fl3), .val (.int el5), .val (.int es7), .val (.int v10), .val (.int v13), .val (.int v28), .val (.int d19), .val (.int d22), .val (.int d31), .val (.int d34), .val (.int d37), .val (.int d40), .val (.int d43), .unset, .unset, .unset, .unset, .unset, .unset, .unset, .unset, .unset, .unset, .unset, .unset, .unset, .unset, .unset] [(.int v13)])) _
      refine XS.ifYes X42.here hx rfl (pc0 := 142) (pc' := 150) rfl (hb hby at_142) rfl ((if0 _ _).trans (teq hc142).1) (by decide) (by decide) ?_
      show Steps p.tables e below (T42.setTop (mkF m 150 #[.val (.int p0), .val (.int p1), .val (.int p2), .val (.int p3), .val (.int il1), .val (.int fl3), .val (.int el5), .val (.int es7), .val (.int v10), .val (.int v13), .val (.int v28), .val (.int d19), .val (.int d22), .val (.int d31), .val (.int d34), .val (.int d37), .val (.int d40), .val (.int d43), .unset, .unset, .unset, .unset, .unset, .unset, .unset, .unset, .unset, .unset, .unset, .unset, .unset, .unset, .unset] [])) _
      exact kt
    obtain ⟨x49, T49, h49, k49, b49, kb49, X49, e49, E49, hS49, hk49, hZ, hown, xe49, xc49, xv49, xa49, -, -, I49, lt49, st49⟩ := ldcSVL (s := s) (vm0 := s.vm) X42 hx hZ hown (hw _ (List.mem_of_getElem? (i := 4) rfl)) wS rfl hS0 (by rw [hh]; exact K42.1) (by rw [hn0]; exact N42) hkp I0 (by decide) HC15 HCW (vs := []) (z := (0 : Int32)) own_ht0 (by decide) (by decide) (g := (mkF m 150 #[.val (.int p0), .val (.int p1), .val (.int p2), .val (.int p3), .val (.int il1), .val (.int fl3), .val (.int el5), .val (.int es7), .val (.int v10), .val (.int v13), .val (.int v28), .val (.int d19), .val (.int d22), .val (.int d31), .val (.int d34), .val (.int d37), .val (.int d40), .val (.int d43), .unset, .unset, .unset, .unset, .unset, .unset, .unset, .unset, .unset, .unset, .unset, .unset, .unset, .unset, .unset] [])) rfl (hb hby at_150) (n := 0) own_hn0 (by decide) (by decide) (by decide)
    have xs49 : own_str Z h49 x49 [] := ⟨b49, kb49, xe49, xc49, xv49, xa49⟩
    have K49 := K42.ext E49
    obtain ⟨_, _, ⟨T50, L50, k50, n50⟩, -, X50, ⟨Lc50, hQ50, l50, y50, z50⟩, st50⟩ := Jvm.LawKit.callS X49 hx (y := (⟨"com/example/reed/reed/engine/IntegralityIsIntegerPinLaw", "ch", "(I)C"⟩ : MethodName)) hown (mvT hZ (hw _ (List.mem_of_getElem? (i := 12) rfl))) (mvT hZ (hw _ (List.mem_of_getElem? (i := 13) rfl))) (mvT hZ (hw _ (List.mem_of_getElem? (i := 2) rfl))) (mvT hZ (hw _ (List.mem_of_getElem? (i := 14) rfl))) (by decide) (backOf (W := 0) (rm2 l Z a0 hw [] v28 h49 n0 (Nat.le_trans Z0 K49.1) d9v28) hZ (hw _ (List.mem_of_getElem? (i := 14) rfl)) (hw _ (List.mem_of_getElem? (i := 2) rfl)) (by decide) (by decide)) (g := (mkF m 156 #[.val (.int p0), .val (.int p1), .val (.int p2), .val (.int p3), .val (.int il1), .val (.int fl3), .val (.int el5), .val (.int es7), .val (.int v10), .val (.int v13), .val (.int v28), .val (.int d19), .val (.int d22), .val (.int d31), .val (.int d34), .val (.int d37), .val (.int d40), .val (.int d43), .val (.ref x49), .unset, .unset, .unset, .unset, .unset, .unset, .unset, .unset, .unset, .unset, .unset, .unset, .unset, .unset] [(.int v28)])) rfl (by rw [hml]; rfl) (argsL := [(.int v28)]) (rest := []) (lenOf pd__I_C rfl) rfl (by show 2 * 0 + _ ≤ _; exact Nat.le_of_eq rfl) (hb hby at_156) (fun _ _ => ⟨rfl, e49, (by decide : 2 + 0 ≤ _), (by decide : 4 + 0 ≤ _)⟩)
    dsimp only [Pt.U, Pt.locs, Pt.cells, Pt.slots] at X50 l50 y50 z50 st50 hQ50
    subst l50 y50 z50
    obtain ⟨rfl, N50q, hq50⟩ := hQ50
    have N50 := Fr.app N42 N50q
    have E50 : Ext h49 T50.heap := by rw [hq50]; exact ⟨Nat.le_refl _, fun _ _ q => q⟩
    have K50 := K49.ext E50
    obtain ⟨_, _, ⟨T51, L51, k51, n51⟩, -, X51, ⟨Lc51, hQ51, l51, y51, z51⟩, st51⟩ := Jvm.LawKit.callS X50 hx (y := (⟨"com/example/reed/reed/engine/IntegralityIsIntegerPinLaw", "ch", "(I)C"⟩ : MethodName)) hown (mvT hZ (hw _ (List.mem_of_getElem? (i := 12) rfl))) (mvT hZ (hw _ (List.mem_of_getElem? (i := 13) rfl))) (mvT hZ (hw _ (List.mem_of_getElem? (i := 2) rfl))) (mvT hZ (hw _ (List.mem_of_getElem? (i := 14) rfl))) (by decide) (backOf (W := 1) (rm2 l Z a0 hw [] d19 T50.heap n0 (Nat.le_trans Z0 K50.1) d9d19) hZ (hw _ (List.mem_of_getElem? (i := 14) rfl)) (hw _ (List.mem_of_getElem? (i := 2) rfl)) (by decide) (by decide)) (g := (mkF m 161 #[.val (.int p0), .val (.int p1), .val (.int p2), .val (.int p3), .val (.int il1), .val (.int fl3), .val (.int el5), .val (.int es7), .val (.int v10), .val (.int v13), .val (.int v28), .val (.int d19), .val (.int d22), .val (.int d31), .val (.int d34), .val (.int d37), .val (.int d40), .val (.int d43), .val (.ref x49), .unset, .unset, .unset, .unset, .unset, .unset, .unset, .unset, .unset, .unset, .unset, .unset, .unset, .unset] [(.int d19), (.int ((48 : Int32) + v28))])) rfl (by rw [hml]; rfl) (argsL := [(.int d19)]) (rest := [(.int ((48 : Int32) + v28))]) (lenOf pd__I_C rfl) rfl (by show 2 * 0 + _ ≤ _; exact Nat.le_of_eq rfl) (hb hby at_161) (fun _ _ => ⟨rfl, rfl, (by decide : 2 + 0 ≤ _), (by decide : 4 + 0 ≤ _)⟩)
    dsimp only [Pt.U, Pt.locs, Pt.cells, Pt.slots] at X51 l51 y51 z51 st51 hQ51
    subst l51 y51 z51
    obtain ⟨rfl, N51q, hq51⟩ := hQ51
    have N51 := Fr.app N50 N51q
    have E51 : Ext T50.heap T51.heap := by rw [hq51]; exact ⟨Nat.le_refl _, fun _ _ q => q⟩
    have K51 := K50.ext E51
    obtain ⟨_, _, ⟨T52, L52, k52, n52⟩, -, X52, ⟨Lc52, hQ52, l52, y52, z52⟩, st52⟩ := Jvm.LawKit.callS X51 hx (y := (⟨"com/example/reed/reed/engine/IntegralityIsIntegerPinLaw", "ch", "(I)C"⟩ : MethodName)) hown (mvT hZ (hw _ (List.mem_of_getElem? (i := 12) rfl))) (mvT hZ (hw _ (List.mem_of_getElem? (i := 13) rfl))) (mvT hZ (hw _ (List.mem_of_getElem? (i := 2) rfl))) (mvT hZ (hw _ (List.mem_of_getElem? (i := 14) rfl))) (by decide) (backOf (W := 2) (rm2 l Z a0 hw [] d22 T51.heap n0 (Nat.le_trans Z0 K51.1) d9d22) hZ (hw _ (List.mem_of_getElem? (i := 14) rfl)) (hw _ (List.mem_of_getElem? (i := 2) rfl)) (by decide) (by decide)) (g := (mkF m 166 #[.val (.int p0), .val (.int p1), .val (.int p2), .val (.int p3), .val (.int il1), .val (.int fl3), .val (.int el5), .val (.int es7), .val (.int v10), .val (.int v13), .val (.int v28), .val (.int d19), .val (.int d22), .val (.int d31), .val (.int d34), .val (.int d37), .val (.int d40), .val (.int d43), .val (.ref x49), .unset, .unset, .unset, .unset, .unset, .unset, .unset, .unset, .unset, .unset, .unset, .unset, .unset, .unset] [(.int d22), (.int ((48 : Int32) + d19)), (.int ((48 : Int32) + v28))])) rfl (by rw [hml]; rfl) (argsL := [(.int d22)]) (rest := [(.int ((48 : Int32) + d19)), (.int ((48 : Int32) + v28))]) (lenOf pd__I_C rfl) rfl (by show 2 * 0 + _ ≤ _; exact Nat.le_of_eq rfl) (hb hby at_166) (fun _ _ => ⟨rfl, rfl, (by decide : 2 + 0 ≤ _), (by decide : 4 + 0 ≤ _)⟩)
    dsimp only [Pt.U, Pt.locs, Pt.cells, Pt.slots] at X52 l52 y52 z52 st52 hQ52
    subst l52 y52 z52
    obtain ⟨rfl, N52q, hq52⟩ := hQ52
    have N52 := Fr.app N51 N52q
    have E52 : Ext T51.heap T52.heap := by rw [hq52]; exact ⟨Nat.le_refl _, fun _ _ q => q⟩
    have K52 := K51.ext E52
    have OLD53 : Old Z n0 T52.heap := OLD0.keep K52 all0
    obtain ⟨_, _, ⟨T53, L53, k53, n53⟩, -, X53, ⟨Lc53, hQ53, l53, y53, z53⟩, st53⟩ := Jvm.LawKit.callS X52 hx (y := (⟨"com/example/reed/reed/engine/IntegralityIsIntegerPinLaw", "text", "(CCCCI)Ljava/lang/String;"⟩ : MethodName)) hown (mvT hZ (hw _ (List.mem_of_getElem? (i := 15) rfl))) (mvT hZ (hw _ (List.mem_of_getElem? (i := 16) rfl))) (mvT hZ (hw _ (List.mem_of_getElem? (i := 2) rfl))) (mvT hZ (hw _ (List.mem_of_getElem? (i := 17) rfl))) (by decide) (backOf (W := 0) (rm3 l Z a0 hw [] ((48 : Int32) + v28) ((48 : Int32) + d19) ((48 : Int32) + d22) (48 : Int32) il1 G1 T52.heap n0 (Nat.le_trans Z0 K52.1) OLD53 SCS P5 (own_c48 d9v28) (own_c48 d9d19) (own_c48 d9d22) own_l48) hZ (hw _ (List.mem_of_getElem? (i := 17) rfl)) (hw _ (List.mem_of_getElem? (i := 2) rfl)) (by decide) (by decide)) (g := (mkF m 173 #[.val (.int p0), .val (.int p1), .val (.int p2), .val (.int p3), .val (.int il1), .val (.int fl3), .val (.int el5), .val (.int es7), .val (.int v10), .val (.int v13), .val (.int v28), .val (.int d19), .val (.int d22), .val (.int d31), .val (.int d34), .val (.int d37), .val (.int d40), .val (.int d43), .val (.ref x49), .unset, .unset, .unset, .unset, .unset, .unset, .unset, .unset, .unset, .unset, .unset, .unset, .unset, .unset] [(.int il1), (.int (48 : Int32)), (.int ((48 : Int32) + d22)), (.int ((48 : Int32) + d19)), (.int ((48 : Int32) + v28))])) rfl (by rw [hml]; rfl) (argsL := [(.int ((48 : Int32) + v28)), (.int ((48 : Int32) + d19)), (.int ((48 : Int32) + d22)), (.int (48 : Int32)), (.int il1)]) (rest := []) (lenOf pd__CCCCI_Ljava_lang_String_ rfl) rfl (by show 2 * 0 + _ ≤ _; exact Nat.le_of_eq rfl) (hb hby at_173) (fun _ _ => ⟨rfl, rfl, (by decide : 2 + 3 ≤ _), (by decide : 4 + 12 ≤ _)⟩)
    dsimp only [Pt.U, Pt.locs, Pt.cells, Pt.slots] at X53 l53 y53 z53 st53 hQ53
    subst l53 y53 z53
    obtain ⟨x53, rfl, N53q, kq53, gg53, u53, xs53⟩ := hQ53
    have N53 := Fr.app N52 N53q
    have K53 := K52.trans kq53 all0
    have pre54 : ∀ t, Steps p.tables e below (T53.setTop (mkF m 180 #[.val (.int p0), .val (.int p1), .val (.int p2), .val (.int p3), .val (.int il1), .val (.int fl3), .val (.int el5), .val (.int es7), .val (.int v10), .val (.int v13), .val (.int v28), .val (.int d19), .val (.int d22), .val (.int d31), .val (.int d34), .val (.int d37), .val (.int d40), .val (.int d43), .val (.ref x49), .val (.ref x53), .unset, .unset, .unset, .unset, .unset, .unset, .unset, .unset, .unset, .unset, .unset, .unset, .unset] [(.int fl3)])) t → Steps p.tables e below (s₁.setTop (entryFrame m #[(.int p0), (.int p1), (.int p2), (.int p3)] maxLocals)) t := by
      intro t kt
      refine pre48 _ ?_
      show Steps p.tables e below (T42.setTop (mkF m 150 #[.val (.int p0), .val (.int p1), .val (.int p2), .val (.int p3), .val (.int il1), .val (.int fl3), .val (.int el5), .val (.int es7), .val (.int v10), .val (.int v13), .val (.int v28), .val (.int d19), .val (.int d22), .val (.int d31), .val (.int d34), .val (.int d37), .val (.int d40), .val (.int d43), .unset, .unset, .unset, .unset, .unset, .unset, .unset, .unset, .unset, .unset, .unset, .unset, .unset, .unset, .unset] [])) _
      refine st49 _ ?_
      show Steps p.tables e below (T49.setTop (mkF m 152 #[.val (.int p0), .val (.int p1), .val (.int p2), .val (.int p3), .val (.int il1), .val (.int fl3), .val (.int el5), .val (.int es7), .val (.int v10), .val (.int v13), .val (.int v28), .val (.int d19), .val (.int d22), .val (.int d31), .val (.int d34), .val (.int d37), .val (.int d40), .val (.int d43), .unset, .unset, .unset, .unset, .unset, .unset, .unset, .unset, .unset, .unset, .unset, .unset, .unset, .unset, .unset] [(.ref x49)])) _
      refine XS.astore X49.here hx rfl (hb hby at_152) rfl rfl (l' := #[.val (.int p0), .val (.int p1), .val (.int p2), .val (.int p3), .val (.int il1), .val (.int fl3), .val (.int el5), .val (.int es7), .val (.int v10), .val (.int v13), .val (.int v28), .val (.int d19), .val (.int d22), .val (.int d31), .val (.int d34), .val (.int d37), .val (.int d40), .val (.int d43), .val (.ref x49), .unset, .unset, .unset, .unset, .unset, .unset, .unset, .unset, .unset, .unset, .unset, .unset, .unset, .unset]) rfl ?_
      refine XS.iload X49.here hx rfl (hb hby at_154) rfl ?_
      show Steps p.tables e below (T49.setTop (mkF m 156 #[.val (.int p0), .val (.int p1), .val (.int p2), .val (.int p3), .val (.int il1), .val (.int fl3), .val (.int el5), .val (.int es7), .val (.int v10), .val (.int v13), .val (.int v28), .val (.int d19), .val (.int d22), .val (.int d31), .val (.int d34), .val (.int d37), .val (.int d40), .val (.int d43), .val (.ref x49), .unset, .unset, .unset, .unset, .unset, .unset, .unset, .unset, .unset, .unset, .unset, .unset, .unset, .unset] [(.int v28)])) _
      refine st50 _ ?_
      show Steps p.tables e below (T50.setTop (mkF m 159 #[.val (.int p0), .val (.int p1), .val (.int p2), .val (.int p3), .val (.int il1), .val (.int fl3), .val (.int el5), .val (.int es7), .val (.int v10), .val (.int v13), .val (.int v28), .val (.int d19), .val (.int d22), .val (.int d31), .val (.int d34), .val (.int d37), .val (.int d40), .val (.int d43), .val (.ref x49), .unset, .unset, .unset, .unset, .unset, .unset, .unset, .unset, .unset, .unset, .unset, .unset, .unset, .unset] [(.int ((48 : Int32) + v28))])) _
      refine XS.iload X50.here hx rfl (hb hby at_159) rfl ?_
      show Steps p.tables e below (T50.setTop (mkF m 161 #[.val (.int p0), .val (.int p1), .val (.int p2), .val (.int p3), .val (.int il1), .val (.int fl3), .val (.int el5), .val (.int es7), .val (.int v10), .val (.int v13), .val (.int v28), .val (.int d19), .val (.int d22), .val (.int d31), .val (.int d34), .val (.int d37), .val (.int d40), .val (.int d43), .val (.ref x49), .unset, .unset, .unset, .unset, .unset, .unset, .unset, .unset, .unset, .unset, .unset, .unset, .unset, .unset] [(.int d19), (.int ((48 : Int32) + v28))])) _
      refine st51 _ ?_
      show Steps p.tables e below (T51.setTop (mkF m 164 #[.val (.int p0), .val (.int p1), .val (.int p2), .val (.int p3), .val (.int il1), .val (.int fl3), .val (.int el5), .val (.int es7), .val (.int v10), .val (.int v13), .val (.int v28), .val (.int d19), .val (.int d22), .val (.int d31), .val (.int d34), .val (.int d37), .val (.int d40), .val (.int d43), .val (.ref x49), .unset, .unset, .unset, .unset, .unset, .unset, .unset, .unset, .unset, .unset, .unset, .unset, .unset, .unset] [(.int ((48 : Int32) + d19)), (.int ((48 : Int32) + v28))])) _
      refine XS.iload X51.here hx rfl (hb hby at_164) rfl ?_
      show Steps p.tables e below (T51.setTop (mkF m 166 #[.val (.int p0), .val (.int p1), .val (.int p2), .val (.int p3), .val (.int il1), .val (.int fl3), .val (.int el5), .val (.int es7), .val (.int v10), .val (.int v13), .val (.int v28), .val (.int d19), .val (.int d22), .val (.int d31), .val (.int d34), .val (.int d37), .val (.int d40), .val (.int d43), .val (.ref x49), .unset, .unset, .unset, .unset, .unset, .unset, .unset, .unset, .unset, .unset, .unset, .unset, .unset, .unset] [(.int d22), (.int ((48 : Int32) + d19)), (.int ((48 : Int32) + v28))])) _
      refine st52 _ ?_
      show Steps p.tables e below (T52.setTop (mkF m 169 #[.val (.int p0), .val (.int p1), .val (.int p2), .val (.int p3), .val (.int il1), .val (.int fl3), .val (.int el5), .val (.int es7), .val (.int v10), .val (.int v13), .val (.int v28), .val (.int d19), .val (.int d22), .val (.int d31), .val (.int d34), .val (.int d37), .val (.int d40), .val (.int d43), .val (.ref x49), .unset, .unset, .unset, .unset, .unset, .unset, .unset, .unset, .unset, .unset, .unset, .unset, .unset, .unset] [(.int ((48 : Int32) + d22)), (.int ((48 : Int32) + d19)), (.int ((48 : Int32) + v28))])) _
      refine XS.bipush X52.here hx rfl (hb hby at_169) ?_
      refine XS.iload X52.here hx rfl (hb hby at_171) rfl ?_
      show Steps p.tables e below (T52.setTop (mkF m 173 #[.val (.int p0), .val (.int p1), .val (.int p2), .val (.int p3), .val (.int il1), .val (.int fl3), .val (.int el5), .val (.int es7), .val (.int v10), .val (.int v13), .val (.int v28), .val (.int d19), .val (.int d22), .val (.int d31), .val (.int d34), .val (.int d37), .val (.int d40), .val (.int d43), .val (.ref x49), .unset, .unset, .unset, .unset, .unset, .unset, .unset, .unset, .unset, .unset, .unset, .unset, .unset, .unset] [(.int il1), (.int (48 : Int32)), (.int ((48 : Int32) + d22)), (.int ((48 : Int32) + d19)), (.int ((48 : Int32) + v28))])) _
      refine st53 _ ?_
      show Steps p.tables e below (T53.setTop (mkF m 176 #[.val (.int p0), .val (.int p1), .val (.int p2), .val (.int p3), .val (.int il1), .val (.int fl3), .val (.int el5), .val (.int es7), .val (.int v10), .val (.int v13), .val (.int v28), .val (.int d19), .val (.int d22), .val (.int d31), .val (.int d34), .val (.int d37), .val (.int d40), .val (.int d43), .val (.ref x49), .unset, .unset, .unset, .unset, .unset, .unset, .unset, .unset, .unset, .unset, .unset, .unset, .unset, .unset] [(.ref x53)])) _
      refine XS.astore X53.here hx rfl (hb hby at_176) rfl rfl (l' := #[.val (.int p0), .val (.int p1), .val (.int p2), .val (.int p3), .val (.int il1), .val (.int fl3), .val (.int el5), .val (.int es7), .val (.int v10), .val (.int v13), .val (.int v28), .val (.int d19), .val (.int d22), .val (.int d31), .val (.int d34), .val (.int d37), .val (.int d40), .val (.int d43), .val (.ref x49), .val (.ref x53), .unset, .unset, .unset, .unset, .unset, .unset, .unset, .unset, .unset, .unset, .unset, .unset, .unset]) rfl ?_
      refine XS.iload X53.here hx rfl (hb hby at_178) rfl ?_
      show Steps p.tables e below (T53.setTop (mkF m 180 #[.val (.int p0), .val (.int p1), .val (.int p2), .val (.int p3), .val (.int il1), .val (.int fl3), .val (.int el5), .val (.int es7), .val (.int v10), .val (.int v13), .val (.int v28), .val (.int d19), .val (.int d22), .val (.int d31), .val (.int d34), .val (.int d37), .val (.int d40), .val (.int d43), .val (.ref x49), .val (.ref x53), .unset, .unset, .unset, .unset, .unset, .unset, .unset, .unset, .unset, .unset, .unset, .unset, .unset] [(.int fl3)])) _
      exact kt
    by_cases hc180 : fl3 = (0 : Int32)
    ·
      have pre56 : ∀ t, Steps p.tables e below (T53.setTop (mkF m 183 #[.val (.int p0), .val (.int p1), .val (.int p2), .val (.int p3), .val (.int il1), .val (.int fl3), .val (.int el5), .val (.int es7), .val (.int v10), .val (.int v13), .val (.int v28), .val (.int d19), .val (.int d22), .val (.int d31), .val (.int d34), .val (.int d37), .val (.int d40), .val (.int d43), .val (.ref x49), .val (.ref x53), .unset, .unset, .unset, .unset, .unset, .unset, .unset, .unset, .unset, .unset, .unset, .unset, .unset] [])) t → Steps p.tables e below (s₁.setTop (entryFrame m #[(.int p0), (.int p1), (.int p2), (.int p3)] maxLocals)) t := by
        intro t kt
        refine pre54 _ ?_
        show Steps p.tables e below (T53.setTop (mkF m 180 #[.val (.int p0), .val (.int p1), .val (.int p2), .val (.int p3), .val (.int il1), .val (.int fl3), .val (.int el5), .val (.int es7), .val (.int v10), .val (.int v13), .val (.int v28), .val (.int d19), .val (.int d22), .val (.int d31), .val (.int d34), .val (.int d37), .val (.int d40), .val (.int d43), .val (.ref x49), .val (.ref x53), .unset, .unset, .unset, .unset, .unset, .unset, .unset, .unset, .unset, .unset, .unset, .unset, .unset] [(.int fl3)])) _
        refine XS.ifNo X53.here hx rfl (hb hby at_180) rfl ((if0 _ _).trans (teq hc180).2) ?_
        show Steps p.tables e below (T53.setTop (mkF m 183 #[.val (.int p0), .val (.int p1), .val (.int p2), .val (.int p3), .val (.int il1), .val (.int fl3), .val (.int el5), .val (.int es7), .val (.int v10), .val (.int v13), .val (.int v28), .val (.int d19), .val (.int d22), .val (.int d31), .val (.int d34), .val (.int d37), .val (.int d40), .val (.int d43), .val (.ref x49), .val (.ref x53), .unset, .unset, .unset, .unset, .unset, .unset, .unset, .unset, .unset, .unset, .unset, .unset, .unset] [])) _
        exact kt
      obtain ⟨v59, hv59⟩ : ∃ z : Int32, z = if es7 = (1 : Int32) then (43 : Int32) else (45 : Int32) := ⟨_, rfl⟩
      have mg60 : ∀ t, Steps p.tables e below (T53.setTop (mkF m 227 #[.val (.int p0), .val (.int p1), .val (.int p2), .val (.int p3), .val (.int il1), .val (.int fl3), .val (.int el5), .val (.int es7), .val (.int v10), .val (.int v13), .val (.int v28), .val (.int d19), .val (.int d22), .val (.int d31), .val (.int d34), .val (.int d37), .val (.int d40), .val (.int d43), .val (.ref x49), .val (.ref x53), .val (.ref x49), .unset, .unset, .unset, .unset, .unset, .unset, .unset, .unset, .unset, .unset, .unset, .unset] [(.int v59)])) t → Steps p.tables e below (T53.setTop (mkF m 217 #[.val (.int p0), .val (.int p1), .val (.int p2), .val (.int p3), .val (.int il1), .val (.int fl3), .val (.int el5), .val (.int es7), .val (.int v10), .val (.int v13), .val (.int v28), .val (.int d19), .val (.int d22), .val (.int d31), .val (.int d34), .val (.int d37), .val (.int d40), .val (.int d43), .val (.ref x49), .val (.ref x53), .val (.ref x49), .unset, .unset, .unset, .unset, .unset, .unset, .unset, .unset, .unset, .unset, .unset, .unset] [(.int (1 : Int32)), (.int es7)])) t := by
        intro t kt
        by_cases hm58 : es7 = (1 : Int32)
        ·
          have ev59 : v59 = (43 : Int32) := by rw [hv59, if_pos hm58]
          rw [ev59] at kt
          refine (fun t (k : Steps p.tables e below (T53.setTop (mkF m 217 #[.val (.int p0), .val (.int p1), .val (.int p2), .val (.int p3), .val (.int il1), .val (.int fl3), .val (.int el5), .val (.int es7), .val (.int v10), .val (.int v13), .val (.int v28), .val (.int d19), .val (.int d22), .val (.int d31), .val (.int d34), .val (.int d37), .val (.int d40), .val (.int d43), .val (.ref x49), .val (.ref x53), .val (.ref x49), .unset, .unset, .unset, .unset, .unset, .unset, .unset, .unset, .unset, .unset, .unset, .unset] [(.int (1 : Int32)), (.int es7)])) t) => k) _ ?_
          refine XS.icmpNo X53.here hx rfl (hb hby at_217) rfl (teq hm58).2 ?_
          refine XS.bipush X53.here hx rfl (hb hby at_220) ?_
          refine XS.goto X53.here hx rfl (pc0 := 222) (pc' := 227) rfl (hb hby at_222) (by decide) (by decide) ?_
          show Steps p.tables e below (T53.setTop (mkF m 227 #[.val (.int p0), .val (.int p1), .val (.int p2), .val (.int p3), .val (.int il1), .val (.int fl3), .val (.int el5), .val (.int es7), .val (.int v10), .val (.int v13), .val (.int v28), .val (.int d19), .val (.int d22), .val (.int d31), .val (.int d34), .val (.int d37), .val (.int d40), .val (.int d43), .val (.ref x49), .val (.ref x53), .val (.ref x49), .unset, .unset, .unset, .unset, .unset, .unset, .unset, .unset, .unset, .unset, .unset, .unset] [(.int (43 : Int32))])) _
          exact kt
        ·
          have ev59 : v59 = (45 : Int32) := by rw [hv59, if_neg hm58]
          rw [ev59] at kt
          refine (fun t (k : Steps p.tables e below (T53.setTop (mkF m 217 #[.val (.int p0), .val (.int p1), .val (.int p2), .val (.int p3), .val (.int il1), .val (.int fl3), .val (.int el5), .val (.int es7), .val (.int v10), .val (.int v13), .val (.int v28), .val (.int d19), .val (.int d22), .val (.int d31), .val (.int d34), .val (.int d37), .val (.int d40), .val (.int d43), .val (.ref x49), .val (.ref x53), .val (.ref x49), .unset, .unset, .unset, .unset, .unset, .unset, .unset, .unset, .unset, .unset, .unset, .unset] [(.int (1 : Int32)), (.int es7)])) t) => k) _ ?_
          refine XS.icmpYes X53.here hx rfl (pc0 := 217) (pc' := 225) rfl (hb hby at_217) rfl (feq hm58).2 (by decide) (by decide) ?_
          refine XS.bipush X53.here hx rfl (hb hby at_225) ?_
          show Steps p.tables e below (T53.setTop (mkF m 227 #[.val (.int p0), .val (.int p1), .val (.int p2), .val (.int p3), .val (.int il1), .val (.int fl3), .val (.int el5), .val (.int es7), .val (.int v10), .val (.int v13), .val (.int v28), .val (.int d19), .val (.int d22), .val (.int d31), .val (.int d34), .val (.int d37), .val (.int d40), .val (.int d43), .val (.ref x49), .val (.ref x53), .val (.ref x49), .unset, .unset, .unset, .unset, .unset, .unset, .unset, .unset, .unset, .unset, .unset, .unset] [(.int (45 : Int32))])) _
          exact kt
      have pre61 : ∀ t, Steps p.tables e below (T53.setTop (mkF m 229 #[.val (.int p0), .val (.int p1), .val (.int p2), .val (.int p3), .val (.int il1), .val (.int fl3), .val (.int el5), .val (.int es7), .val (.int v10), .val (.int v13), .val (.int v28), .val (.int d19), .val (.int d22), .val (.int d31), .val (.int d34), .val (.int d37), .val (.int d40), .val (.int d43), .val (.ref x49), .val (.ref x53), .val (.ref x49), .val (.int v59), .unset, .unset, .unset, .unset, .unset, .unset, .unset, .unset, .unset, .unset, .unset] [])) t → Steps p.tables e below (s₁.setTop (entryFrame m #[(.int p0), (.int p1), (.int p2), (.int p3)] maxLocals)) t := by
        intro t kt
        refine pre56 _ ?_
        show Steps p.tables e below (T53.setTop (mkF m 183 #[.val (.int p0), .val (.int p1), .val (.int p2), .val (.int p3), .val (.int il1), .val (.int fl3), .val (.int el5), .val (.int es7), .val (.int v10), .val (.int v13), .val (.int v28), .val (.int d19), .val (.int d22), .val (.int d31), .val (.int d34), .val (.int d37), .val (.int d40), .val (.int d43), .val (.ref x49), .val (.ref x53), .unset, .unset, .unset, .unset, .unset, .unset, .unset, .unset, .unset, .unset, .unset, .unset, .unset] [])) _
        refine ldcAgain X53 hx hZ hown (hw _ (List.mem_of_getElem? (i := 4) rfl)) lt49 (g := (mkF m 183 #[.val (.int p0), .val (.int p1), .val (.int p2), .val (.int p3), .val (.int il1), .val (.int fl3), .val (.int el5), .val (.int es7), .val (.int v10), .val (.int v13), .val (.int v28), .val (.int d19), .val (.int d22), .val (.int d31), .val (.int d34), .val (.int d37), .val (.int d40), .val (.int d43), .val (.ref x49), .val (.ref x53), .unset, .unset, .unset, .unset, .unset, .unset, .unset, .unset, .unset, .unset, .unset, .unset, .unset] [])) rfl (hb hby at_183) _ ?_
        show Steps p.tables e below (T53.setTop (mkF m 185 #[.val (.int p0), .val (.int p1), .val (.int p2), .val (.int p3), .val (.int il1), .val (.int fl3), .val (.int el5), .val (.int es7), .val (.int v10), .val (.int v13), .val (.int v28), .val (.int d19), .val (.int d22), .val (.int d31), .val (.int d34), .val (.int d37), .val (.int d40), .val (.int d43), .val (.ref x49), .val (.ref x53), .unset, .unset, .unset, .unset, .unset, .unset, .unset, .unset, .unset, .unset, .unset, .unset, .unset] [(.ref x49)])) _
        refine XS.goto X53.here hx rfl (pc0 := 185) (pc' := 212) rfl (hb hby at_185) (by decide) (by decide) ?_
        refine XS.astore X53.here hx rfl (hb hby at_212) rfl rfl (l' := #[.val (.int p0), .val (.int p1), .val (.int p2), .val (.int p3), .val (.int il1), .val (.int fl3), .val (.int el5), .val (.int es7), .val (.int v10), .val (.int v13), .val (.int v28), .val (.int d19), .val (.int d22), .val (.int d31), .val (.int d34), .val (.int d37), .val (.int d40), .val (.int d43), .val (.ref x49), .val (.ref x53), .val (.ref x49), .unset, .unset, .unset, .unset, .unset, .unset, .unset, .unset, .unset, .unset, .unset, .unset]) rfl ?_
        refine XS.iload X53.here hx rfl (hb hby at_214) rfl ?_
        show Steps p.tables e below (T53.setTop (mkF m 216 #[.val (.int p0), .val (.int p1), .val (.int p2), .val (.int p3), .val (.int il1), .val (.int fl3), .val (.int el5), .val (.int es7), .val (.int v10), .val (.int v13), .val (.int v28), .val (.int d19), .val (.int d22), .val (.int d31), .val (.int d34), .val (.int d37), .val (.int d40), .val (.int d43), .val (.ref x49), .val (.ref x53), .val (.ref x49), .unset, .unset, .unset, .unset, .unset, .unset, .unset, .unset, .unset, .unset, .unset, .unset] [(.int es7)])) _
        refine XS.iconst X53.here hx rfl (hb hby at_216) ?_
        show Steps p.tables e below (T53.setTop (mkF m 217 #[.val (.int p0), .val (.int p1), .val (.int p2), .val (.int p3), .val (.int il1), .val (.int fl3), .val (.int el5), .val (.int es7), .val (.int v10), .val (.int v13), .val (.int v28), .val (.int d19), .val (.int d22), .val (.int d31), .val (.int d34), .val (.int d37), .val (.int d40), .val (.int d43), .val (.ref x49), .val (.ref x53), .val (.ref x49), .unset, .unset, .unset, .unset, .unset, .unset, .unset, .unset, .unset, .unset, .unset, .unset] [(.int (1 : Int32)), (.int es7)])) _
        refine mg60 _ ?_
        show Steps p.tables e below (T53.setTop (mkF m 227 #[.val (.int p0), .val (.int p1), .val (.int p2), .val (.int p3), .val (.int il1), .val (.int fl3), .val (.int el5), .val (.int es7), .val (.int v10), .val (.int v13), .val (.int v28), .val (.int d19), .val (.int d22), .val (.int d31), .val (.int d34), .val (.int d37), .val (.int d40), .val (.int d43), .val (.ref x49), .val (.ref x53), .val (.ref x49), .unset, .unset, .unset, .unset, .unset, .unset, .unset, .unset, .unset, .unset, .unset, .unset] [(.int v59)])) _
        refine XS.istore X53.here hx rfl (hb hby at_227) rfl (l' := #[.val (.int p0), .val (.int p1), .val (.int p2), .val (.int p3), .val (.int il1), .val (.int fl3), .val (.int el5), .val (.int es7), .val (.int v10), .val (.int v13), .val (.int v28), .val (.int d19), .val (.int d22), .val (.int d31), .val (.int d34), .val (.int d37), .val (.int d40), .val (.int d43), .val (.ref x49), .val (.ref x53), .val (.ref x49), .val (.int v59), .unset, .unset, .unset, .unset, .unset, .unset, .unset, .unset, .unset, .unset, .unset]) rfl ?_
        show Steps p.tables e below (T53.setTop (mkF m 229 #[.val (.int p0), .val (.int p1), .val (.int p2), .val (.int p3), .val (.int il1), .val (.int fl3), .val (.int el5), .val (.int es7), .val (.int v10), .val (.int v13), .val (.int v28), .val (.int d19), .val (.int d22), .val (.int d31), .val (.int d34), .val (.int d37), .val (.int d40), .val (.int d43), .val (.ref x49), .val (.ref x53), .val (.ref x49), .val (.int v59), .unset, .unset, .unset, .unset, .unset, .unset, .unset, .unset, .unset, .unset, .unset] [])) _
        exact kt
      have ksc : own_c255 v59 := by rw [hv59]; split <;> exact ⟨by decide, by decide⟩
      have pre62 : ∀ t, Steps p.tables e below (T53.setTop (mkF m 231 #[.val (.int p0), .val (.int p1), .val (.int p2), .val (.int p3), .val (.int il1), .val (.int fl3), .val (.int el5), .val (.int es7), .val (.int v10), .val (.int v13), .val (.int v28), .val (.int d19), .val (.int d22), .val (.int d31), .val (.int d34), .val (.int d37), .val (.int d40), .val (.int d43), .val (.ref x49), .val (.ref x53), .val (.ref x49), .val (.int v59), .unset, .unset, .unset, .unset, .unset, .unset, .unset, .unset, .unset, .unset, .unset] [(.int el5)])) t → Steps p.tables e below (s₁.setTop (entryFrame m #[(.int p0), (.int p1), (.int p2), (.int p3)] maxLocals)) t := by
        intro t kt
        refine pre61 _ ?_
        show Steps p.tables e below (T53.setTop (mkF m 229 #[.val (.int p0), .val (.int p1), .val (.int p2), .val (.int p3), .val (.int il1), .val (.int fl3), .val (.int el5), .val (.int es7), .val (.int v10), .val (.int v13), .val (.int v28), .val (.int d19), .val (.int d22), .val (.int d31), .val (.int d34), .val (.int d37), .val (.int d40), .val (.int d43), .val (.ref x49), .val (.ref x53), .val (.ref x49), .val (.int v59), .unset, .unset, .unset, .unset, .unset, .unset, .unset, .unset, .unset, .unset, .unset] [])) _
        refine XS.iload X53.here hx rfl (hb hby at_229) rfl ?_
        show Steps p.tables e below (T53.setTop (mkF m 231 #[.val (.int p0), .val (.int p1), .val (.int p2), .val (.int p3), .val (.int il1), .val (.int fl3), .val (.int el5), .val (.int es7), .val (.int v10), .val (.int v13), .val (.int v28), .val (.int d19), .val (.int d22), .val (.int d31), .val (.int d34), .val (.int d37), .val (.int d40), .val (.int d43), .val (.ref x49), .val (.ref x53), .val (.ref x49), .val (.int v59), .unset, .unset, .unset, .unset, .unset, .unset, .unset, .unset, .unset, .unset, .unset] [(.int el5)])) _
        exact kt
      by_cases hc231 : el5 = (0 : Int32)
      ·
        have pre64 : ∀ t, Steps p.tables e below (T53.setTop (mkF m 234 #[.val (.int p0), .val (.int p1), .val (.int p2), .val (.int p3), .val (.int il1), .val (.int fl3), .val (.int el5), .val (.int es7), .val (.int v10), .val (.int v13), .val (.int v28), .val (.int d19), .val (.int d22), .val (.int d31), .val (.int d34), .val (.int d37), .val (.int d40), .val (.int d43), .val (.ref x49), .val (.ref x53), .val (.ref x49), .val (.int v59), .unset, .unset, .unset, .unset, .unset, .unset, .unset, .unset, .unset, .unset, .unset] [])) t → Steps p.tables e below (s₁.setTop (entryFrame m #[(.int p0), (.int p1), (.int p2), (.int p3)] maxLocals)) t := by
          intro t kt
          refine pre62 _ ?_
          show Steps p.tables e below (T53.setTop (mkF m 231 #[.val (.int p0), .val (.int p1), .val (.int p2), .val (.int p3), .val (.int il1), .val (.int fl3), .val (.int el5), .val (.int es7), .val (.int v10), .val (.int v13), .val (.int v28), .val (.int d19), .val (.int d22), .val (.int d31), .val (.int d34), .val (.int d37), .val (.int d40), .val (.int d43), .val (.ref x49), .val (.ref x53), .val (.ref x49), .val (.int v59), .unset, .unset, .unset, .unset, .unset, .unset, .unset, .unset, .unset, .unset, .unset] [(.int el5)])) _
          refine XS.ifNo X53.here hx rfl (hb hby at_231) rfl ((if0 _ _).trans (teq hc231).2) ?_
          show Steps p.tables e below (T53.setTop (mkF m 234 #[.val (.int p0), .val (.int p1), .val (.int p2), .val (.int p3), .val (.int il1), .val (.int fl3), .val (.int el5), .val (.int es7), .val (.int v10), .val (.int v13), .val (.int v28), .val (.int d19), .val (.int d22), .val (.int d31), .val (.int d34), .val (.int d37), .val (.int d40), .val (.int d43), .val (.ref x49), .val (.ref x53), .val (.ref x49), .val (.int v59), .unset, .unset, .unset, .unset, .unset, .unset, .unset, .unset, .unset, .unset, .unset] [])) _
          exact kt
        have hk66 : el5 = (0 : Int32) := hc231
        have pre67 : ∀ t, Steps p.tables e below (T53.setTop (mkF m 277 #[.val (.int p0), .val (.int p1), .val (.int p2), .val (.int p3), .val (.int il1), .val (.int fl3), .val (.int el5), .val (.int es7), .val (.int v10), .val (.int v13), .val (.int v28), .val (.int d19), .val (.int d22), .val (.int d31), .val (.int d34), .val (.int d37), .val (.int d40), .val (.int d43), .val (.ref x49), .val (.ref x53), .val (.ref x49), .val (.int v59), .val (.ref x49), .unset, .unset, .unset, .unset, .unset, .unset, .unset, .unset, .unset, .unset] [])) t → Steps p.tables e below (s₁.setTop (entryFrame m #[(.int p0), (.int p1), (.int p2), (.int p3)] maxLocals)) t := by
          intro t kt
          refine pre64 _ ?_
          show Steps p.tables e below (T53.setTop (mkF m 234 #[.val (.int p0), .val (.int p1), .val (.int p2), .val (.int p3), .val (.int il1), .val (.int fl3), .val (.int el5), .val (.int es7), .val (.int v10), .val (.int v13), .val (.int v28), .val (.int d19), .val (.int d22), .val (.int d31), .val (.int d34), .val (.int d37), .val (.int d40), .val (.int d43), .val (.ref x49), .val (.ref x53), .val (.ref x49), .val (.int v59), .unset, .unset, .unset, .unset, .unset, .unset, .unset, .unset, .unset, .unset, .unset] [])) _
          refine ldcAgain X53 hx hZ hown (hw _ (List.mem_of_getElem? (i := 4) rfl)) lt49 (g := (mkF m 234 #[.val (.int p0), .val (.int p1), .val (.int p2), .val (.int p3), .val (.int il1), .val (.int fl3), .val (.int el5), .val (.int es7), .val (.int v10), .val (.int v13), .val (.int v28), .val (.int d19), .val (.int d22), .val (.int d31), .val (.int d34), .val (.int d37), .val (.int d40), .val (.int d43), .val (.ref x49), .val (.ref x53), .val (.ref x49), .val (.int v59), .unset, .unset, .unset, .unset, .unset, .unset, .unset, .unset, .unset, .unset, .unset] [])) rfl (hb hby at_234) _ ?_
          show Steps p.tables e below (T53.setTop (mkF m 236 #[.val (.int p0), .val (.int p1), .val (.int p2), .val (.int p3), .val (.int il1), .val (.int fl3), .val (.int el5), .val (.int es7), .val (.int v10), .val (.int v13), .val (.int v28), .val (.int d19), .val (.int d22), .val (.int d31), .val (.int d34), .val (.int d37), .val (.int d40), .val (.int d43), .val (.ref x49), .val (.ref x53), .val (.ref x49), .val (.int v59), .unset, .unset, .unset, .unset, .unset, .unset, .unset, .unset, .unset, .unset, .unset] [(.ref x49)])) _
          refine XS.goto X53.here hx rfl (pc0 := 236) (pc' := 270) rfl (hb hby at_236) (by decide) (by decide) ?_
          refine XS.astore X53.here hx rfl (hb hby at_270) rfl rfl (l' := #[.val (.int p0), .val (.int p1), .val (.int p2), .val (.int p3), .val (.int il1), .val (.int fl3), .val (.int el5), .val (.int es7), .val (.int v10), .val (.int v13), .val (.int v28), .val (.int d19), .val (.int d22), .val (.int d31), .val (.int d34), .val (.int d37), .val (.int d40), .val (.int d43), .val (.ref x49), .val (.ref x53), .val (.ref x49), .val (.int v59), .val (.ref x49), .unset, .unset, .unset, .unset, .unset, .unset, .unset, .unset, .unset, .unset]) rfl ?_
          refine XS.iload X53.here hx rfl (hb hby at_272) rfl ?_
          show Steps p.tables e below (T53.setTop (mkF m 274 #[.val (.int p0), .val (.int p1), .val (.int p2), .val (.int p3), .val (.int il1), .val (.int fl3), .val (.int el5), .val (.int es7), .val (.int v10), .val (.int v13), .val (.int v28), .val (.int d19), .val (.int d22), .val (.int d31), .val (.int d34), .val (.int d37), .val (.int d40), .val (.int d43), .val (.ref x49), .val (.ref x53), .val (.ref x49), .val (.int v59), .val (.ref x49), .unset, .unset, .unset, .unset, .unset, .unset, .unset, .unset, .unset, .unset] [(.int el5)])) _
          refine XS.ifNo X53.here hx rfl (hb hby at_274) rfl ((if0 _ _).trans (teq hk66).2) ?_
          show Steps p.tables e below (T53.setTop (mkF m 277 #[.val (.int p0), .val (.int p1), .val (.int p2), .val (.int p3), .val (.int il1), .val (.int fl3), .val (.int el5), .val (.int es7), .val (.int v10), .val (.int v13), .val (.int v28), .val (.int d19), .val (.int d22), .val (.int d31), .val (.int d34), .val (.int d37), .val (.int d40), .val (.int d43), .val (.ref x49), .val (.ref x53), .val (.ref x49), .val (.int v59), .val (.ref x49), .unset, .unset, .unset, .unset, .unset, .unset, .unset, .unset, .unset, .unset] [])) _
          exact kt
        have c69 := (own_strP (own_strE (own_strE (own_strE xs49 E50) E51) E52) kq53)
        have pre70 : ∀ t, Steps p.tables e below (T53.setTop (mkF m 303 #[.val (.int p0), .val (.int p1), .val (.int p2), .val (.int p3), .val (.int il1), .val (.int fl3), .val (.int el5), .val (.int es7), .val (.int v10), .val (.int v13), .val (.int v28), .val (.int d19), .val (.int d22), .val (.int d31), .val (.int d34), .val (.int d37), .val (.int d40), .val (.int d43), .val (.ref x49), .val (.ref x53), .val (.ref x49), .val (.int v59), .val (.ref x49), .val (.ref x49), .unset, .unset, .unset, .unset, .unset, .unset, .unset, .unset, .unset] [])) t → Steps p.tables e below (s₁.setTop (entryFrame m #[(.int p0), (.int p1), (.int p2), (.int p3)] maxLocals)) t := by
          intro t kt
          refine pre67 _ ?_
          show Steps p.tables e below (T53.setTop (mkF m 277 #[.val (.int p0), .val (.int p1), .val (.int p2), .val (.int p3), .val (.int il1), .val (.int fl3), .val (.int el5), .val (.int es7), .val (.int v10), .val (.int v13), .val (.int v28), .val (.int d19), .val (.int d22), .val (.int d31), .val (.int d34), .val (.int d37), .val (.int d40), .val (.int d43), .val (.ref x49), .val (.ref x53), .val (.ref x49), .val (.int v59), .val (.ref x49), .unset, .unset, .unset, .unset, .unset, .unset, .unset, .unset, .unset, .unset] [])) _
          refine ldcAgain X53 hx hZ hown (hw _ (List.mem_of_getElem? (i := 4) rfl)) lt49 (g := (mkF m 277 #[.val (.int p0), .val (.int p1), .val (.int p2), .val (.int p3), .val (.int il1), .val (.int fl3), .val (.int el5), .val (.int es7), .val (.int v10), .val (.int v13), .val (.int v28), .val (.int d19), .val (.int d22), .val (.int d31), .val (.int d34), .val (.int d37), .val (.int d40), .val (.int d43), .val (.ref x49), .val (.ref x53), .val (.ref x49), .val (.int v59), .val (.ref x49), .unset, .unset, .unset, .unset, .unset, .unset, .unset, .unset, .unset, .unset] [])) rfl (hb hby at_277) _ ?_
          show Steps p.tables e below (T53.setTop (mkF m 279 #[.val (.int p0), .val (.int p1), .val (.int p2), .val (.int p3), .val (.int il1), .val (.int fl3), .val (.int el5), .val (.int es7), .val (.int v10), .val (.int v13), .val (.int v28), .val (.int d19), .val (.int d22), .val (.int d31), .val (.int d34), .val (.int d37), .val (.int d40), .val (.int d43), .val (.ref x49), .val (.ref x53), .val (.ref x49), .val (.int v59), .val (.ref x49), .unset, .unset, .unset, .unset, .unset, .unset, .unset, .unset, .unset, .unset] [(.ref x49)])) _
          refine XS.goto X53.here hx rfl (pc0 := 279) (pc' := 301) rfl (hb hby at_279) (by decide) (by decide) ?_
          refine XS.astore X53.here hx rfl (hb hby at_301) rfl rfl (l' := #[.val (.int p0), .val (.int p1), .val (.int p2), .val (.int p3), .val (.int il1), .val (.int fl3), .val (.int el5), .val (.int es7), .val (.int v10), .val (.int v13), .val (.int v28), .val (.int d19), .val (.int d22), .val (.int d31), .val (.int d34), .val (.int d37), .val (.int d40), .val (.int d43), .val (.ref x49), .val (.ref x53), .val (.ref x49), .val (.int v59), .val (.ref x49), .val (.ref x49), .unset, .unset, .unset, .unset, .unset, .unset, .unset, .unset, .unset]) rfl ?_
          show Steps p.tables e below (T53.setTop (mkF m 303 #[.val (.int p0), .val (.int p1), .val (.int p2), .val (.int p3), .val (.int il1), .val (.int fl3), .val (.int el5), .val (.int es7), .val (.int v10), .val (.int v13), .val (.int v28), .val (.int d19), .val (.int d22), .val (.int d31), .val (.int d34), .val (.int d37), .val (.int d40), .val (.int d43), .val (.ref x49), .val (.ref x53), .val (.ref x49), .val (.int v59), .val (.ref x49), .val (.ref x49), .unset, .unset, .unset, .unset, .unset, .unset, .unset, .unset, .unset] [])) _
          exact kt
        have HL := own_main kil kfl kel kes d9v28 d9d19 d9d22 d9d31 d9d34 d9d37 d9d40 d9d43 (up := (69 : Int32)) (sc := v59) (Or.inl rfl) hv59 (cs1 := []) (cs3 := []) (cs4 := []) (cs5 := []) (Or.inl rfl) (by rw [if_pos hc180]) (by rw [if_pos hc231]) (by rw [if_pos hc231])
        have OLDz : Old Z n0 T53.heap := OLD0.keep K53 all0
        obtain ⟨Lh, Xh, Nh⟩ := own_hide X53 N53 (C := 30) (S := 2000) (Nat.le_of_ble_eq_true rfl) (Nat.le_of_ble_eq_true rfl)
        obtain ⟨T2, Ls, L2, X2, N2, hz2, st2⟩ := own_tail Xh hx hZ hw hby hml hown rfl Nh (Nat.le_trans Z0 K53.1) OLDz SCS P5 SSI rfm c69 xs53 c69 c69 c69 own_lm0 (own_takeC (own_c48 d9v28) (own_c48 d9d19) (own_c48 d9d22) own_l48) own_lm0 own_lm0 own_lm0 (by decide) (own_takeL _ _ _ _ _) (by decide) (by decide) (by decide) HL (p0 := p0) (p1 := p1) (p2 := p2) (p3 := p3) (up := v10) (ng := v13) (sc := v59)
        obtain ⟨fs, hr, hrun, hended, hW⟩ := X2.leaveW hS49 (Nat.le_trans (Nat.le_trans (Nat.le_trans (Nat.le_trans (Nat.le_trans hk49 E50.1) E51.1) E52.1) kq53.1) hz2) (v := some (.int (1 : Int32))) (fun h => by rw [Bd.returns] at h; cases h)
        exact ⟨_, _, pre70 _ (st2 _ (retN X2 hx (t := .boolean) Bd.returns (by simp) (hb hby at_564) hr)), hrun, hended, _, _, rfl, ⟨rfl, N2⟩, hW⟩
      ·
        obtain ⟨v72, hv72⟩ : ∃ z : Int32, z = if v10 = (0 : Int32) then (101 : Int32) else (69 : Int32) := ⟨_, rfl⟩
        have mg73 : ∀ t, Steps p.tables e below (T53.setTop (mkF m 251 #[.val (.int p0), .val (.int p1), .val (.int p2), .val (.int p3), .val (.int il1), .val (.int fl3), .val (.int el5), .val (.int es7), .val (.int v10), .val (.int v13), .val (.int v28), .val (.int d19), .val (.int d22), .val (.int d31), .val (.int d34), .val (.int d37), .val (.int d40), .val (.int d43), .val (.ref x49), .val (.ref x53), .val (.ref x49), .val (.int v59), .unset, .unset, .unset, .unset, .unset, .unset, .unset, .unset, .unset, .unset, .unset] [(.int v72)])) t → Steps p.tables e below (T53.setTop (mkF m 241 #[.val (.int p0), .val (.int p1), .val (.int p2), .val (.int p3), .val (.int il1), .val (.int fl3), .val (.int el5), .val (.int es7), .val (.int v10), .val (.int v13), .val (.int v28), .val (.int d19), .val (.int d22), .val (.int d31), .val (.int d34), .val (.int d37), .val (.int d40), .val (.int d43), .val (.ref x49), .val (.ref x53), .val (.ref x49), .val (.int v59), .unset, .unset, .unset, .unset, .unset, .unset, .unset, .unset, .unset, .unset, .unset] [(.int v10)])) t := by
          intro t kt
          by_cases hm71 : v10 = (0 : Int32)
          ·
            have ev72 : v72 = (101 : Int32) := by rw [hv72, if_pos hm71]
            rw [ev72] at kt
            refine (fun t (k : Steps p.tables e below (T53.setTop (mkF m 241 #[.val (.int p0), .val (.int p1), .val (.int p2), .val (.int p3), .val (.int il1), .val (.int fl3), .val (.int el5), .val (.int es7), .val (.int v10), .val (.int v13), .val (.int v28), .val (.int d19), .val (.int d22), .val (.int d31), .val (.int d34), .val (.int d37), .val (.int d40), .val (.int d43), .val (.ref x49), .val (.ref x53), .val (.ref x49), .val (.int v59), .unset, .unset, .unset, .unset, .unset, .unset, .unset, .unset, .unset, .unset, .unset] [(.int v10)])) t) => k) _ ?_
            refine XS.ifYes X53.here hx rfl (pc0 := 241) (pc' := 249) rfl (hb hby at_241) rfl ((if0 _ _).trans (teq hm71).1) (by decide) (by decide) ?_
            refine XS.bipush X53.here hx rfl (hb hby at_249) ?_
            show Steps p.tables e below (T53.setTop (mkF m 251 #[.val (.int p0), .val (.int p1), .val (.int p2), .val (.int p3), .val (.int il1), .val (.int fl3), .val (.int el5), .val (.int es7), .val (.int v10), .val (.int v13), .val (.int v28), .val (.int d19), .val (.int d22), .val (.int d31), .val (.int d34), .val (.int d37), .val (.int d40), .val (.int d43), .val (.ref x49), .val (.ref x53), .val (.ref x49), .val (.int v59), .unset, .unset, .unset, .unset, .unset, .unset, .unset, .unset, .unset, .unset, .unset] [(.int (101 : Int32))])) _
            exact kt
          ·
            have ev72 : v72 = (69 : Int32) := by rw [hv72, if_neg hm71]
            rw [ev72] at kt
            refine (fun t (k : Steps p.tables e below (T53.setTop (mkF m 241 #[.val (.int p0), .val (.int p1), .val (.int p2), .val (.int p3), .val (.int il1), .val (.int fl3), .val (.int el5), .val (.int es7), .val (.int v10), .val (.int v13), .val (.int v28), .val (.int d19), .val (.int d22), .val (.int d31), .val (.int d34), .val (.int d37), .val (.int d40), .val (.int d43), .val (.ref x49), .val (.ref x53), .val (.ref x49), .val (.int v59), .unset, .unset, .unset, .unset, .unset, .unset, .unset, .unset, .unset, .unset, .unset] [(.int v10)])) t) => k) _ ?_
            refine XS.ifNo X53.here hx rfl (hb hby at_241) rfl ((if0 _ _).trans (feq hm71).1) ?_
            refine XS.bipush X53.here hx rfl (hb hby at_244) ?_
            refine XS.goto X53.here hx rfl (pc0 := 246) (pc' := 251) rfl (hb hby at_246) (by decide) (by decide) ?_
            show Steps p.tables e below (T53.setTop (mkF m 251 #[.val (.int p0), .val (.int p1), .val (.int p2), .val (.int p3), .val (.int il1), .val (.int fl3), .val (.int el5), .val (.int es7), .val (.int v10), .val (.int v13), .val (.int v28), .val (.int d19), .val (.int d22), .val (.int d31), .val (.int d34), .val (.int d37), .val (.int d40), .val (.int d43), .val (.ref x49), .val (.ref x53), .val (.ref x49), .val (.int v59), .unset, .unset, .unset, .unset, .unset, .unset, .unset, .unset, .unset, .unset, .unset] [(.int (69 : Int32))])) _
            exact kt
        have pre74 : ∀ t, Steps p.tables e below (T53.setTop (mkF m 251 #[.val (.int p0), .val (.int p1), .val (.int p2), .val (.int p3), .val (.int il1), .val (.int fl3), .val (.int el5), .val (.int es7), .val (.int v10), .val (.int v13), .val (.int v28), .val (.int d19), .val (.int d22), .val (.int d31), .val (.int d34), .val (.int d37), .val (.int d40), .val (.int d43), .val (.ref x49), .val (.ref x53), .val (.ref x49), .val (.int v59), .unset, .unset, .unset, .unset, .unset, .unset, .unset, .unset, .unset, .unset, .unset] [(.int v72)])) t → Steps p.tables e below (s₁.setTop (entryFrame m #[(.int p0), (.int p1), (.int p2), (.int p3)] maxLocals)) t := by
          intro t kt
          refine pre62 _ ?_
          show Steps p.tables e below (T53.setTop (mkF m 231 #[.val (.int p0), .val (.int p1), .val (.int p2), .val (.int p3), .val (.int il1), .val (.int fl3), .val (.int el5), .val (.int es7), .val (.int v10), .val (.int v13), .val (.int v28), .val (.int d19), .val (.int d22), .val (.int d31), .val (.int d34), .val (.int d37), .val (.int d40), .val (.int d43), .val (.ref x49), .val (.ref x53), .val (.ref x49), .val (.int v59), .unset, .unset, .unset, .unset, .unset, .unset, .unset, .unset, .unset, .unset, .unset] [(.int el5)])) _
          refine XS.ifYes X53.here hx rfl (pc0 := 231) (pc' := 239) rfl (hb hby at_231) rfl ((if0 _ _).trans (feq hc231).2) (by decide) (by decide) ?_
          refine XS.iload X53.here hx rfl (hb hby at_239) rfl ?_
          show Steps p.tables e below (T53.setTop (mkF m 241 #[.val (.int p0), .val (.int p1), .val (.int p2), .val (.int p3), .val (.int il1), .val (.int fl3), .val (.int el5), .val (.int es7), .val (.int v10), .val (.int v13), .val (.int v28), .val (.int d19), .val (.int d22), .val (.int d31), .val (.int d34), .val (.int d37), .val (.int d40), .val (.int d43), .val (.ref x49), .val (.ref x53), .val (.ref x49), .val (.int v59), .unset, .unset, .unset, .unset, .unset, .unset, .unset, .unset, .unset, .unset, .unset] [(.int v10)])) _
          refine mg73 _ ?_
          show Steps p.tables e below (T53.setTop (mkF m 251 #[.val (.int p0), .val (.int p1), .val (.int p2), .val (.int p3), .val (.int il1), .val (.int fl3), .val (.int el5), .val (.int es7), .val (.int v10), .val (.int v13), .val (.int v28), .val (.int d19), .val (.int d22), .val (.int d31), .val (.int d34), .val (.int d37), .val (.int d40), .val (.int d43), .val (.ref x49), .val (.ref x53), .val (.ref x49), .val (.int v59), .unset, .unset, .unset, .unset, .unset, .unset, .unset, .unset, .unset, .unset, .unset] [(.int v72)])) _
          exact kt
        have kup : v72 = (69 : Int32) ∨ v72 = (101 : Int32) := by rw [hv72]; split <;> simp
        have kuc : own_c255 v72 := by rcases kup with q | q <;> rw [q] <;> exact ⟨by decide, by decide⟩
        obtain ⟨v76, hv76⟩ : ∃ z : Int32, z = if es7 = (0 : Int32) then (1 : Int32) else (2 : Int32) := ⟨_, rfl⟩
        have mg77 : ∀ t, Steps p.tables e below (T53.setTop (mkF m 267 #[.val (.int p0), .val (.int p1), .val (.int p2), .val (.int p3), .val (.int il1), .val (.int fl3), .val (.int el5), .val (.int es7), .val (.int v10), .val (.int v13), .val (.int v28), .val (.int d19), .val (.int d22), .val (.int d31), .val (.int d34), .val (.int d37), .val (.int d40), .val (.int d43), .val (.ref x49), .val (.ref x53), .val (.ref x49), .val (.int v59), .unset, .unset, .unset, .unset, .unset, .unset, .unset, .unset, .unset, .unset, .unset] [(.int v76), (.int (48 : Int32)), (.int (48 : Int32)), (.int v59), (.int v72)])) t → Steps p.tables e below (T53.setTop (mkF m 259 #[.val (.int p0), .val (.int p1), .val (.int p2), .val (.int p3), .val (.int il1), .val (.int fl3), .val (.int el5), .val (.int es7), .val (.int v10), .val (.int v13), .val (.int v28), .val (.int d19), .val (.int d22), .val (.int d31), .val (.int d34), .val (.int d37), .val (.int d40), .val (.int d43), .val (.ref x49), .val (.ref x53), .val (.ref x49), .val (.int v59), .unset, .unset, .unset, .unset, .unset, .unset, .unset, .unset, .unset, .unset, .unset] [(.int es7), (.int (48 : Int32)), (.int (48 : Int32)), (.int v59), (.int v72)])) t := by
          intro t kt
          by_cases hm75 : es7 = (0 : Int32)
          ·
            have ev76 : v76 = (1 : Int32) := by rw [hv76, if_pos hm75]
            rw [ev76] at kt
            refine (fun t (k : Steps p.tables e below (T53.setTop (mkF m 259 #[.val (.int p0), .val (.int p1), .val (.int p2), .val (.int p3), .val (.int il1), .val (.int fl3), .val (.int el5), .val (.int es7), .val (.int v10), .val (.int v13), .val (.int v28), .val (.int d19), .val (.int d22), .val (.int d31), .val (.int d34), .val (.int d37), .val (.int d40), .val (.int d43), .val (.ref x49), .val (.ref x53), .val (.ref x49), .val (.int v59), .unset, .unset, .unset, .unset, .unset, .unset, .unset, .unset, .unset, .unset, .unset] [(.int es7), (.int (48 : Int32)), (.int (48 : Int32)), (.int v59), (.int v72)])) t) => k) _ ?_
            refine XS.ifNo X53.here hx rfl (hb hby at_259) rfl ((if0 _ _).trans (teq hm75).2) ?_
            refine XS.iconst X53.here hx rfl (hb hby at_262) ?_
            refine XS.goto X53.here hx rfl (pc0 := 263) (pc' := 267) rfl (hb hby at_263) (by decide) (by decide) ?_
            show Steps p.tables e below (T53.setTop (mkF m 267 #[.val (.int p0), .val (.int p1), .val (.int p2), .val (.int p3), .val (.int il1), .val (.int fl3), .val (.int el5), .val (.int es7), .val (.int v10), .val (.int v13), .val (.int v28), .val (.int d19), .val (.int d22), .val (.int d31), .val (.int d34), .val (.int d37), .val (.int d40), .val (.int d43), .val (.ref x49), .val (.ref x53), .val (.ref x49), .val (.int v59), .unset, .unset, .unset, .unset, .unset, .unset, .unset, .unset, .unset, .unset, .unset] [(.int (1 : Int32)), (.int (48 : Int32)), (.int (48 : Int32)), (.int v59), (.int v72)])) _
            exact kt
          ·
            have ev76 : v76 = (2 : Int32) := by rw [hv76, if_neg hm75]
            rw [ev76] at kt
            refine (fun t (k : Steps p.tables e below (T53.setTop (mkF m 259 #[.val (.int p0), .val (.int p1), .val (.int p2), .val (.int p3), .val (.int il1), .val (.int fl3), .val (.int el5), .val (.int es7), .val (.int v10), .val (.int v13), .val (.int v28), .val (.int d19), .val (.int d22), .val (.int d31), .val (.int d34), .val (.int d37), .val (.int d40), .val (.int d43), .val (.ref x49), .val (.ref x53), .val (.ref x49), .val (.int v59), .unset, .unset, .unset, .unset, .unset, .unset, .unset, .unset, .unset, .unset, .unset] [(.int es7), (.int (48 : Int32)), (.int (48 : Int32)), (.int v59), (.int v72)])) t) => k) _ ?_
            refine XS.ifYes X53.here hx rfl (pc0 := 259) (pc' := 266) rfl (hb hby at_259) rfl ((if0 _ _).trans (feq hm75).2) (by decide) (by decide) ?_
            refine XS.iconst X53.here hx rfl (hb hby at_266) ?_
            show Steps p.tables e below (T53.setTop (mkF m 267 #[.val (.int p0), .val (.int p1), .val (.int p2), .val (.int p3), .val (.int il1), .val (.int fl3), .val (.int el5), .val (.int es7), .val (.int v10), .val (.int v13), .val (.int v28), .val (.int d19), .val (.int d22), .val (.int d31), .val (.int d34), .val (.int d37), .val (.int d40), .val (.int d43), .val (.ref x49), .val (.ref x53), .val (.ref x49), .val (.int v59), .unset, .unset, .unset, .unset, .unset, .unset, .unset, .unset, .unset, .unset, .unset] [(.int (2 : Int32)), (.int (48 : Int32)), (.int (48 : Int32)), (.int v59), (.int v72)])) _
            exact kt
        have OLD78 : Old Z n0 T53.heap := OLD0.keep K53 all0
        obtain ⟨_, _, ⟨T78, L78, k78, n78⟩, -, X78, ⟨Lc78, hQ78, l78, y78, z78⟩, st78⟩ := Jvm.LawKit.callS X53 hx (y := (⟨"com/example/reed/reed/engine/IntegralityIsIntegerPinLaw", "text", "(CCCCI)Ljava/lang/String;"⟩ : MethodName)) hown (mvT hZ (hw _ (List.mem_of_getElem? (i := 15) rfl))) (mvT hZ (hw _ (List.mem_of_getElem? (i := 16) rfl))) (mvT hZ (hw _ (List.mem_of_getElem? (i := 2) rfl))) (mvT hZ (hw _ (List.mem_of_getElem? (i := 17) rfl))) (by decide) (backOf (W := 0) (rm3 l Z a0 hw [] v72 v59 (48 : Int32) (48 : Int32) v76 G1 T53.heap n0 (Nat.le_trans Z0 K53.1) OLD78 SCS P5 kuc ksc own_l48 own_l48) hZ (hw _ (List.mem_of_getElem? (i := 17) rfl)) (hw _ (List.mem_of_getElem? (i := 2) rfl)) (by decide) (by decide)) (g := (mkF m 267 #[.val (.int p0), .val (.int p1), .val (.int p2), .val (.int p3), .val (.int il1), .val (.int fl3), .val (.int el5), .val (.int es7), .val (.int v10), .val (.int v13), .val (.int v28), .val (.int d19), .val (.int d22), .val (.int d31), .val (.int d34), .val (.int d37), .val (.int d40), .val (.int d43), .val (.ref x49), .val (.ref x53), .val (.ref x49), .val (.int v59), .unset, .unset, .unset, .unset, .unset, .unset, .unset, .unset, .unset, .unset, .unset] [(.int v76), (.int (48 : Int32)), (.int (48 : Int32)), (.int v59), (.int v72)])) rfl (by rw [hml]; rfl) (argsL := [(.int v72), (.int v59), (.int (48 : Int32)), (.int (48 : Int32)), (.int v76)]) (rest := []) (lenOf pd__CCCCI_Ljava_lang_String_ rfl) rfl (by show 2 * 0 + _ ≤ _; exact Nat.le_of_eq rfl) (hb hby at_267) (fun _ _ => ⟨rfl, rfl, (by decide : 5 + 3 ≤ _), (by decide : 16 + 12 ≤ _)⟩)
        dsimp only [Pt.U, Pt.locs, Pt.cells, Pt.slots] at X78 l78 y78 z78 st78 hQ78
        subst l78 y78 z78
        obtain ⟨x78, rfl, N78q, kq78, gg78, u78, xs78⟩ := hQ78
        have N78 := Fr.app N53 N78q
        have K78 := K53.trans kq78 all0
        have hk79 : ¬ (el5 = (0 : Int32)) := hc231
        obtain ⟨_, _, ⟨T80, L80, k80, n80⟩, -, X80, ⟨Lc80, hQ80, l80, y80, z80⟩, st80⟩ := Jvm.LawKit.callS X78 hx (y := (⟨"com/example/reed/reed/engine/IntegralityIsIntegerPinLaw", "ch", "(I)C"⟩ : MethodName)) hown (mvT hZ (hw _ (List.mem_of_getElem? (i := 12) rfl))) (mvT hZ (hw _ (List.mem_of_getElem? (i := 13) rfl))) (mvT hZ (hw _ (List.mem_of_getElem? (i := 2) rfl))) (mvT hZ (hw _ (List.mem_of_getElem? (i := 14) rfl))) (by decide) (backOf (W := 0) (rm2 l Z a0 hw [] d40 T78.heap n0 (Nat.le_trans Z0 K78.1) d9d40) hZ (hw _ (List.mem_of_getElem? (i := 14) rfl)) (hw _ (List.mem_of_getElem? (i := 2) rfl)) (by decide) (by decide)) (g := (mkF m 284 #[.val (.int p0), .val (.int p1), .val (.int p2), .val (.int p3), .val (.int il1), .val (.int fl3), .val (.int el5), .val (.int es7), .val (.int v10), .val (.int v13), .val (.int v28), .val (.int d19), .val (.int d22), .val (.int d31), .val (.int d34), .val (.int d37), .val (.int d40), .val (.int d43), .val (.ref x49), .val (.ref x53), .val (.ref x49), .val (.int v59), .val (.ref x78), .unset, .unset, .unset, .unset, .unset, .unset, .unset, .unset, .unset, .unset] [(.int d40)])) rfl (by rw [hml]; rfl) (argsL := [(.int d40)]) (rest := []) (lenOf pd__I_C rfl) rfl (by show 2 * 0 + _ ≤ _; exact Nat.le_of_eq rfl) (hb hby at_284) (fun _ _ => ⟨rfl, rfl, (by decide : 8 + 0 ≤ _), (by decide : 28 + 0 ≤ _)⟩)
        dsimp only [Pt.U, Pt.locs, Pt.cells, Pt.slots] at X80 l80 y80 z80 st80 hQ80
        subst l80 y80 z80
        obtain ⟨rfl, N80q, hq80⟩ := hQ80
        have N80 := Fr.app N78 N80q
        have E80 : Ext T78.heap T80.heap := by rw [hq80]; exact ⟨Nat.le_refl _, fun _ _ q => q⟩
        have K80 := K78.ext E80
        obtain ⟨_, _, ⟨T81, L81, k81, n81⟩, -, X81, ⟨Lc81, hQ81, l81, y81, z81⟩, st81⟩ := Jvm.LawKit.callS X80 hx (y := (⟨"com/example/reed/reed/engine/IntegralityIsIntegerPinLaw", "ch", "(I)C"⟩ : MethodName)) hown (mvT hZ (hw _ (List.mem_of_getElem? (i := 12) rfl))) (mvT hZ (hw _ (List.mem_of_getElem? (i := 13) rfl))) (mvT hZ (hw _ (List.mem_of_getElem? (i := 2) rfl))) (mvT hZ (hw _ (List.mem_of_getElem? (i := 14) rfl))) (by decide) (backOf (W := 1) (rm2 l Z a0 hw [] d43 T80.heap n0 (Nat.le_trans Z0 K80.1) d9d43) hZ (hw _ (List.mem_of_getElem? (i := 14) rfl)) (hw _ (List.mem_of_getElem? (i := 2) rfl)) (by decide) (by decide)) (g := (mkF m 289 #[.val (.int p0), .val (.int p1), .val (.int p2), .val (.int p3), .val (.int il1), .val (.int fl3), .val (.int el5), .val (.int es7), .val (.int v10), .val (.int v13), .val (.int v28), .val (.int d19), .val (.int d22), .val (.int d31), .val (.int d34), .val (.int d37), .val (.int d40), .val (.int d43), .val (.ref x49), .val (.ref x53), .val (.ref x49), .val (.int v59), .val (.ref x78), .unset, .unset, .unset, .unset, .unset, .unset, .unset, .unset, .unset, .unset] [(.int d43), (.int ((48 : Int32) + d40))])) rfl (by rw [hml]; rfl) (argsL := [(.int d43)]) (rest := [(.int ((48 : Int32) + d40))]) (lenOf pd__I_C rfl) rfl (by show 2 * 0 + _ ≤ _; exact Nat.le_of_eq rfl) (hb hby at_289) (fun _ _ => ⟨rfl, rfl, (by decide : 8 + 0 ≤ _), (by decide : 28 + 0 ≤ _)⟩)
        dsimp only [Pt.U, Pt.locs, Pt.cells, Pt.slots] at X81 l81 y81 z81 st81 hQ81
        subst l81 y81 z81
        obtain ⟨rfl, N81q, hq81⟩ := hQ81
        have N81 := Fr.app N80 N81q
        have E81 : Ext T80.heap T81.heap := by rw [hq81]; exact ⟨Nat.le_refl _, fun _ _ q => q⟩
        have K81 := K80.ext E81
        have OLD82 : Old Z n0 T81.heap := OLD0.keep K81 all0
        obtain ⟨_, _, ⟨T82, L82, k82, n82⟩, -, X82, ⟨Lc82, hQ82, l82, y82, z82⟩, st82⟩ := Jvm.LawKit.callS X81 hx (y := (⟨"com/example/reed/reed/engine/IntegralityIsIntegerPinLaw", "text", "(CCCCI)Ljava/lang/String;"⟩ : MethodName)) hown (mvT hZ (hw _ (List.mem_of_getElem? (i := 15) rfl))) (mvT hZ (hw _ (List.mem_of_getElem? (i := 16) rfl))) (mvT hZ (hw _ (List.mem_of_getElem? (i := 2) rfl))) (mvT hZ (hw _ (List.mem_of_getElem? (i := 17) rfl))) (by decide) (backOf (W := 0) (rm3 l Z a0 hw [] ((48 : Int32) + d40) ((48 : Int32) + d43) (48 : Int32) (48 : Int32) el5 G1 T81.heap n0 (Nat.le_trans Z0 K81.1) OLD82 SCS P5 (own_c48 d9d40) (own_c48 d9d43) own_l48 own_l48) hZ (hw _ (List.mem_of_getElem? (i := 17) rfl)) (hw _ (List.mem_of_getElem? (i := 2) rfl)) (by decide) (by decide)) (g := (mkF m 298 #[.val (.int p0), .val (.int p1), .val (.int p2), .val (.int p3), .val (.int il1), .val (.int fl3), .val (.int el5), .val (.int es7), .val (.int v10), .val (.int v13), .val (.int v28), .val (.int d19), .val (.int d22), .val (.int d31), .val (.int d34), .val (.int d37), .val (.int d40), .val (.int d43), .val (.ref x49), .val (.ref x53), .val (.ref x49), .val (.int v59), .val (.ref x78), .unset, .unset, .unset, .unset, .unset, .unset, .unset, .unset, .unset, .unset] [(.int el5), (.int (48 : Int32)), (.int (48 : Int32)), (.int ((48 : Int32) + d43)), (.int ((48 : Int32) + d40))])) rfl (by rw [hml]; rfl) (argsL := [(.int ((48 : Int32) + d40)), (.int ((48 : Int32) + d43)), (.int (48 : Int32)), (.int (48 : Int32)), (.int el5)]) (rest := []) (lenOf pd__CCCCI_Ljava_lang_String_ rfl) rfl (by show 2 * 0 + _ ≤ _; exact Nat.le_of_eq rfl) (hb hby at_298) (fun _ _ => ⟨rfl, rfl, (by decide : 8 + 3 ≤ _), (by decide : 28 + 12 ≤ _)⟩)
        dsimp only [Pt.U, Pt.locs, Pt.cells, Pt.slots] at X82 l82 y82 z82 st82 hQ82
        subst l82 y82 z82
        obtain ⟨x82, rfl, N82q, kq82, gg82, u82, xs82⟩ := hQ82
        have N82 := Fr.app N81 N82q
        have K82 := K81.trans kq82 all0
        have c83 := (own_strP (own_strE (own_strE (own_strP (own_strP (own_strE (own_strE (own_strE xs49 E50) E51) E52) kq53) kq78) E80) E81) kq82)
        have c84 := (own_strP (own_strE (own_strE (own_strP xs53 kq78) E80) E81) kq82)
        have c85 := (own_strP (own_strE (own_strE xs78 E80) E81) kq82)
        have pre86 : ∀ t, Steps p.tables e below (T82.setTop (mkF m 303 #[.val (.int p0), .val (.int p1), .val (.int p2), .val (.int p3), .val (.int il1), .val (.int fl3), .val (.int el5), .val (.int es7), .val (.int v10), .val (.int v13), .val (.int v28), .val (.int d19), .val (.int d22), .val (.int d31), .val (.int d34), .val (.int d37), .val (.int d40), .val (.int d43), .val (.ref x49), .val (.ref x53), .val (.ref x49), .val (.int v59), .val (.ref x78), .val (.ref x82), .unset, .unset, .unset, .unset, .unset, .unset, .unset, .unset, .unset] [])) t → Steps p.tables e below (s₁.setTop (entryFrame m #[(.int p0), (.int p1), (.int p2), (.int p3)] maxLocals)) t := by
          intro t kt
          refine pre74 _ ?_
          show Steps p.tables e below (T53.setTop (mkF m 251 #[.val (.int p0), .val (.int p1), .val (.int p2), .val (.int p3), .val (.int il1), .val (.int fl3), .val (.int el5), .val (.int es7), .val (.int v10), .val (.int v13), .val (.int v28), .val (.int d19), .val (.int d22), .val (.int d31), .val (.int d34), .val (.int d37), .val (.int d40), .val (.int d43), .val (.ref x49), .val (.ref x53), .val (.ref x49), .val (.int v59), .unset, .unset, .unset, .unset, .unset, .unset, .unset, .unset, .unset, .unset, .unset] [(.int v72)])) _
          refine XS.iload X53.here hx rfl (hb hby at_251) rfl ?_
          refine XS.bipush X53.here hx rfl (hb hby at_253) ?_
          refine XS.bipush X53.here hx rfl (hb hby at_255) ?_
          show Steps p.tables e below (T53.setTop (mkF m 257 #[.val (.int p0), .val (.int p1), .val (.int p2), .val (.int p3), .val (.int il1), .val (.int fl3), .val (.int el5), .val (.int es7), .val (.int v10), .val (.int v13), .val (.int v28), .val (.int d19), .val (.int d22), .val (.int d31), .val (.int d34), .val (.int d37), .val (.int d40), .val (.int d43), .val (.ref x49), .val (.ref x53), .val (.ref x49), .val (.int v59), .unset, .unset, .unset, .unset, .unset, .unset, .unset, .unset, .unset, .unset, .unset] [(.int (48 : Int32)), (.int (48 : Int32)), (.int v59), (.int v72)])) _
          refine XS.iload X53.here hx rfl (hb hby at_257) rfl ?_
          show Steps p.tables e below (T53.setTop (mkF m 259 #[.val (.int p0), .val (.int p1), .val (.int p2), .val (.int p3), .val (.int il1), .val (.int fl3), .val (.int el5), .val (.int es7), .val (.int v10), .val (.int v13), .val (.int v28), .val (.int d19), .val (.int d22), .val (.int d31), .val (.int d34), .val (.int d37), .val (.int d40), .val (.int d43), .val (.ref x49), .val (.ref x53), .val (.ref x49), .val (.int v59), .unset, .unset, .unset, .unset, .unset, .unset, .unset, .unset, .unset, .unset, .unset] [(.int es7), (.int (48 : Int32)), (.int (48 : Int32)), (.int v59), (.int v72)])) _
          refine mg77 _ ?_
          show Steps p.tables e below (T53.setTop (mkF m 267 #[.val (.int p0), .val (.int p1), .val (.int p2), .val (.int p3), .val (.int il1), .val (.int fl3), .val (.int el5), .val (.int es7), .val (.int v10), .val (.int v13), .val (.int v28), .val (.int d19), .val (.int d22), .val (.int d31), .val (.int d34), .val (.int d37), .val (.int d40), .val (.int d43), .val (.ref x49), .val (.ref x53), .val (.ref x49), .val (.int v59), .unset, .unset, .unset, .unset, .unset, .unset, .unset, .unset, .unset, .unset, .unset] [(.int v76), (.int (48 : Int32)), (.int (48 : Int32)), (.int v59), (.int v72)])) _
          refine st78 _ ?_
          show Steps p.tables e below (T78.setTop (mkF m 270 #[.val (.int p0), .val (.int p1), .val (.int p2), .val (.int p3), .val (.int il1), .val (.int fl3), .val (.int el5), .val (.int es7), .val (.int v10), .val (.int v13), .val (.int v28), .val (.int d19), .val (.int d22), .val (.int d31), .val (.int d34), .val (.int d37), .val (.int d40), .val (.int d43), .val (.ref x49), .val (.ref x53), .val (.ref x49), .val (.int v59), .unset, .unset, .unset, .unset, .unset, .unset, .unset, .unset, .unset, .unset, .unset] [(.ref x78)])) _
          refine XS.astore X78.here hx rfl (hb hby at_270) rfl rfl (l' := #[.val (.int p0), .val (.int p1), .val (.int p2), .val (.int p3), .val (.int il1), .val (.int fl3), .val (.int el5), .val (.int es7), .val (.int v10), .val (.int v13), .val (.int v28), .val (.int d19), .val (.int d22), .val (.int d31), .val (.int d34), .val (.int d37), .val (.int d40), .val (.int d43), .val (.ref x49), .val (.ref x53), .val (.ref x49), .val (.int v59), .val (.ref x78), .unset, .unset, .unset, .unset, .unset, .unset, .unset, .unset, .unset, .unset]) rfl ?_
          refine XS.iload X78.here hx rfl (hb hby at_272) rfl ?_
          refine XS.ifYes X78.here hx rfl (pc0 := 274) (pc' := 282) rfl (hb hby at_274) rfl ((if0 _ _).trans (feq hk79).2) (by decide) (by decide) ?_
          show Steps p.tables e below (T78.setTop (mkF m 282 #[.val (.int p0), .val (.int p1), .val (.int p2), .val (.int p3), .val (.int il1), .val (.int fl3), .val (.int el5), .val (.int es7), .val (.int v10), .val (.int v13), .val (.int v28), .val (.int d19), .val (.int d22), .val (.int d31), .val (.int d34), .val (.int d37), .val (.int d40), .val (.int d43), .val (.ref x49), .val (.ref x53), .val (.ref x49), .val (.int v59), .val (.ref x78), .unset, .unset, .unset, .unset, .unset, .unset, .unset, .unset, .unset, .unset] [])) _
          refine XS.iload X78.here hx rfl (hb hby at_282) rfl ?_
          show Steps p.tables e below (T78.setTop (mkF m 284 #[.val (.int p0), .val (.int p1), .val (.int p2), .val (.int p3), .val (.int il1), .val (.int fl3), .val (.int el5), .val (.int es7), .val (.int v10), .val (.int v13), .val (.int v28), .val (.int d19), .val (.int d22), .val (.int d31), .val (.int d34), .val (.int d37), .val (.int d40), .val (.int d43), .val (.ref x49), .val (.ref x53), .val (.ref x49), .val (.int v59), .val (.ref x78), .unset, .unset, .unset, .unset, .unset, .unset, .unset, .unset, .unset, .unset] [(.int d40)])) _
          refine st80 _ ?_
          show Steps p.tables e below (T80.setTop (mkF m 287 #[.val (.int p0), .val (.int p1), .val (.int p2), .val (.int p3), .val (.int il1), .val (.int fl3), .val (.int el5), .val (.int es7), .val (.int v10), .val (.int v13), .val (.int v28), .val (.int d19), .val (.int d22), .val (.int d31), .val (.int d34), .val (.int d37), .val (.int d40), .val (.int d43), .val (.ref x49), .val (.ref x53), .val (.ref x49), .val (.int v59), .val (.ref x78), .unset, .unset, .unset, .unset, .unset, .unset, .unset, .unset, .unset, .unset] [(.int ((48 : Int32) + d40))])) _
          refine XS.iload X80.here hx rfl (hb hby at_287) rfl ?_
          show Steps p.tables e below (T80.setTop (mkF m 289 #[.val (.int p0), .val (.int p1), .val (.int p2), .val (.int p3), .val (.int il1), .val (.int fl3), .val (.int el5), .val (.int es7), .val (.int v10), .val (.int v13), .val (.int v28), .val (.int d19), .val (.int d22), .val (.int d31), .val (.int d34), .val (.int d37), .val (.int d40), .val (.int d43), .val (.ref x49), .val (.ref x53), .val (.ref x49), .val (.int v59), .val (.ref x78), .unset, .unset, .unset, .unset, .unset, .unset, .unset, .unset, .unset, .unset] [(.int d43), (.int ((48 : Int32) + d40))])) _
          refine st81 _ ?_
          show Steps p.tables e below (T81.setTop (mkF m 292 #[.val (.int p0), .val (.int p1), .val (.int p2), .val (.int p3), .val (.int il1), .val (.int fl3), .val (.int el5), .val (.int es7), .val (.int v10), .val (.int v13), .val (.int v28), .val (.int d19), .val (.int d22), .val (.int d31), .val (.int d34), .val (.int d37), .val (.int d40), .val (.int d43), .val (.ref x49), .val (.ref x53), .val (.ref x49), .val (.int v59), .val (.ref x78), .unset, .unset, .unset, .unset, .unset, .unset, .unset, .unset, .unset, .unset] [(.int ((48 : Int32) + d43)), (.int ((48 : Int32) + d40))])) _
          refine XS.bipush X81.here hx rfl (hb hby at_292) ?_
          refine XS.bipush X81.here hx rfl (hb hby at_294) ?_
          refine XS.iload X81.here hx rfl (hb hby at_296) rfl ?_
          show Steps p.tables e below (T81.setTop (mkF m 298 #[.val (.int p0), .val (.int p1), .val (.int p2), .val (.int p3), .val (.int il1), .val (.int fl3), .val (.int el5), .val (.int es7), .val (.int v10), .val (.int v13), .val (.int v28), .val (.int d19), .val (.int d22), .val (.int d31), .val (.int d34), .val (.int d37), .val (.int d40), .val (.int d43), .val (.ref x49), .val (.ref x53), .val (.ref x49), .val (.int v59), .val (.ref x78), .unset, .unset, .unset, .unset, .unset, .unset, .unset, .unset, .unset, .unset] [(.int el5), (.int (48 : Int32)), (.int (48 : Int32)), (.int ((48 : Int32) + d43)), (.int ((48 : Int32) + d40))])) _
          refine st82 _ ?_
          show Steps p.tables e below (T82.setTop (mkF m 301 #[.val (.int p0), .val (.int p1), .val (.int p2), .val (.int p3), .val (.int il1), .val (.int fl3), .val (.int el5), .val (.int es7), .val (.int v10), .val (.int v13), .val (.int v28), .val (.int d19), .val (.int d22), .val (.int d31), .val (.int d34), .val (.int d37), .val (.int d40), .val (.int d43), .val (.ref x49), .val (.ref x53), .val (.ref x49), .val (.int v59), .val (.ref x78), .unset, .unset, .unset, .unset, .unset, .unset, .unset, .unset, .unset, .unset] [(.ref x82)])) _
          refine XS.astore X82.here hx rfl (hb hby at_301) rfl rfl (l' := #[.val (.int p0), .val (.int p1), .val (.int p2), .val (.int p3), .val (.int il1), .val (.int fl3), .val (.int el5), .val (.int es7), .val (.int v10), .val (.int v13), .val (.int v28), .val (.int d19), .val (.int d22), .val (.int d31), .val (.int d34), .val (.int d37), .val (.int d40), .val (.int d43), .val (.ref x49), .val (.ref x53), .val (.ref x49), .val (.int v59), .val (.ref x78), .val (.ref x82), .unset, .unset, .unset, .unset, .unset, .unset, .unset, .unset, .unset]) rfl ?_
          show Steps p.tables e below (T82.setTop (mkF m 303 #[.val (.int p0), .val (.int p1), .val (.int p2), .val (.int p3), .val (.int il1), .val (.int fl3), .val (.int el5), .val (.int es7), .val (.int v10), .val (.int v13), .val (.int v28), .val (.int d19), .val (.int d22), .val (.int d31), .val (.int d34), .val (.int d37), .val (.int d40), .val (.int d43), .val (.ref x49), .val (.ref x53), .val (.ref x49), .val (.int v59), .val (.ref x78), .val (.ref x82), .unset, .unset, .unset, .unset, .unset, .unset, .unset, .unset, .unset] [])) _
          exact kt
        have HL := own_main kil kfl kel kes d9v28 d9d19 d9d22 d9d31 d9d34 d9d37 d9d40 d9d43 (up := v72) (sc := v59) kup hv59 (cs1 := []) (cs3 := []) (cs4 := (own_take v76 v72 v59 (48 : Int32) (48 : Int32))) (cs5 := (own_take el5 ((48 : Int32) + d40) ((48 : Int32) + d43) (48 : Int32) (48 : Int32))) (Or.inl rfl) (by rw [if_pos hc180]) (by rw [if_neg hc231, hv76]) (by rw [if_neg hc231])
        have OLDz : Old Z n0 T82.heap := OLD0.keep K82 all0
        obtain ⟨Lh, Xh, Nh⟩ := own_hide X82 N82 (C := 30) (S := 2000) (Nat.le_of_ble_eq_true rfl) (Nat.le_of_ble_eq_true rfl)
        obtain ⟨T2, Ls, L2, X2, N2, hz2, st2⟩ := own_tail Xh hx hZ hw hby hml hown rfl Nh (Nat.le_trans Z0 K82.1) OLDz SCS P5 SSI rfm c83 c84 c83 c85 xs82 own_lm0 (own_takeC (own_c48 d9v28) (own_c48 d9d19) (own_c48 d9d22) own_l48) own_lm0 (own_takeC kuc ksc own_l48 own_l48) (own_takeC (own_c48 d9d40) (own_c48 d9d43) own_l48 own_l48) (by decide) (own_takeL _ _ _ _ _) (by decide) (own_takeL _ _ _ _ _) (own_takeL _ _ _ _ _) HL (p0 := p0) (p1 := p1) (p2 := p2) (p3 := p3) (up := v10) (ng := v13) (sc := v59)
        obtain ⟨fs, hr, hrun, hended, hW⟩ := X2.leaveW hS49 (Nat.le_trans (Nat.le_trans (Nat.le_trans (Nat.le_trans (Nat.le_trans (Nat.le_trans (Nat.le_trans (Nat.le_trans (Nat.le_trans hk49 E50.1) E51.1) E52.1) kq53.1) kq78.1) E80.1) E81.1) kq82.1) hz2) (v := some (.int (1 : Int32))) (fun h => by rw [Bd.returns] at h; cases h)
        exact ⟨_, _, pre86 _ (st2 _ (retN X2 hx (t := .boolean) Bd.returns (by simp) (hb hby at_564) hr)), hrun, hended, _, _, rfl, ⟨rfl, N2⟩, hW⟩
    ·
      obtain ⟨_, _, ⟨T87, L87, k87, n87⟩, -, X87, ⟨Lc87, hQ87, l87, y87, z87⟩, st87⟩ := Jvm.LawKit.callS X53 hx (y := (⟨"com/example/reed/reed/engine/IntegralityIsIntegerPinLaw", "ch", "(I)C"⟩ : MethodName)) hown (mvT hZ (hw _ (List.mem_of_getElem? (i := 12) rfl))) (mvT hZ (hw _ (List.mem_of_getElem? (i := 13) rfl))) (mvT hZ (hw _ (List.mem_of_getElem? (i := 2) rfl))) (mvT hZ (hw _ (List.mem_of_getElem? (i := 14) rfl))) (by decide) (backOf (W := 1) (rm2 l Z a0 hw [] d31 T53.heap n0 (Nat.le_trans Z0 K53.1) d9d31) hZ (hw _ (List.mem_of_getElem? (i := 14) rfl)) (hw _ (List.mem_of_getElem? (i := 2) rfl)) (by decide) (by decide)) (g := (mkF m 192 #[.val (.int p0), .val (.int p1), .val (.int p2), .val (.int p3), .val (.int il1), .val (.int fl3), .val (.int el5), .val (.int es7), .val (.int v10), .val (.int v13), .val (.int v28), .val (.int d19), .val (.int d22), .val (.int d31), .val (.int d34), .val (.int d37), .val (.int d40), .val (.int d43), .val (.ref x49), .val (.ref x53), .unset, .unset, .unset, .unset, .unset, .unset, .unset, .unset, .unset, .unset, .unset, .unset, .unset] [(.int d31), (.int (46 : Int32))])) rfl (by rw [hml]; rfl) (argsL := [(.int d31)]) (rest := [(.int (46 : Int32))]) (lenOf pd__I_C rfl) rfl (by show 2 * 0 + _ ≤ _; exact Nat.le_of_eq rfl) (hb hby at_192) (fun _ _ => ⟨rfl, rfl, (by decide : 5 + 0 ≤ _), (by decide : 16 + 0 ≤ _)⟩)
      dsimp only [Pt.U, Pt.locs, Pt.cells, Pt.slots] at X87 l87 y87 z87 st87 hQ87
      subst l87 y87 z87
      obtain ⟨rfl, N87q, hq87⟩ := hQ87
      have N87 := Fr.app N53 N87q
      have E87 : Ext T53.heap T87.heap := by rw [hq87]; exact ⟨Nat.le_refl _, fun _ _ q => q⟩
      have K87 := K53.ext E87
      obtain ⟨_, _, ⟨T88, L88, k88, n88⟩, -, X88, ⟨Lc88, hQ88, l88, y88, z88⟩, st88⟩ := Jvm.LawKit.callS X87 hx (y := (⟨"com/example/reed/reed/engine/IntegralityIsIntegerPinLaw", "ch", "(I)C"⟩ : MethodName)) hown (mvT hZ (hw _ (List.mem_of_getElem? (i := 12) rfl))) (mvT hZ (hw _ (List.mem_of_getElem? (i := 13) rfl))) (mvT hZ (hw _ (List.mem_of_getElem? (i := 2) rfl))) (mvT hZ (hw _ (List.mem_of_getElem? (i := 14) rfl))) (by decide) (backOf (W := 2) (rm2 l Z a0 hw [] d34 T87.heap n0 (Nat.le_trans Z0 K87.1) d9d34) hZ (hw _ (List.mem_of_getElem? (i := 14) rfl)) (hw _ (List.mem_of_getElem? (i := 2) rfl)) (by decide) (by decide)) (g := (mkF m 197 #[.val (.int p0), .val (.int p1), .val (.int p2), .val (.int p3), .val (.int il1), .val (.int fl3), .val (.int el5), .val (.int es7), .val (.int v10), .val (.int v13), .val (.int v28), .val (.int d19), .val (.int d22), .val (.int d31), .val (.int d34), .val (.int d37), .val (.int d40), .val (.int d43), .val (.ref x49), .val (.ref x53), .unset, .unset, .unset, .unset, .unset, .unset, .unset, .unset, .unset, .unset, .unset, .unset, .unset] [(.int d34), (.int ((48 : Int32) + d31)), (.int (46 : Int32))])) rfl (by rw [hml]; rfl) (argsL := [(.int d34)]) (rest := [(.int ((48 : Int32) + d31)), (.int (46 : Int32))]) (lenOf pd__I_C rfl) rfl (by show 2 * 0 + _ ≤ _; exact Nat.le_of_eq rfl) (hb hby at_197) (fun _ _ => ⟨rfl, rfl, (by decide : 5 + 0 ≤ _), (by decide : 16 + 0 ≤ _)⟩)
      dsimp only [Pt.U, Pt.locs, Pt.cells, Pt.slots] at X88 l88 y88 z88 st88 hQ88
      subst l88 y88 z88
      obtain ⟨rfl, N88q, hq88⟩ := hQ88
      have N88 := Fr.app N87 N88q
      have E88 : Ext T87.heap T88.heap := by rw [hq88]; exact ⟨Nat.le_refl _, fun _ _ q => q⟩
      have K88 := K87.ext E88
      obtain ⟨_, _, ⟨T89, L89, k89, n89⟩, -, X89, ⟨Lc89, hQ89, l89, y89, z89⟩, st89⟩ := Jvm.LawKit.callS X88 hx (y := (⟨"com/example/reed/reed/engine/IntegralityIsIntegerPinLaw", "ch", "(I)C"⟩ : MethodName)) hown (mvT hZ (hw _ (List.mem_of_getElem? (i := 12) rfl))) (mvT hZ (hw _ (List.mem_of_getElem? (i := 13) rfl))) (mvT hZ (hw _ (List.mem_of_getElem? (i := 2) rfl))) (mvT hZ (hw _ (List.mem_of_getElem? (i := 14) rfl))) (by decide) (backOf (W := 3) (rm2 l Z a0 hw [] d37 T88.heap n0 (Nat.le_trans Z0 K88.1) d9d37) hZ (hw _ (List.mem_of_getElem? (i := 14) rfl)) (hw _ (List.mem_of_getElem? (i := 2) rfl)) (by decide) (by decide)) (g := (mkF m 202 #[.val (.int p0), .val (.int p1), .val (.int p2), .val (.int p3), .val (.int il1), .val (.int fl3), .val (.int el5), .val (.int es7), .val (.int v10), .val (.int v13), .val (.int v28), .val (.int d19), .val (.int d22), .val (.int d31), .val (.int d34), .val (.int d37), .val (.int d40), .val (.int d43), .val (.ref x49), .val (.ref x53), .unset, .unset, .unset, .unset, .unset, .unset, .unset, .unset, .unset, .unset, .unset, .unset, .unset] [(.int d37), (.int ((48 : Int32) + d34)), (.int ((48 : Int32) + d31)), (.int (46 : Int32))])) rfl (by rw [hml]; rfl) (argsL := [(.int d37)]) (rest := [(.int ((48 : Int32) + d34)), (.int ((48 : Int32) + d31)), (.int (46 : Int32))]) (lenOf pd__I_C rfl) rfl (by show 2 * 0 + _ ≤ _; exact Nat.le_of_eq rfl) (hb hby at_202) (fun _ _ => ⟨rfl, rfl, (by decide : 5 + 0 ≤ _), (by decide : 16 + 0 ≤ _)⟩)
      dsimp only [Pt.U, Pt.locs, Pt.cells, Pt.slots] at X89 l89 y89 z89 st89 hQ89
      subst l89 y89 z89
      obtain ⟨rfl, N89q, hq89⟩ := hQ89
      have N89 := Fr.app N88 N89q
      have E89 : Ext T88.heap T89.heap := by rw [hq89]; exact ⟨Nat.le_refl _, fun _ _ q => q⟩
      have K89 := K88.ext E89
      have OLD90 : Old Z n0 T89.heap := OLD0.keep K89 all0
      obtain ⟨_, _, ⟨T90, L90, k90, n90⟩, -, X90, ⟨Lc90, hQ90, l90, y90, z90⟩, st90⟩ := Jvm.LawKit.callS X89 hx (y := (⟨"com/example/reed/reed/engine/IntegralityIsIntegerPinLaw", "text", "(CCCCI)Ljava/lang/String;"⟩ : MethodName)) hown (mvT hZ (hw _ (List.mem_of_getElem? (i := 15) rfl))) (mvT hZ (hw _ (List.mem_of_getElem? (i := 16) rfl))) (mvT hZ (hw _ (List.mem_of_getElem? (i := 2) rfl))) (mvT hZ (hw _ (List.mem_of_getElem? (i := 17) rfl))) (by decide) (backOf (W := 0) (rm3 l Z a0 hw [] (46 : Int32) ((48 : Int32) + d31) ((48 : Int32) + d34) ((48 : Int32) + d37) ((1 : Int32) + fl3) G1 T89.heap n0 (Nat.le_trans Z0 K89.1) OLD90 SCS P5 own_l46 (own_c48 d9d31) (own_c48 d9d34) (own_c48 d9d37)) hZ (hw _ (List.mem_of_getElem? (i := 17) rfl)) (hw _ (List.mem_of_getElem? (i := 2) rfl)) (by decide) (by decide)) (g := (mkF m 209 #[.val (.int p0), .val (.int p1), .val (.int p2), .val (.int p3), .val (.int il1), .val (.int fl3), .val (.int el5), .val (.int es7), .val (.int v10), .val (.int v13), .val (.int v28), .val (.int d19), .val (.int d22), .val (.int d31), .val (.int d34), .val (.int d37), .val (.int d40), .val (.int d43), .val (.ref x49), .val (.ref x53), .unset, .unset, .unset, .unset, .unset, .unset, .unset, .unset, .unset, .unset, .unset, .unset, .unset] [(.int ((1 : Int32) + fl3)), (.int ((48 : Int32) + d37)), (.int ((48 : Int32) + d34)), (.int ((48 : Int32) + d31)), (.int (46 : Int32))])) rfl (by rw [hml]; rfl) (argsL := [(.int (46 : Int32)), (.int ((48 : Int32) + d31)), (.int ((48 : Int32) + d34)), (.int ((48 : Int32) + d37)), (.int ((1 : Int32) + fl3))]) (rest := []) (lenOf pd__CCCCI_Ljava_lang_String_ rfl) rfl (by show 2 * 0 + _ ≤ _; exact Nat.le_of_eq rfl) (hb hby at_209) (fun _ _ => ⟨rfl, rfl, (by decide : 5 + 3 ≤ _), (by decide : 16 + 12 ≤ _)⟩)
      dsimp only [Pt.U, Pt.locs, Pt.cells, Pt.slots] at X90 l90 y90 z90 st90 hQ90
      subst l90 y90 z90
      obtain ⟨x90, rfl, N90q, kq90, gg90, u90, xs90⟩ := hQ90
      have N90 := Fr.app N89 N90q
      have K90 := K89.trans kq90 all0
      obtain ⟨v92, hv92⟩ : ∃ z : Int32, z = if es7 = (1 : Int32) then (43 : Int32) else (45 : Int32) := ⟨_, rfl⟩
      have mg93 : ∀ t, Steps p.tables e below (T90.setTop (mkF m 227 #[.val (.int p0), .val (.int p1), .val (.int p2), .val (.int p3), .val (.int il1), .val (.int fl3), .val (.int el5), .val (.int es7), .val (.int v10), .val (.int v13), .val (.int v28), .val (.int d19), .val (.int d22), .val (.int d31), .val (.int d34), .val (.int d37), .val (.int d40), .val (.int d43), .val (.ref x49), .val (.ref x53), .val (.ref x90), .unset, .unset, .unset, .unset, .unset, .unset, .unset, .unset, .unset, .unset, .unset, .unset] [(.int v92)])) t → Steps p.tables e below (T90.setTop (mkF m 217 #[.val (.int p0), .val (.int p1), .val (.int p2), .val (.int p3), .val (.int il1), .val (.int fl3), .val (.int el5), .val (.int es7), .val (.int v10), .val (.int v13), .val (.int v28), .val (.int d19), .val (.int d22), .val (.int d31), .val (.int d34), .val (.int d37), .val (.int d40), .val (.int d43), .val (.ref x49), .val (.ref x53), .val (.ref x90), .unset, .unset, .unset, .unset, .unset, .unset, .unset, .unset, .unset, .unset, .unset, .unset] [(.int (1 : Int32)), (.int es7)])) t := by
        intro t kt
        by_cases hm91 : es7 = (1 : Int32)
        ·
          have ev92 : v92 = (43 : Int32) := by rw [hv92, if_pos hm91]
          rw [ev92] at kt
          refine (fun t (k : Steps p.tables e below (T90.setTop (mkF m 217 #[.val (.int p0), .val (.int p1), .val (.int p2), .val (.int p3), .val (.int il1), .val (.int fl3), .val (.int el5), .val (.int es7), .val (.int v10), .val (.int v13), .val (.int v28), .val (.int d19), .val (.int d22), .val (.int d31), .val (.int d34), .val (.int d37), .val (.int d40), .val (.int d43), .val (.ref x49), .val (.ref x53), .val (.ref x90), .unset, .unset, .unset, .unset, .unset, .unset, .unset, .unset, .unset, .unset, .unset, .unset] [(.int (1 : Int32)), (.int es7)])) t) => k) _ ?_
          refine XS.icmpNo X90.here hx rfl (hb hby at_217) rfl (teq hm91).2 ?_
          refine XS.bipush X90.here hx rfl (hb hby at_220) ?_
          refine XS.goto X90.here hx rfl (pc0 := 222) (pc' := 227) rfl (hb hby at_222) (by decide) (by decide) ?_
          show Steps p.tables e below (T90.setTop (mkF m 227 #[.val (.int p0), .val (.int p1), .val (.int p2), .val (.int p3), .val (.int il1), .val (.int fl3), .val (.int el5), .val (.int es7), .val (.int v10), .val (.int v13), .val (.int v28), .val (.int d19), .val (.int d22), .val (.int d31), .val (.int d34), .val (.int d37), .val (.int d40), .val (.int d43), .val (.ref x49), .val (.ref x53), .val (.ref x90), .unset, .unset, .unset, .unset, .unset, .unset, .unset, .unset, .unset, .unset, .unset, .unset] [(.int (43 : Int32))])) _
          exact kt
        ·
          have ev92 : v92 = (45 : Int32) := by rw [hv92, if_neg hm91]
          rw [ev92] at kt
          refine (fun t (k : Steps p.tables e below (T90.setTop (mkF m 217 #[.val (.int p0), .val (.int p1), .val (.int p2), .val (.int p3), .val (.int il1), .val (.int fl3), .val (.int el5), .val (.int es7), .val (.int v10), .val (.int v13), .val (.int v28), .val (.int d19), .val (.int d22), .val (.int d31), .val (.int d34), .val (.int d37), .val (.int d40), .val (.int d43), .val (.ref x49), .val (.ref x53), .val (.ref x90), .unset, .unset, .unset, .unset, .unset, .unset, .unset, .unset, .unset, .unset, .unset, .unset] [(.int (1 : Int32)), (.int es7)])) t) => k) _ ?_
          refine XS.icmpYes X90.here hx rfl (pc0 := 217) (pc' := 225) rfl (hb hby at_217) rfl (feq hm91).2 (by decide) (by decide) ?_
          refine XS.bipush X90.here hx rfl (hb hby at_225) ?_
          show Steps p.tables e below (T90.setTop (mkF m 227 #[.val (.int p0), .val (.int p1), .val (.int p2), .val (.int p3), .val (.int il1), .val (.int fl3), .val (.int el5), .val (.int es7), .val (.int v10), .val (.int v13), .val (.int v28), .val (.int d19), .val (.int d22), .val (.int d31), .val (.int d34), .val (.int d37), .val (.int d40), .val (.int d43), .val (.ref x49), .val (.ref x53), .val (.ref x90), .unset, .unset, .unset, .unset, .unset, .unset, .unset, .unset, .unset, .unset, .unset, .unset] [(.int (45 : Int32))])) _
          exact kt
      have pre94 : ∀ t, Steps p.tables e below (T90.setTop (mkF m 229 #[.val (.int p0), .val (.int p1), .val (.int p2), .val (.int p3), .val (.int il1), .val (.int fl3), .val (.int el5), .val (.int es7), .val (.int v10), .val (.int v13), .val (.int v28), .val (.int d19), .val (.int d22), .val (.int d31), .val (.int d34), .val (.int d37), .val (.int d40), .val (.int d43), .val (.ref x49), .val (.ref x53), .val (.ref x90), .val (.int v92), .unset, .unset, .unset, .unset, .unset, .unset, .unset, .unset, .unset, .unset, .unset] [])) t → Steps p.tables e below (s₁.setTop (entryFrame m #[(.int p0), (.int p1), (.int p2), (.int p3)] maxLocals)) t := by
        intro t kt
        refine pre54 _ ?_
        show Steps p.tables e below (T53.setTop (mkF m 180 #[.val (.int p0), .val (.int p1), .val (.int p2), .val (.int p3), .val (.int il1), .val (.int fl3), .val (.int el5), .val (.int es7), .val (.int v10), .val (.int v13), .val (.int v28), .val (.int d19), .val (.int d22), .val (.int d31), .val (.int d34), .val (.int d37), .val (.int d40), .val (.int d43), .val (.ref x49), .val (.ref x53), .unset, .unset, .unset, .unset, .unset, .unset, .unset, .unset, .unset, .unset, .unset, .unset, .unset] [(.int fl3)])) _
        refine XS.ifYes X53.here hx rfl (pc0 := 180) (pc' := 188) rfl (hb hby at_180) rfl ((if0 _ _).trans (feq hc180).2) (by decide) (by decide) ?_
        refine XS.bipush X53.here hx rfl (hb hby at_188) ?_
        refine XS.iload X53.here hx rfl (hb hby at_190) rfl ?_
        show Steps p.tables e below (T53.setTop (mkF m 192 #[.val (.int p0), .val (.int p1), .val (.int p2), .val (.int p3), .val (.int il1), .val (.int fl3), .val (.int el5), .val (.int es7), .val (.int v10), .val (.int v13), .val (.int v28), .val (.int d19), .val (.int d22), .val (.int d31), .val (.int d34), .val (.int d37), .val (.int d40), .val (.int d43), .val (.ref x49), .val (.ref x53), .unset, .unset, .unset, .unset, .unset, .unset, .unset, .unset, .unset, .unset, .unset, .unset, .unset] [(.int d31), (.int (46 : Int32))])) _
        refine st87 _ ?_
        show Steps p.tables e below (T87.setTop (mkF m 195 #[.val (.int p0), .val (.int p1), .val (.int p2), .val (.int p3), .val (.int il1), .val (.int fl3), .val (.int el5), .val (.int es7), .val (.int v10), .val (.int v13), .val (.int v28), .val (.int d19), .val (.int d22), .val (.int d31), .val (.int d34), .val (.int d37), .val (.int d40), .val (.int d43), .val (.ref x49), .val (.ref x53), .unset, .unset, .unset, .unset, .unset, .unset, .unset, .unset, .unset, .unset, .unset, .unset, .unset] [(.int ((48 : Int32) + d31)), (.int (46 : Int32))])) _
        refine XS.iload X87.here hx rfl (hb hby at_195) rfl ?_
        show Steps p.tables e below (T87.setTop (mkF m 197 #[.val (.int p0), .val (.int p1), .val (.int p2), .val (.int p3), .val (.int il1), .val (.int fl3), .val (.int el5), .val (.int es7), .val (.int v10), .val (.int v13), .val (.int v28), .val (.int d19), .val (.int d22), .val (.int d31), .val (.int d34), .val (.int d37), .val (.int d40), .val (.int d43), .val (.ref x49), .val (.ref x53), .unset, .unset, .unset, .unset, .unset, .unset, .unset, .unset, .unset, .unset, .unset, .unset, .unset] [(.int d34), (.int ((48 : Int32) + d31)), (.int (46 : Int32))])) _
        refine st88 _ ?_
        show Steps p.tables e below (T88.setTop (mkF m 200 #[.val (.int p0), .val (.int p1), .val (.int p2), .val (.int p3), .val (.int il1), .val (.int fl3), .val (.int el5), .val (.int es7), .val (.int v10), .val (.int v13), .val (.int v28), .val (.int d19), .val (.int d22), .val (.int d31), .val (.int d34), .val (.int d37), .val (.int d40), .val (.int d43), .val (.ref x49), .val (.ref x53), .unset, .unset, .unset, .unset, .unset, .unset, .unset, .unset, .unset, .unset, .unset, .unset, .unset] [(.int ((48 : Int32) + d34)), (.int ((48 : Int32) + d31)), (.int (46 : Int32))])) _
        refine XS.iload X88.here hx rfl (hb hby at_200) rfl ?_
        show Steps p.tables e below (T88.setTop (mkF m 202 #[.val (.int p0), .val (.int p1), .val (.int p2), .val (.int p3), .val (.int il1), .val (.int fl3), .val (.int el5), .val (.int es7), .val (.int v10), .val (.int v13), .val (.int v28), .val (.int d19), .val (.int d22), .val (.int d31), .val (.int d34), .val (.int d37), .val (.int d40), .val (.int d43), .val (.ref x49), .val (.ref x53), .unset, .unset, .unset, .unset, .unset, .unset, .unset, .unset, .unset, .unset, .unset, .unset, .unset] [(.int d37), (.int ((48 : Int32) + d34)), (.int ((48 : Int32) + d31)), (.int (46 : Int32))])) _
        refine st89 _ ?_
        show Steps p.tables e below (T89.setTop (mkF m 205 #[.val (.int p0), .val (.int p1), .val (.int p2), .val (.int p3), .val (.int il1), .val (.int fl3), .val (.int el5), .val (.int es7), .val (.int v10), .val (.int v13), .val (.int v28), .val (.int d19), .val (.int d22), .val (.int d31), .val (.int d34), .val (.int d37), .val (.int d40), .val (.int d43), .val (.ref x49), .val (.ref x53), .unset, .unset, .unset, .unset, .unset, .unset, .unset, .unset, .unset, .unset, .unset, .unset, .unset] [(.int ((48 : Int32) + d37)), (.int ((48 : Int32) + d34)), (.int ((48 : Int32) + d31)), (.int (46 : Int32))])) _
        refine XS.iconst X89.here hx rfl (hb hby at_205) ?_
        refine XS.iload X89.here hx rfl (hb hby at_206) rfl ?_
        refine XS.iadd X89.here hx rfl (hb hby at_208) rfl ?_
        show Steps p.tables e below (T89.setTop (mkF m 209 #[.val (.int p0), .val (.int p1), .val (.int p2), .val (.int p3), .val (.int il1), .val (.int fl3), .val (.int el5), .val (.int es7), .val (.int v10), .val (.int v13), .val (.int v28), .val (.int d19), .val (.int d22), .val (.int d31), .val (.int d34), .val (.int d37), .val (.int d40), .val (.int d43), .val (.ref x49), .val (.ref x53), .unset, .unset, .unset, .unset, .unset, .unset, .unset, .unset, .unset, .unset, .unset, .unset, .unset] [(.int ((1 : Int32) + fl3)), (.int ((48 : Int32) + d37)), (.int ((48 : Int32) + d34)), (.int ((48 : Int32) + d31)), (.int (46 : Int32))])) _
        refine st90 _ ?_
        show Steps p.tables e below (T90.setTop (mkF m 212 #[.val (.int p0), .val (.int p1), .val (.int p2), .val (.int p3), .val (.int il1), .val (.int fl3), .val (.int el5), .val (.int es7), .val (.int v10), .val (.int v13), .val (.int v28), .val (.int d19), .val (.int d22), .val (.int d31), .val (.int d34), .val (.int d37), .val (.int d40), .val (.int d43), .val (.ref x49), .val (.ref x53), .unset, .unset, .unset, .unset, .unset, .unset, .unset, .unset, .unset, .unset, .unset, .unset, .unset] [(.ref x90)])) _
        refine XS.astore X90.here hx rfl (hb hby at_212) rfl rfl (l' := #[.val (.int p0), .val (.int p1), .val (.int p2), .val (.int p3), .val (.int il1), .val (.int fl3), .val (.int el5), .val (.int es7), .val (.int v10), .val (.int v13), .val (.int v28), .val (.int d19), .val (.int d22), .val (.int d31), .val (.int d34), .val (.int d37), .val (.int d40), .val (.int d43), .val (.ref x49), .val (.ref x53), .val (.ref x90), .unset, .unset, .unset, .unset, .unset, .unset, .unset, .unset, .unset, .unset, .unset, .unset]) rfl ?_
        refine XS.iload X90.here hx rfl (hb hby at_214) rfl ?_
        refine XS.iconst X90.here hx rfl (hb hby at_216) ?_
        show Steps p.tables e below (T90.setTop (mkF m 217 #[.val (.int p0), .val (.int p1), .val (.int p2), .val (.int p3), .val (.int il1), .val (.int fl3), .val (.int el5), .val (.int es7), .val (.int v10), .val (.int v13), .val (.int v28), .val (.int d19), .val (.int d22), .val (.int d31), .val (.int d34), .val (.int d37), .val (.int d40), .val (.int d43), .val (.ref x49), .val (.ref x53), .val (.ref x90), .unset, .unset, .unset, .unset, .unset, .unset, .unset, .unset, .unset, .unset, .unset, .unset] [(.int (1 : Int32)), (.int es7)])) _
        refine mg93 _ ?_
        show Steps p.tables e below (T90.setTop (mkF m 227 #[.val (.int p0), .val (.int p1), .val (.int p2), .val (.int p3), .val (.int il1), .val (.int fl3), .val (.int el5), .val (.int es7), .val (.int v10), .val (.int v13), .val (.int v28), .val (.int d19), .val (.int d22), .val (.int d31), .val (.int d34), .val (.int d37), .val (.int d40), .val (.int d43), .val (.ref x49), .val (.ref x53), .val (.ref x90), .unset, .unset, .unset, .unset, .unset, .unset, .unset, .unset, .unset, .unset, .unset, .unset] [(.int v92)])) _
        refine XS.istore X90.here hx rfl (hb hby at_227) rfl (l' := #[.val (.int p0), .val (.int p1), .val (.int p2), .val (.int p3), .val (.int il1), .val (.int fl3), .val (.int el5), .val (.int es7), .val (.int v10), .val (.int v13), .val (.int v28), .val (.int d19), .val (.int d22), .val (.int d31), .val (.int d34), .val (.int d37), .val (.int d40), .val (.int d43), .val (.ref x49), .val (.ref x53), .val (.ref x90), .val (.int v92), .unset, .unset, .unset, .unset, .unset, .unset, .unset, .unset, .unset, .unset, .unset]) rfl ?_
        show Steps p.tables e below (T90.setTop (mkF m 229 #[.val (.int p0), .val (.int p1), .val (.int p2), .val (.int p3), .val (.int il1), .val (.int fl3), .val (.int el5), .val (.int es7), .val (.int v10), .val (.int v13), .val (.int v28), .val (.int d19), .val (.int d22), .val (.int d31), .val (.int d34), .val (.int d37), .val (.int d40), .val (.int d43), .val (.ref x49), .val (.ref x53), .val (.ref x90), .val (.int v92), .unset, .unset, .unset, .unset, .unset, .unset, .unset, .unset, .unset, .unset, .unset] [])) _
        exact kt
      have ksc : own_c255 v92 := by rw [hv92]; split <;> exact ⟨by decide, by decide⟩
      have pre95 : ∀ t, Steps p.tables e below (T90.setTop (mkF m 231 #[.val (.int p0), .val (.int p1), .val (.int p2), .val (.int p3), .val (.int il1), .val (.int fl3), .val (.int el5), .val (.int es7), .val (.int v10), .val (.int v13), .val (.int v28), .val (.int d19), .val (.int d22), .val (.int d31), .val (.int d34), .val (.int d37), .val (.int d40), .val (.int d43), .val (.ref x49), .val (.ref x53), .val (.ref x90), .val (.int v92), .unset, .unset, .unset, .unset, .unset, .unset, .unset, .unset, .unset, .unset, .unset] [(.int el5)])) t → Steps p.tables e below (s₁.setTop (entryFrame m #[(.int p0), (.int p1), (.int p2), (.int p3)] maxLocals)) t := by
        intro t kt
        refine pre94 _ ?_
        show Steps p.tables e below (T90.setTop (mkF m 229 #[.val (.int p0), .val (.int p1), .val (.int p2), .val (.int p3), .val (.int il1), .val (.int fl3), .val (.int el5), .val (.int es7), .val (.int v10), .val (.int v13), .val (.int v28), .val (.int d19), .val (.int d22), .val (.int d31), .val (.int d34), .val (.int d37), .val (.int d40), .val (.int d43), .val (.ref x49), .val (.ref x53), .val (.ref x90), .val (.int v92), .unset, .unset, .unset, .unset, .unset, .unset, .unset, .unset, .unset, .unset, .unset] [])) _
        refine XS.iload X90.here hx rfl (hb hby at_229) rfl ?_
        show Steps p.tables e below (T90.setTop (mkF m 231 #[.val (.int p0), .val (.int p1), .val (.int p2), .val (.int p3), .val (.int il1), .val (.int fl3), .val (.int el5), .val (.int es7), .val (.int v10), .val (.int v13), .val (.int v28), .val (.int d19), .val (.int d22), .val (.int d31), .val (.int d34), .val (.int d37), .val (.int d40), .val (.int d43), .val (.ref x49), .val (.ref x53), .val (.ref x90), .val (.int v92), .unset, .unset, .unset, .unset, .unset, .unset, .unset, .unset, .unset, .unset, .unset] [(.int el5)])) _
        exact kt
      by_cases hc231 : el5 = (0 : Int32)
      ·
        have pre97 : ∀ t, Steps p.tables e below (T90.setTop (mkF m 234 #[.val (.int p0), .val (.int p1), .val (.int p2), .val (.int p3), .val (.int il1), .val (.int fl3), .val (.int el5), .val (.int es7), .val (.int v10), .val (.int v13), .val (.int v28), .val (.int d19), .val (.int d22), .val (.int d31), .val (.int d34), .val (.int d37), .val (.int d40), .val (.int d43), .val (.ref x49), .val (.ref x53), .val (.ref x90), .val (.int v92), .unset, .unset, .unset, .unset, .unset, .unset, .unset, .unset, .unset, .unset, .unset] [])) t → Steps p.tables e below (s₁.setTop (entryFrame m #[(.int p0), (.int p1), (.int p2), (.int p3)] maxLocals)) t := by
          intro t kt
          refine pre95 _ ?_
          show Steps p.tables e below (T90.setTop (mkF m 231 #[.val (.int p0), .val (.int p1), .val (.int p2), .val (.int p3), .val (.int il1), .val (.int fl3), .val (.int el5), .val (.int es7), .val (.int v10), .val (.int v13), .val (.int v28), .val (.int d19), .val (.int d22), .val (.int d31), .val (.int d34), .val (.int d37), .val (.int d40), .val (.int d43), .val (.ref x49), .val (.ref x53), .val (.ref x90), .val (.int v92), .unset, .unset, .unset, .unset, .unset, .unset, .unset, .unset, .unset, .unset, .unset] [(.int el5)])) _
          refine XS.ifNo X90.here hx rfl (hb hby at_231) rfl ((if0 _ _).trans (teq hc231).2) ?_
          show Steps p.tables e below (T90.setTop (mkF m 234 #[.val (.int p0), .val (.int p1), .val (.int p2), .val (.int p3), .val (.int il1), .val (.int fl3), .val (.int el5), .val (.int es7), .val (.int v10), .val (.int v13), .val (.int v28), .val (.int d19), .val (.int d22), .val (.int d31), .val (.int d34), .val (.int d37), .val (.int d40), .val (.int d43), .val (.ref x49), .val (.ref x53), .val (.ref x90), .val (.int v92), .unset, .unset, .unset, .unset, .unset, .unset, .unset, .unset, .unset, .unset, .unset] [])) _
          exact kt
        have hk99 : el5 = (0 : Int32) := hc231
        have pre100 : ∀ t, Steps p.tables e below (T90.setTop (mkF m 277 #[.val (.int p0), .val (.int p1), .val (.int p2), .val (.int p3), .val (.int il1), .val (.int fl3), .val (.int el5), .val (.int es7), .val (.int v10), .val (.int v13), .val (.int v28), .val (.int d19), .val (.int d22), .val (.int d31), .val (.int d34), .val (.int d37), .val (.int d40), .val (.int d43), .val (.ref x49), .val (.ref x53), .val (.ref x90), .val (.int v92), .val (.ref x49), .unset, .unset, .unset, .unset, .unset, .unset, .unset, .unset, .unset, .unset] [])) t → Steps p.tables e below (s₁.setTop (entryFrame m #[(.int p0), (.int p1), (.int p2), (.int p3)] maxLocals)) t := by
          intro t kt
          refine pre97 _ ?_
          show Steps p.tables e below (T90.setTop (mkF m 234 #[.val (.int p0), .val (.int p1), .val (.int p2), .val (.int p3), .val (.int il1), .val (.int fl3), .val (.int el5), .val (.int es7), .val (.int v10), .val (.int v13), .val (.int v28), .val (.int d19), .val (.int d22), .val (.int d31), .val (.int d34), .val (.int d37), .val (.int d40), .val (.int d43), .val (.ref x49), .val (.ref x53), .val (.ref x90), .val (.int v92), .unset, .unset, .unset, .unset, .unset, .unset, .unset, .unset, .unset, .unset, .unset] [])) _
          refine ldcAgain X90 hx hZ hown (hw _ (List.mem_of_getElem? (i := 4) rfl)) lt49 (g := (mkF m 234 #[.val (.int p0), .val (.int p1), .val (.int p2), .val (.int p3), .val (.int il1), .val (.int fl3), .val (.int el5), .val (.int es7), .val (.int v10), .val (.int v13), .val (.int v28), .val (.int d19), .val (.int d22), .val (.int d31), .val (.int d34), .val (.int d37), .val (.int d40), .val (.int d43), .val (.ref x49), .val (.ref x53), .val (.ref x90), .val (.int v92), .unset, .unset, .unset, .unset, .unset, .unset, .unset, .unset, .unset, .unset, .unset] [])) rfl (hb hby at_234) _ ?_
          show Steps p.tables e below (T90.setTop (mkF m 236 #[.val (.int p0), .val (.int p1), .val (.int p2), .val (.int p3), .val (.int il1), .val (.int fl3), .val (.int el5), .val (.int es7), .val (.int v10), .val (.int v13), .val (.int v28), .val (.int d19), .val (.int d22), .val (.int d31), .val (.int d34), .val (.int d37), .val (.int d40), .val (.int d43), .val (.ref x49), .val (.ref x53), .val (.ref x90), .val (.int v92), .unset, .unset, .unset, .unset, .unset, .unset, .unset, .unset, .unset, .unset, .unset] [(.ref x49)])) _
          refine XS.goto X90.here hx rfl (pc0 := 236) (pc' := 270) rfl (hb hby at_236) (by decide) (by decide) ?_
          refine XS.astore X90.here hx rfl (hb hby at_270) rfl rfl (l' := #[.val (.int p0), .val (.int p1), .val (.int p2), .val (.int p3), .val (.int il1), .val (.int fl3), .val (.int el5), .val (.int es7), .val (.int v10), .val (.int v13), .val (.int v28), .val (.int d19), .val (.int d22), .val (.int d31), .val (.int d34), .val (.int d37), .val (.int d40), .val (.int d43), .val (.ref x49), .val (.ref x53), .val (.ref x90), .val (.int v92), .val (.ref x49), .unset, .unset, .unset, .unset, .unset, .unset, .unset, .unset, .unset, .unset]) rfl ?_
          refine XS.iload X90.here hx rfl (hb hby at_272) rfl ?_
          show Steps p.tables e below (T90.setTop (mkF m 274 #[.val (.int p0), .val (.int p1), .val (.int p2), .val (.int p3), .val (.int il1), .val (.int fl3), .val (.int el5), .val (.int es7), .val (.int v10), .val (.int v13), .val (.int v28), .val (.int d19), .val (.int d22), .val (.int d31), .val (.int d34), .val (.int d37), .val (.int d40), .val (.int d43), .val (.ref x49), .val (.ref x53), .val (.ref x90), .val (.int v92), .val (.ref x49), .unset, .unset, .unset, .unset, .unset, .unset, .unset, .unset, .unset, .unset] [(.int el5)])) _
          refine XS.ifNo X90.here hx rfl (hb hby at_274) rfl ((if0 _ _).trans (teq hk99).2) ?_
          show Steps p.tables e below (T90.setTop (mkF m 277 #[.val (.int p0), .val (.int p1), .val (.int p2), .val (.int p3), .val (.int il1), .val (.int fl3), .val (.int el5), .val (.int es7), .val (.int v10), .val (.int v13), .val (.int v28), .val (.int d19), .val (.int d22), .val (.int d31), .val (.int d34), .val (.int d37), .val (.int d40), .val (.int d43), .val (.ref x49), .val (.ref x53), .val (.ref x90), .val (.int v92), .val (.ref x49), .unset, .unset, .unset, .unset, .unset, .unset, .unset, .unset, .unset, .unset] [])) _
          exact kt
        have c102 := (own_strP (own_strE (own_strE (own_strE (own_strP (own_strE (own_strE (own_strE xs49 E50) E51) E52) kq53) E87) E88) E89) kq90)
        have c103 := (own_strP (own_strE (own_strE (own_strE xs53 E87) E88) E89) kq90)
        have pre104 : ∀ t, Steps p.tables e below (T90.setTop (mkF m 303 #[.val (.int p0), .val (.int p1), .val (.int p2), .val (.int p3), .val (.int il1), .val (.int fl3), .val (.int el5), .val (.int es7), .val (.int v10), .val (.int v13), .val (.int v28), .val (.int d19), .val (.int d22), .val (.int d31), .val (.int d34), .val (.int d37), .val (.int d40), .val (.int d43), .val (.ref x49), .val (.ref x53), .val (.ref x90), .val (.int v92), .val (.ref x49), .val (.ref x49), .unset, .unset, .unset, .unset, .unset, .unset, .unset, .unset, .unset] [])) t → Steps p.tables e below (s₁.setTop (entryFrame m #[(.int p0), (.int p1), (.int p2), (.int p3)] maxLocals)) t := by
          intro t kt
          refine pre100 _ ?_
          show Steps p.tables e below (T90.setTop (mkF m 277 #[.val (.int p0), .val (.int p1), .val (.int p2), .val (.int p3), .val (.int il1), .val (.int fl3), .val (.int el5), .val (.int es7), .val (.int v10), .val (.int v13), .val (.int v28), .val (.int d19), .val (.int d22), .val (.int d31), .val (.int d34), .val (.int d37), .val (.int d40), .val (.int d43), .val (.ref x49), .val (.ref x53), .val (.ref x90), .val (.int v92), .val (.ref x49), .unset, .unset, .unset, .unset, .unset, .unset, .unset, .unset, .unset, .unset] [])) _
          refine ldcAgain X90 hx hZ hown (hw _ (List.mem_of_getElem? (i := 4) rfl)) lt49 (g := (mkF m 277 #[.val (.int p0), .val (.int p1), .val (.int p2), .val (.int p3), .val (.int il1), .val (.int fl3), .val (.int el5), .val (.int es7), .val (.int v10), .val (.int v13), .val (.int v28), .val (.int d19), .val (.int d22), .val (.int d31), .val (.int d34), .val (.int d37), .val (.int d40), .val (.int d43), .val (.ref x49), .val (.ref x53), .val (.ref x90), .val (.int v92), .val (.ref x49), .unset, .unset, .unset, .unset, .unset, .unset, .unset, .unset, .unset, .unset] [])) rfl (hb hby at_277) _ ?_
          show Steps p.tables e below (T90.setTop (mkF m 279 #[.val (.int p0), .val (.int p1), .val (.int p2), .val (.int p3), .val (.int il1), .val (.int fl3), .val (.int el5), .val (.int es7), .val (.int v10), .val (.int v13), .val (.int v28), .val (.int d19), .val (.int d22), .val (.int d31), .val (.int d34), .val (.int d37), .val (.int d40), .val (.int d43), .val (.ref x49), .val (.ref x53), .val (.ref x90), .val (.int v92), .val (.ref x49), .unset, .unset, .unset, .unset, .unset, .unset, .unset, .unset, .unset, .unset] [(.ref x49)])) _
          refine XS.goto X90.here hx rfl (pc0 := 279) (pc' := 301) rfl (hb hby at_279) (by decide) (by decide) ?_
          refine XS.astore X90.here hx rfl (hb hby at_301) rfl rfl (l' := #[.val (.int p0), .val (.int p1), .val (.int p2), .val (.int p3), .val (.int il1), .val (.int fl3), .val (.int el5), .val (.int es7), .val (.int v10), .val (.int v13), .val (.int v28), .val (.int d19), .val (.int d22), .val (.int d31), .val (.int d34), .val (.int d37), .val (.int d40), .val (.int d43), .val (.ref x49), .val (.ref x53), .val (.ref x90), .val (.int v92), .val (.ref x49), .val (.ref x49), .unset, .unset, .unset, .unset, .unset, .unset, .unset, .unset, .unset]) rfl ?_
          show Steps p.tables e below (T90.setTop (mkF m 303 #[.val (.int p0), .val (.int p1), .val (.int p2), .val (.int p3), .val (.int il1), .val (.int fl3), .val (.int el5), .val (.int es7), .val (.int v10), .val (.int v13), .val (.int v28), .val (.int d19), .val (.int d22), .val (.int d31), .val (.int d34), .val (.int d37), .val (.int d40), .val (.int d43), .val (.ref x49), .val (.ref x53), .val (.ref x90), .val (.int v92), .val (.ref x49), .val (.ref x49), .unset, .unset, .unset, .unset, .unset, .unset, .unset, .unset, .unset] [])) _
          exact kt
        have HL := own_main kil kfl kel kes d9v28 d9d19 d9d22 d9d31 d9d34 d9d37 d9d40 d9d43 (up := (69 : Int32)) (sc := v92) (Or.inl rfl) hv92 (cs1 := []) (cs3 := (own_take ((1 : Int32) + fl3) (46 : Int32) ((48 : Int32) + d31) ((48 : Int32) + d34) ((48 : Int32) + d37))) (cs4 := []) (cs5 := []) (Or.inl rfl) (by rw [if_neg hc180]) (by rw [if_pos hc231]) (by rw [if_pos hc231])
        have OLDz : Old Z n0 T90.heap := OLD0.keep K90 all0
        obtain ⟨Lh, Xh, Nh⟩ := own_hide X90 N90 (C := 30) (S := 2000) (Nat.le_of_ble_eq_true rfl) (Nat.le_of_ble_eq_true rfl)
        obtain ⟨T2, Ls, L2, X2, N2, hz2, st2⟩ := own_tail Xh hx hZ hw hby hml hown rfl Nh (Nat.le_trans Z0 K90.1) OLDz SCS P5 SSI rfm c102 c103 xs90 c102 c102 own_lm0 (own_takeC (own_c48 d9v28) (own_c48 d9d19) (own_c48 d9d22) own_l48) (own_takeC own_l46 (own_c48 d9d31) (own_c48 d9d34) (own_c48 d9d37)) own_lm0 own_lm0 (by decide) (own_takeL _ _ _ _ _) (own_takeL _ _ _ _ _) (by decide) (by decide) HL (p0 := p0) (p1 := p1) (p2 := p2) (p3 := p3) (up := v10) (ng := v13) (sc := v92)
        obtain ⟨fs, hr, hrun, hended, hW⟩ := X2.leaveW hS49 (Nat.le_trans (Nat.le_trans (Nat.le_trans (Nat.le_trans (Nat.le_trans (Nat.le_trans (Nat.le_trans (Nat.le_trans (Nat.le_trans hk49 E50.1) E51.1) E52.1) kq53.1) E87.1) E88.1) E89.1) kq90.1) hz2) (v := some (.int (1 : Int32))) (fun h => by rw [Bd.returns] at h; cases h)
        exact ⟨_, _, pre104 _ (st2 _ (retN X2 hx (t := .boolean) Bd.returns (by simp) (hb hby at_564) hr)), hrun, hended, _, _, rfl, ⟨rfl, N2⟩, hW⟩
      ·
        obtain ⟨v106, hv106⟩ : ∃ z : Int32, z = if v10 = (0 : Int32) then (101 : Int32) else (69 : Int32) := ⟨_, rfl⟩
        have mg107 : ∀ t, Steps p.tables e below (T90.setTop (mkF m 251 #[.val (.int p0), .val (.int p1), .val (.int p2), .val (.int p3), .val (.int il1), .val (.int fl3), .val (.int el5), .val (.int es7), .val (.int v10), .val (.int v13), .val (.int v28), .val (.int d19), .val (.int d22), .val (.int d31), .val (.int d34), .val (.int d37), .val (.int d40), .val (.int d43), .val (.ref x49), .val (.ref x53), .val (.ref x90), .val (.int v92), .unset, .unset, .unset, .unset, .unset, .unset, .unset, .unset, .unset, .unset, .unset] [(.int v106)])) t → Steps p.tables e below (T90.setTop (mkF m 241 #[.val (.int p0), .val (.int p1), .val (.int p2), .val (.int p3), .val (.int il1), .val (.int fl3), .val (.int el5), .val (.int es7), .val (.int v10), .val (.int v13), .val (.int v28), .val (.int d19), .val (.int d22), .val (.int d31), .val (.int d34), .val (.int d37), .val (.int d40), .val (.int d43), .val (.ref x49), .val (.ref x53), .val (.ref x90), .val (.int v92), .unset, .unset, .unset, .unset, .unset, .unset, .unset, .unset, .unset, .unset, .unset] [(.int v10)])) t := by
          intro t kt
          by_cases hm105 : v10 = (0 : Int32)
          ·
            have ev106 : v106 = (101 : Int32) := by rw [hv106, if_pos hm105]
            rw [ev106] at kt
            refine (fun t (k : Steps p.tables e below (T90.setTop (mkF m 241 #[.val (.int p0), .val (.int p1), .val (.int p2), .val (.int p3), .val (.int il1), .val (.int fl3), .val (.int el5), .val (.int es7), .val (.int v10), .val (.int v13), .val (.int v28), .val (.int d19), .val (.int d22), .val (.int d31), .val (.int d34), .val (.int d37), .val (.int d40), .val (.int d43), .val (.ref x49), .val (.ref x53), .val (.ref x90), .val (.int v92), .unset, .unset, .unset, .unset, .unset, .unset, .unset, .unset, .unset, .unset, .unset] [(.int v10)])) t) => k) _ ?_
            refine XS.ifYes X90.here hx rfl (pc0 := 241) (pc' := 249) rfl (hb hby at_241) rfl ((if0 _ _).trans (teq hm105).1) (by decide) (by decide) ?_
            refine XS.bipush X90.here hx rfl (hb hby at_249) ?_
            show Steps p.tables e below (T90.setTop (mkF m 251 #[.val (.int p0), .val (.int p1), .val (.int p2), .val (.int p3), .val (.int il1), .val (.int fl3), .val (.int el5), .val (.int es7), .val (.int v10), .val (.int v13), .val (.int v28), .val (.int d19), .val (.int d22), .val (.int d31), .val (.int d34), .val (.int d37), .val (.int d40), .val (.int d43), .val (.ref x49), .val (.ref x53), .val (.ref x90), .val (.int v92), .unset, .unset, .unset, .unset, .unset, .unset, .unset, .unset, .unset, .unset, .unset] [(.int (101 : Int32))])) _
            exact kt
          ·
            have ev106 : v106 = (69 : Int32) := by rw [hv106, if_neg hm105]
            rw [ev106] at kt
            refine (fun t (k : Steps p.tables e below (T90.setTop (mkF m 241 #[.val (.int p0), .val (.int p1), .val (.int p2), .val (.int p3), .val (.int il1), .val (.int fl3), .val (.int el5), .val (.int es7), .val (.int v10), .val (.int v13), .val (.int v28), .val (.int d19), .val (.int d22), .val (.int d31), .val (.int d34), .val (.int d37), .val (.int d40), .val (.int d43), .val (.ref x49), .val (.ref x53), .val (.ref x90), .val (.int v92), .unset, .unset, .unset, .unset, .unset, .unset, .unset, .unset, .unset, .unset, .unset] [(.int v10)])) t) => k) _ ?_
            refine XS.ifNo X90.here hx rfl (hb hby at_241) rfl ((if0 _ _).trans (feq hm105).1) ?_
            refine XS.bipush X90.here hx rfl (hb hby at_244) ?_
            refine XS.goto X90.here hx rfl (pc0 := 246) (pc' := 251) rfl (hb hby at_246) (by decide) (by decide) ?_
            show Steps p.tables e below (T90.setTop (mkF m 251 #[.val (.int p0), .val (.int p1), .val (.int p2), .val (.int p3), .val (.int il1), .val (.int fl3), .val (.int el5), .val (.int es7), .val (.int v10), .val (.int v13), .val (.int v28), .val (.int d19), .val (.int d22), .val (.int d31), .val (.int d34), .val (.int d37), .val (.int d40), .val (.int d43), .val (.ref x49), .val (.ref x53), .val (.ref x90), .val (.int v92), .unset, .unset, .unset, .unset, .unset, .unset, .unset, .unset, .unset, .unset, .unset] [(.int (69 : Int32))])) _
            exact kt
        have pre108 : ∀ t, Steps p.tables e below (T90.setTop (mkF m 251 #[.val (.int p0), .val (.int p1), .val (.int p2), .val (.int p3), .val (.int il1), .val (.int fl3), .val (.int el5), .val (.int es7), .val (.int v10), .val (.int v13), .val (.int v28), .val (.int d19), .val (.int d22), .val (.int d31), .val (.int d34), .val (.int d37), .val (.int d40), .val (.int d43), .val (.ref x49), .val (.ref x53), .val (.ref x90), .val (.int v92), .unset, .unset, .unset, .unset, .unset, .unset, .unset, .unset, .unset, .unset, .unset] [(.int v106)])) t → Steps p.tables e below (s₁.setTop (entryFrame m #[(.int p0), (.int p1), (.int p2), (.int p3)] maxLocals)) t := by
          intro t kt
          refine pre95 _ ?_
          show Steps p.tables e below (T90.setTop (mkF m 231 #[.val (.int p0), .val (.int p1), .val (.int p2), .val (.int p3), .val (.int il1), .val (.int fl3), .val (.int el5), .val (.int es7), .val (.int v10), .val (.int v13), .val (.int v28), .val (.int d19), .val (.int d22), .val (.int d31), .val (.int d34), .val (.int d37), .val (.int d40), .val (.int d43), .val (.ref x49), .val (.ref x53), .val (.ref x90), .val (.int v92), .unset, .unset, .unset, .unset, .unset, .unset, .unset, .unset, .unset, .unset, .unset] [(.int el5)])) _
          refine XS.ifYes X90.here hx rfl (pc0 := 231) (pc' := 239) rfl (hb hby at_231) rfl ((if0 _ _).trans (feq hc231).2) (by decide) (by decide) ?_
          refine XS.iload X90.here hx rfl (hb hby at_239) rfl ?_
          show Steps p.tables e below (T90.setTop (mkF m 241 #[.val (.int p0), .val (.int p1), .val (.int p2), .val (.int p3), .val (.int il1), .val (.int fl3), .val (.int el5), .val (.int es7), .val (.int v10), .val (.int v13), .val (.int v28), .val (.int d19), .val (.int d22), .val (.int d31), .val (.int d34), .val (.int d37), .val (.int d40), .val (.int d43), .val (.ref x49), .val (.ref x53), .val (.ref x90), .val (.int v92), .unset, .unset, .unset, .unset, .unset, .unset, .unset, .unset, .unset, .unset, .unset] [(.int v10)])) _
          refine mg107 _ ?_
          show Steps p.tables e below (T90.setTop (mkF m 251 #[.val (.int p0), .val (.int p1), .val (.int p2), .val (.int p3), .val (.int il1), .val (.int fl3), .val (.int el5), .val (.int es7), .val (.int v10), .val (.int v13), .val (.int v28), .val (.int d19), .val (.int d22), .val (.int d31), .val (.int d34), .val (.int d37), .val (.int d40), .val (.int d43), .val (.ref x49), .val (.ref x53), .val (.ref x90), .val (.int v92), .unset, .unset, .unset, .unset, .unset, .unset, .unset, .unset, .unset, .unset, .unset] [(.int v106)])) _
          exact kt
        have kup : v106 = (69 : Int32) ∨ v106 = (101 : Int32) := by rw [hv106]; split <;> simp
        have kuc : own_c255 v106 := by rcases kup with q | q <;> rw [q] <;> exact ⟨by decide, by decide⟩
        obtain ⟨v110, hv110⟩ : ∃ z : Int32, z = if es7 = (0 : Int32) then (1 : Int32) else (2 : Int32) := ⟨_, rfl⟩
        have mg111 : ∀ t, Steps p.tables e below (T90.setTop (mkF m 267 #[.val (.int p0), .val (.int p1), .val (.int p2), .val (.int p3), .val (.int il1), .val (.int fl3), .val (.int el5), .val (.int es7), .val (.int v10), .val (.int v13), .val (.int v28), .val (.int d19), .val (.int d22), .val (.int d31), .val (.int d34), .val (.int d37), .val (.int d40), .val (.int d43), .val (.ref x49), .val (.ref x53), .val (.ref x90), .val (.int v92), .unset, .unset, .unset, .unset, .unset, .unset, .unset, .unset, .unset, .unset, .unset] [(.int v110), (.int (48 : Int32)), (.int (48 : Int32)), (.int v92), (.int v106)])) t → Steps p.tables e below (T90.setTop (mkF m 259 #[.val (.int p0), .val (.int p1), .val (.int p2), .val (.int p3), .val (.int il1), .val (.int fl3), .val (.int el5), .val (.int es7), .val (.int v10), .val (.int v13), .val (.int v28), .val (.int d19), .val (.int d22), .val (.int d31), .val (.int d34), .val (.int d37), .val (.int d40), .val (.int d43), .val (.ref x49), .val (.ref x53), .val (.ref x90), .val (.int v92), .unset, .unset, .unset, .unset, .unset, .unset, .unset, .unset, .unset, .unset, .unset] [(.int es7), (.int (48 : Int32)), (.int (48 : Int32)), (.int v92), (.int v106)])) t := by
          intro t kt
          by_cases hm109 : es7 = (0 : Int32)
          ·
            have ev110 : v110 = (1 : Int32) := by rw [hv110, if_pos hm109]
            rw [ev110] at kt
            refine (fun t (k : Steps p.tables e below (T90.setTop (mkF m 259 #[.val (.int p0), .val (.int p1), .val (.int p2), .val (.int p3), .val (.int il1), .val (.int fl3), .val (.int el5), .val (.int es7), .val (.int v10), .val (.int v13), .val (.int v28), .val (.int d19), .val (.int d22), .val (.int d31), .val (.int d34), .val (.int d37), .val (.int d40), .val (.int d43), .val (.ref x49), .val (.ref x53), .val (.ref x90), .val (.int v92), .unset, .unset, .unset, .unset, .unset, .unset, .unset, .unset, .unset, .unset, .unset] [(.int es7), (.int (48 : Int32)), (.int (48 : Int32)), (.int v92), (.int v106)])) t) => k) _ ?_
            refine XS.ifNo X90.here hx rfl (hb hby at_259) rfl ((if0 _ _).trans (teq hm109).2) ?_
            refine XS.iconst X90.here hx rfl (hb hby at_262) ?_
            refine XS.goto X90.here hx rfl (pc0 := 263) (pc' := 267) rfl (hb hby at_263) (by decide) (by decide) ?_
            show Steps p.tables e below (T90.setTop (mkF m 267 #[.val (.int p0), .val (.int p1), .val (.int p2), .val (.int p3), .val (.int il1), .val (.int fl3), .val (.int el5), .val (.int es7), .val (.int v10), .val (.int v13), .val (.int v28), .val (.int d19), .val (.int d22), .val (.int d31), .val (.int d34), .val (.int d37), .val (.int d40), .val (.int d43), .val (.ref x49), .val (.ref x53), .val (.ref x90), .val (.int v92), .unset, .unset, .unset, .unset, .unset, .unset, .unset, .unset, .unset, .unset, .unset] [(.int (1 : Int32)), (.int (48 : Int32)), (.int (48 : Int32)), (.int v92), (.int v106)])) _
            exact kt
          ·
            have ev110 : v110 = (2 : Int32) := by rw [hv110, if_neg hm109]
            rw [ev110] at kt
            refine (fun t (k : Steps p.tables e below (T90.setTop (mkF m 259 #[.val (.int p0), .val (.int p1), .val (.int p2), .val (.int p3), .val (.int il1), .val (.int fl3), .val (.int el5), .val (.int es7), .val (.int v10), .val (.int v13), .val (.int v28), .val (.int d19), .val (.int d22), .val (.int d31), .val (.int d34), .val (.int d37), .val (.int d40), .val (.int d43), .val (.ref x49), .val (.ref x53), .val (.ref x90), .val (.int v92), .unset, .unset, .unset, .unset, .unset, .unset, .unset, .unset, .unset, .unset, .unset] [(.int es7), (.int (48 : Int32)), (.int (48 : Int32)), (.int v92), (.int v106)])) t) => k) _ ?_
            refine XS.ifYes X90.here hx rfl (pc0 := 259) (pc' := 266) rfl (hb hby at_259) rfl ((if0 _ _).trans (feq hm109).2) (by decide) (by decide) ?_
            refine XS.iconst X90.here hx rfl (hb hby at_266) ?_
            show Steps p.tables e below (T90.setTop (mkF m 267 #[.val (.int p0), .val (.int p1), .val (.int p2), .val (.int p3), .val (.int il1), .val (.int fl3), .val (.int el5), .val (.int es7), .val (.int v10), .val (.int v13), .val (.int v28), .val (.int d19), .val (.int d22), .val (.int d31), .val (.int d34), .val (.int d37), .val (.int d40), .val (.int d43), .val (.ref x49), .val (.ref x53), .val (.ref x90), .val (.int v92), .unset, .unset, .unset, .unset, .unset, .unset, .unset, .unset, .unset, .unset, .unset] [(.int (2 : Int32)), (.int (48 : Int32)), (.int (48 : Int32)), (.int v92), (.int v106)])) _
            exact kt
        have OLD112 : Old Z n0 T90.heap := OLD0.keep K90 all0
        obtain ⟨_, _, ⟨T112, L112, k112, n112⟩, -, X112, ⟨Lc112, hQ112, l112, y112, z112⟩, st112⟩ := Jvm.LawKit.callS X90 hx (y := (⟨"com/example/reed/reed/engine/IntegralityIsIntegerPinLaw", "text", "(CCCCI)Ljava/lang/String;"⟩ : MethodName)) hown (mvT hZ (hw _ (List.mem_of_getElem? (i := 15) rfl))) (mvT hZ (hw _ (List.mem_of_getElem? (i := 16) rfl))) (mvT hZ (hw _ (List.mem_of_getElem? (i := 2) rfl))) (mvT hZ (hw _ (List.mem_of_getElem? (i := 17) rfl))) (by decide) (backOf (W := 0) (rm3 l Z a0 hw [] v106 v92 (48 : Int32) (48 : Int32) v110 G1 T90.heap n0 (Nat.le_trans Z0 K90.1) OLD112 SCS P5 kuc ksc own_l48 own_l48) hZ (hw _ (List.mem_of_getElem? (i := 17) rfl)) (hw _ (List.mem_of_getElem? (i := 2) rfl)) (by decide) (by decide)) (g := (mkF m 267 #[.val (.int p0), .val (.int p1), .val (.int p2), .val (.int p3), .val (.int il1), .val (.int fl3), .val (.int el5), .val (.int es7), .val (.int v10), .val (.int v13), .val (.int v28), .val (.int d19), .val (.int d22), .val (.int d31), .val (.int d34), .val (.int d37), .val (.int d40), .val (.int d43), .val (.ref x49), .val (.ref x53), .val (.ref x90), .val (.int v92), .unset, .unset, .unset, .unset, .unset, .unset, .unset, .unset, .unset, .unset, .unset] [(.int v110), (.int (48 : Int32)), (.int (48 : Int32)), (.int v92), (.int v106)])) rfl (by rw [hml]; rfl) (argsL := [(.int v106), (.int v92), (.int (48 : Int32)), (.int (48 : Int32)), (.int v110)]) (rest := []) (lenOf pd__CCCCI_Ljava_lang_String_ rfl) rfl (by show 2 * 0 + _ ≤ _; exact Nat.le_of_eq rfl) (hb hby at_267) (fun _ _ => ⟨rfl, rfl, (by decide : 8 + 3 ≤ _), (by decide : 28 + 12 ≤ _)⟩)
        dsimp only [Pt.U, Pt.locs, Pt.cells, Pt.slots] at X112 l112 y112 z112 st112 hQ112
        subst l112 y112 z112
        obtain ⟨x112, rfl, N112q, kq112, gg112, u112, xs112⟩ := hQ112
        have N112 := Fr.app N90 N112q
        have K112 := K90.trans kq112 all0
        have hk113 : ¬ (el5 = (0 : Int32)) := hc231
        obtain ⟨_, _, ⟨T114, L114, k114, n114⟩, -, X114, ⟨Lc114, hQ114, l114, y114, z114⟩, st114⟩ := Jvm.LawKit.callS X112 hx (y := (⟨"com/example/reed/reed/engine/IntegralityIsIntegerPinLaw", "ch", "(I)C"⟩ : MethodName)) hown (mvT hZ (hw _ (List.mem_of_getElem? (i := 12) rfl))) (mvT hZ (hw _ (List.mem_of_getElem? (i := 13) rfl))) (mvT hZ (hw _ (List.mem_of_getElem? (i := 2) rfl))) (mvT hZ (hw _ (List.mem_of_getElem? (i := 14) rfl))) (by decide) (backOf (W := 0) (rm2 l Z a0 hw [] d40 T112.heap n0 (Nat.le_trans Z0 K112.1) d9d40) hZ (hw _ (List.mem_of_getElem? (i := 14) rfl)) (hw _ (List.mem_of_getElem? (i := 2) rfl)) (by decide) (by decide)) (g := (mkF m 284 #[.val (.int p0), .val (.int p1), .val (.int p2), .val (.int p3), .val (.int il1), .val (.int fl3), .val (.int el5), .val (.int es7), .val (.int v10), .val (.int v13), .val (.int v28), .val (.int d19), .val (.int d22), .val (.int d31), .val (.int d34), .val (.int d37), .val (.int d40), .val (.int d43), .val (.ref x49), .val (.ref x53), .val (.ref x90), .val (.int v92), .val (.ref x112), .unset, .unset, .unset, .unset, .unset, .unset, .unset, .unset, .unset, .unset] [(.int d40)])) rfl (by rw [hml]; rfl) (argsL := [(.int d40)]) (rest := []) (lenOf pd__I_C rfl) rfl (by show 2 * 0 + _ ≤ _; exact Nat.le_of_eq rfl) (hb hby at_284) (fun _ _ => ⟨rfl, rfl, (by decide : 11 + 0 ≤ _), (by decide : 40 + 0 ≤ _)⟩)
        dsimp only [Pt.U, Pt.locs, Pt.cells, Pt.slots] at X114 l114 y114 z114 st114 hQ114
        subst l114 y114 z114
        obtain ⟨rfl, N114q, hq114⟩ := hQ114
        have N114 := Fr.app N112 N114q
        have E114 : Ext T112.heap T114.heap := by rw [hq114]; exact ⟨Nat.le_refl _, fun _ _ q => q⟩
        have K114 := K112.ext E114
        obtain ⟨_, _, ⟨T115, L115, k115, n115⟩, -, X115, ⟨Lc115, hQ115, l115, y115, z115⟩, st115⟩ := Jvm.LawKit.callS X114 hx (y := (⟨"com/example/reed/reed/engine/IntegralityIsIntegerPinLaw", "ch", "(I)C"⟩ : MethodName)) hown (mvT hZ (hw _ (List.mem_of_getElem? (i := 12) rfl))) (mvT hZ (hw _ (List.mem_of_getElem? (i := 13) rfl))) (mvT hZ (hw _ (List.mem_of_getElem? (i := 2) rfl))) (mvT hZ (hw _ (List.mem_of_getElem? (i := 14) rfl))) (by decide) (backOf (W := 1) (rm2 l Z a0 hw [] d43 T114.heap n0 (Nat.le_trans Z0 K114.1) d9d43) hZ (hw _ (List.mem_of_getElem? (i := 14) rfl)) (hw _ (List.mem_of_getElem? (i := 2) rfl)) (by decide) (by decide)) (g := (mkF m 289 #[.val (.int p0), .val (.int p1), .val (.int p2), .val (.int p3), .val (.int il1), .val (.int fl3), .val (.int el5), .val (.int es7), .val (.int v10), .val (.int v13), .val (.int v28), .val (.int d19), .val (.int d22), .val (.int d31), .val (.int d34), .val (.int d37), .val (.int d40), .val (.int d43), .val (.ref x49), .val (.ref x53), .val (.ref x90), .val (.int v92), .val (.ref x112), .unset, .unset, .unset, .unset, .unset, .unset, .unset, .unset, .unset, .unset] [(.int d43), (.int ((48 : Int32) + d40))])) rfl (by rw [hml]; rfl) (argsL := [(.int d43)]) (rest := [(.int ((48 : Int32) + d40))]) (lenOf pd__I_C rfl) rfl (by show 2 * 0 + _ ≤ _; exact Nat.le_of_eq rfl) (hb hby at_289) (fun _ _ => ⟨rfl, rfl, (by decide : 11 + 0 ≤ _), (by decide : 40 + 0 ≤ _)⟩)
        dsimp only [Pt.U, Pt.locs, Pt.cells, Pt.slots] at X115 l115 y115 z115 st115 hQ115
        subst l115 y115 z115
        obtain ⟨rfl, N115q, hq115⟩ := hQ115
        have N115 := Fr.app N114 N115q
        have E115 : Ext T114.heap T115.heap := by rw [hq115]; exact ⟨Nat.le_refl _, fun _ _ q => q⟩
        have K115 := K114.ext E115
        have OLD116 : Old Z n0 T115.heap := OLD0.keep K115 all0
        obtain ⟨_, _, ⟨T116, L116, k116, n116⟩, -, X116, ⟨Lc116, hQ116, l116, y116, z116⟩, st116⟩ := Jvm.LawKit.callS X115 hx (y := (⟨"com/example/reed/reed/engine/IntegralityIsIntegerPinLaw", "text", "(CCCCI)Ljava/lang/String;"⟩ : MethodName)) hown (mvT hZ (hw _ (List.mem_of_getElem? (i := 15) rfl))) (mvT hZ (hw _ (List.mem_of_getElem? (i := 16) rfl))) (mvT hZ (hw _ (List.mem_of_getElem? (i := 2) rfl))) (mvT hZ (hw _ (List.mem_of_getElem? (i := 17) rfl))) (by decide) (backOf (W := 0) (rm3 l Z a0 hw [] ((48 : Int32) + d40) ((48 : Int32) + d43) (48 : Int32) (48 : Int32) el5 G1 T115.heap n0 (Nat.le_trans Z0 K115.1) OLD116 SCS P5 (own_c48 d9d40) (own_c48 d9d43) own_l48 own_l48) hZ (hw _ (List.mem_of_getElem? (i := 17) rfl)) (hw _ (List.mem_of_getElem? (i := 2) rfl)) (by decide) (by decide)) (g := (mkF m 298 #[.val (.int p0), .val (.int p1), .val (.int p2), .val (.int p3), .val (.int il1), .val (.int fl3), .val (.int el5), .val (.int es7), .val (.int v10), .val (.int v13), .val (.int v28), .val (.int d19), .val (.int d22), .val (.int d31), .val (.int d34), .val (.int d37), .val (.int d40), .val (.int d43), .val (.ref x49), .val (.ref x53), .val (.ref x90), .val (.int v92), .val (.ref x112), .unset, .unset, .unset, .unset, .unset, .unset, .unset, .unset, .unset, .unset] [(.int el5), (.int (48 : Int32)), (.int (48 : Int32)), (.int ((48 : Int32) + d43)), (.int ((48 : Int32) + d40))])) rfl (by rw [hml]; rfl) (argsL := [(.int ((48 : Int32) + d40)), (.int ((48 : Int32) + d43)), (.int (48 : Int32)), (.int (48 : Int32)), (.int el5)]) (rest := []) (lenOf pd__CCCCI_Ljava_lang_String_ rfl) rfl (by show 2 * 0 + _ ≤ _; exact Nat.le_of_eq rfl) (hb hby at_298) (fun _ _ => ⟨rfl, rfl, (by decide : 11 + 3 ≤ _), (by decide : 40 + 12 ≤ _)⟩)
        dsimp only [Pt.U, Pt.locs, Pt.cells, Pt.slots] at X116 l116 y116 z116 st116 hQ116
        subst l116 y116 z116
        obtain ⟨x116, rfl, N116q, kq116, gg116, u116, xs116⟩ := hQ116
        have N116 := Fr.app N115 N116q
        have K116 := K115.trans kq116 all0
        have c117 := (own_strP (own_strE (own_strE (own_strP (own_strP (own_strE (own_strE (own_strE (own_strP (own_strE (own_strE (own_strE xs49 E50) E51) E52) kq53) E87) E88) E89) kq90) kq112) E114) E115) kq116)
        have c118 := (own_strP (own_strE (own_strE (own_strP (own_strP (own_strE (own_strE (own_strE xs53 E87) E88) E89) kq90) kq112) E114) E115) kq116)
        have c119 := (own_strP (own_strE (own_strE (own_strP xs90 kq112) E114) E115) kq116)
        have c120 := (own_strP (own_strE (own_strE xs112 E114) E115) kq116)
        have pre121 : ∀ t, Steps p.tables e below (T116.setTop (mkF m 303 #[.val (.int p0), .val (.int p1), .val (.int p2), .val (.int p3), .val (.int il1), .val (.int fl3), .val (.int el5), .val (.int es7), .val (.int v10), .val (.int v13), .val (.int v28), .val (.int d19), .val (.int d22), .val (.int d31), .val (.int d34), .val (.int d37), .val (.int d40), .val (.int d43), .val (.ref x49), .val (.ref x53), .val (.ref x90), .val (.int v92), .val (.ref x112), .val (.ref x116), .unset, .unset, .unset, .unset, .unset, .unset, .unset, .unset, .unset] [])) t → Steps p.tables e below (s₁.setTop (entryFrame m #[(.int p0), (.int p1), (.int p2), (.int p3)] maxLocals)) t := by
          intro t kt
          refine pre108 _ ?_
          show Steps p.tables e below (T90.setTop (mkF m 251 #[.val (.int p0), .val (.int p1), .val (.int p2), .val (.int p3), .val (.int il1), .val (.int fl3), .val (.int el5), .val (.int es7), .val (.int v10), .val (.int v13), .val (.int v28), .val (.int d19), .val (.int d22), .val (.int d31), .val (.int d34), .val (.int d37), .val (.int d40), .val (.int d43), .val (.ref x49), .val (.ref x53), .val (.ref x90), .val (.int v92), .unset, .unset, .unset, .unset, .unset, .unset, .unset, .unset, .unset, .unset, .unset] [(.int v106)])) _
          refine XS.iload X90.here hx rfl (hb hby at_251) rfl ?_
          refine XS.bipush X90.here hx rfl (hb hby at_253) ?_
          refine XS.bipush X90.here hx rfl (hb hby at_255) ?_
          show Steps p.tables e below (T90.setTop (mkF m 257 #[.val (.int p0), .val (.int p1), .val (.int p2), .val (.int p3), .val (.int il1), .val (.int fl3), .val (.int el5), .val (.int es7), .val (.int v10), .val (.int v13), .val (.int v28), .val (.int d19), .val (.int d22), .val (.int d31), .val (.int d34), .val (.int d37), .val (.int d40), .val (.int d43), .val (.ref x49), .val (.ref x53), .val (.ref x90), .val (.int v92), .unset, .unset, .unset, .unset, .unset, .unset, .unset, .unset, .unset, .unset, .unset] [(.int (48 : Int32)), (.int (48 : Int32)), (.int v92), (.int v106)])) _
          refine XS.iload X90.here hx rfl (hb hby at_257) rfl ?_
          show Steps p.tables e below (T90.setTop (mkF m 259 #[.val (.int p0), .val (.int p1), .val (.int p2), .val (.int p3), .val (.int il1), .val (.int fl3), .val (.int el5), .val (.int es7), .val (.int v10), .val (.int v13), .val (.int v28), .val (.int d19), .val (.int d22), .val (.int d31), .val (.int d34), .val (.int d37), .val (.int d40), .val (.int d43), .val (.ref x49), .val (.ref x53), .val (.ref x90), .val (.int v92), .unset, .unset, .unset, .unset, .unset, .unset, .unset, .unset, .unset, .unset, .unset] [(.int es7), (.int (48 : Int32)), (.int (48 : Int32)), (.int v92), (.int v106)])) _
          refine mg111 _ ?_
          show Steps p.tables e below (T90.setTop (mkF m 267 #[.val (.int p0), .val (.int p1), .val (.int p2), .val (.int p3), .val (.int il1), .val (.int fl3), .val (.int el5), .val (.int es7), .val (.int v10), .val (.int v13), .val (.int v28), .val (.int d19), .val (.int d22), .val (.int d31), .val (.int d34), .val (.int d37), .val (.int d40), .val (.int d43), .val (.ref x49), .val (.ref x53), .val (.ref x90), .val (.int v92), .unset, .unset, .unset, .unset, .unset, .unset, .unset, .unset, .unset, .unset, .unset] [(.int v110), (.int (48 : Int32)), (.int (48 : Int32)), (.int v92), (.int v106)])) _
          refine st112 _ ?_
          show Steps p.tables e below (T112.setTop (mkF m 270 #[.val (.int p0), .val (.int p1), .val (.int p2), .val (.int p3), .val (.int il1), .val (.int fl3), .val (.int el5), .val (.int es7), .val (.int v10), .val (.int v13), .val (.int v28), .val (.int d19), .val (.int d22), .val (.int d31), .val (.int d34), .val (.int d37), .val (.int d40), .val (.int d43), .val (.ref x49), .val (.ref x53), .val (.ref x90), .val (.int v92), .unset, .unset, .unset, .unset, .unset, .unset, .unset, .unset, .unset, .unset, .unset] [(.ref x112)])) _
          refine XS.astore X112.here hx rfl (hb hby at_270) rfl rfl (l' := #[.val (.int p0), .val (.int p1), .val (.int p2), .val (.int p3), .val (.int il1), .val (.int fl3), .val (.int el5), .val (.int es7), .val (.int v10), .val (.int v13), .val (.int v28), .val (.int d19), .val (.int d22), .val (.int d31), .val (.int d34), .val (.int d37), .val (.int d40), .val (.int d43), .val (.ref x49), .val (.ref x53), .val (.ref x90), .val (.int v92), .val (.ref x112), .unset, .unset, .unset, .unset, .unset, .unset, .unset, .unset, .unset, .unset]) rfl ?_
          refine XS.iload X112.here hx rfl (hb hby at_272) rfl ?_
          refine XS.ifYes X112.here hx rfl (pc0 := 274) (pc' := 282) rfl (hb hby at_274) rfl ((if0 _ _).trans (feq hk113).2) (by decide) (by decide) ?_
          show Steps p.tables e below (T112.setTop (mkF m 282 #[.val (.int p0), .val (.int p1), .val (.int p2), .val (.int p3), .val (.int il1), .val (.int fl3), .val (.int el5), .val (.int es7), .val (.int v10), .val (.int v13), .val (.int v28), .val (.int d19), .val (.int d22), .val (.int d31), .val (.int d34), .val (.int d37), .val (.int d40), .val (.int d43), .val (.ref x49), .val (.ref x53), .val (.ref x90), .val (.int v92), .val (.ref x112), .unset, .unset, .unset, .unset, .unset, .unset, .unset, .unset, .unset, .unset] [])) _
          refine XS.iload X112.here hx rfl (hb hby at_282) rfl ?_
          show Steps p.tables e below (T112.setTop (mkF m 284 #[.val (.int p0), .val (.int p1), .val (.int p2), .val (.int p3), .val (.int il1), .val (.int fl3), .val (.int el5), .val (.int es7), .val (.int v10), .val (.int v13), .val (.int v28), .val (.int d19), .val (.int d22), .val (.int d31), .val (.int d34), .val (.int d37), .val (.int d40), .val (.int d43), .val (.ref x49), .val (.ref x53), .val (.ref x90), .val (.int v92), .val (.ref x112), .unset, .unset, .unset, .unset, .unset, .unset, .unset, .unset, .unset, .unset] [(.int d40)])) _
          refine st114 _ ?_
          show Steps p.tables e below (T114.setTop (mkF m 287 #[.val (.int p0), .val (.int p1), .val (.int p2), .val (.int p3), .val (.int il1), .val (.int fl3), .val (.int el5), .val (.int es7), .val (.int v10), .val (.int v13), .val (.int v28), .val (.int d19), .val (.int d22), .val (.int d31), .val (.int d34), .val (.int d37), .val (.int d40), .val (.int d43), .val (.ref x49), .val (.ref x53), .val (.ref x90), .val (.int v92), .val (.ref x112), .unset, .unset, .unset, .unset, .unset, .unset, .unset, .unset, .unset, .unset] [(.int ((48 : Int32) + d40))])) _
          refine XS.iload X114.here hx rfl (hb hby at_287) rfl ?_
          show Steps p.tables e below (T114.setTop (mkF m 289 #[.val (.int p0), .val (.int p1), .val (.int p2), .val (.int p3), .val (.int il1), .val (.int fl3), .val (.int el5), .val (.int es7), .val (.int v10), .val (.int v13), .val (.int v28), .val (.int d19), .val (.int d22), .val (.int d31), .val (.int d34), .val (.int d37), .val (.int d40), .val (.int d43), .val (.ref x49), .val (.ref x53), .val (.ref x90), .val (.int v92), .val (.ref x112), .unset, .unset, .unset, .unset, .unset, .unset, .unset, .unset, .unset, .unset] [(.int d43), (.int ((48 : Int32) + d40))])) _
          refine st115 _ ?_
          show Steps p.tables e below (T115.setTop (mkF m 292 #[.val (.int p0), .val (.int p1), .val (.int p2), .val (.int p3), .val (.int il1), .val (.int fl3), .val (.int el5), .val (.int es7), .val (.int v10), .val (.int v13), .val (.int v28), .val (.int d19), .val (.int d22), .val (.int d31), .val (.int d34), .val (.int d37), .val (.int d40), .val (.int d43), .val (.ref x49), .val (.ref x53), .val (.ref x90), .val (.int v92), .val (.ref x112), .unset, .unset, .unset, .unset, .unset, .unset, .unset, .unset, .unset, .unset] [(.int ((48 : Int32) + d43)), (.int ((48 : Int32) + d40))])) _
          refine XS.bipush X115.here hx rfl (hb hby at_292) ?_
          refine XS.bipush X115.here hx rfl (hb hby at_294) ?_
          refine XS.iload X115.here hx rfl (hb hby at_296) rfl ?_
          show Steps p.tables e below (T115.setTop (mkF m 298 #[.val (.int p0), .val (.int p1), .val (.int p2), .val (.int p3), .val (.int il1), .val (.int fl3), .val (.int el5), .val (.int es7), .val (.int v10), .val (.int v13), .val (.int v28), .val (.int d19), .val (.int d22), .val (.int d31), .val (.int d34), .val (.int d37), .val (.int d40), .val (.int d43), .val (.ref x49), .val (.ref x53), .val (.ref x90), .val (.int v92), .val (.ref x112), .unset, .unset, .unset, .unset, .unset, .unset, .unset, .unset, .unset, .unset] [(.int el5), (.int (48 : Int32)), (.int (48 : Int32)), (.int ((48 : Int32) + d43)), (.int ((48 : Int32) + d40))])) _
          refine st116 _ ?_
          show Steps p.tables e below (T116.setTop (mkF m 301 #[.val (.int p0), .val (.int p1), .val (.int p2), .val (.int p3), .val (.int il1), .val (.int fl3), .val (.int el5), .val (.int es7), .val (.int v10), .val (.int v13), .val (.int v28), .val (.int d19), .val (.int d22), .val (.int d31), .val (.int d34), .val (.int d37), .val (.int d40), .val (.int d43), .val (.ref x49), .val (.ref x53), .val (.ref x90), .val (.int v92), .val (.ref x112), .unset, .unset, .unset, .unset, .unset, .unset, .unset, .unset, .unset, .unset] [(.ref x116)])) _
          refine XS.astore X116.here hx rfl (hb hby at_301) rfl rfl (l' := #[.val (.int p0), .val (.int p1), .val (.int p2), .val (.int p3), .val (.int il1), .val (.int fl3), .val (.int el5), .val (.int es7), .val (.int v10), .val (.int v13), .val (.int v28), .val (.int d19), .val (.int d22), .val (.int d31), .val (.int d34), .val (.int d37), .val (.int d40), .val (.int d43), .val (.ref x49), .val (.ref x53), .val (.ref x90), .val (.int v92), .val (.ref x112), .val (.ref x116), .unset, .unset, .unset, .unset, .unset, .unset, .unset, .unset, .unset]) rfl ?_
          show Steps p.tables e below (T116.setTop (mkF m 303 #[.val (.int p0), .val (.int p1), .val (.int p2), .val (.int p3), .val (.int il1), .val (.int fl3), .val (.int el5), .val (.int es7), .val (.int v10), .val (.int v13), .val (.int v28), .val (.int d19), .val (.int d22), .val (.int d31), .val (.int d34), .val (.int d37), .val (.int d40), .val (.int d43), .val (.ref x49), .val (.ref x53), .val (.ref x90), .val (.int v92), .val (.ref x112), .val (.ref x116), .unset, .unset, .unset, .unset, .unset, .unset, .unset, .unset, .unset] [])) _
          exact kt
        have HL := own_main kil kfl kel kes d9v28 d9d19 d9d22 d9d31 d9d34 d9d37 d9d40 d9d43 (up := v106) (sc := v92) kup hv92 (cs1 := []) (cs3 := (own_take ((1 : Int32) + fl3) (46 : Int32) ((48 : Int32) + d31) ((48 : Int32) + d34) ((48 : Int32) + d37))) (cs4 := (own_take v110 v106 v92 (48 : Int32) (48 : Int32))) (cs5 := (own_take el5 ((48 : Int32) + d40) ((48 : Int32) + d43) (48 : Int32) (48 : Int32))) (Or.inl rfl) (by rw [if_neg hc180]) (by rw [if_neg hc231, hv110]) (by rw [if_neg hc231])
        have OLDz : Old Z n0 T116.heap := OLD0.keep K116 all0
        obtain ⟨Lh, Xh, Nh⟩ := own_hide X116 N116 (C := 30) (S := 2000) (Nat.le_of_ble_eq_true rfl) (Nat.le_of_ble_eq_true rfl)
        obtain ⟨T2, Ls, L2, X2, N2, hz2, st2⟩ := own_tail Xh hx hZ hw hby hml hown rfl Nh (Nat.le_trans Z0 K116.1) OLDz SCS P5 SSI rfm c117 c118 c119 c120 xs116 own_lm0 (own_takeC (own_c48 d9v28) (own_c48 d9d19) (own_c48 d9d22) own_l48) (own_takeC own_l46 (own_c48 d9d31) (own_c48 d9d34) (own_c48 d9d37)) (own_takeC kuc ksc own_l48 own_l48) (own_takeC (own_c48 d9d40) (own_c48 d9d43) own_l48 own_l48) (by decide) (own_takeL _ _ _ _ _) (own_takeL _ _ _ _ _) (own_takeL _ _ _ _ _) (own_takeL _ _ _ _ _) HL (p0 := p0) (p1 := p1) (p2 := p2) (p3 := p3) (up := v10) (ng := v13) (sc := v92)
        obtain ⟨fs, hr, hrun, hended, hW⟩ := X2.leaveW hS49 (Nat.le_trans (Nat.le_trans (Nat.le_trans (Nat.le_trans (Nat.le_trans (Nat.le_trans (Nat.le_trans (Nat.le_trans (Nat.le_trans (Nat.le_trans (Nat.le_trans (Nat.le_trans (Nat.le_trans hk49 E50.1) E51.1) E52.1) kq53.1) E87.1) E88.1) E89.1) kq90.1) kq112.1) E114.1) E115.1) kq116.1) hz2) (v := some (.int (1 : Int32))) (fun h => by rw [Bd.returns] at h; cases h)
        exact ⟨_, _, pre121 _ (st2 _ (retN X2 hx (t := .boolean) Bd.returns (by simp) (hb hby at_564) hr)), hrun, hended, _, _, rfl, ⟨rfl, N2⟩, hW⟩
  ·
    have pre122 : ∀ t, Steps p.tables e below (T42.setTop (mkF m 145 #[.val (.int p0), .val (.int p1), .val (.int p2), .val (.int p3), .val (.int il1), .val (.int fl3), .val (.int el5), .val (.int es7), .val (.int v10), .val (.int v13), .val (.int v28), .val (.int d19), .val (.int d22), .val (.int d31), .val (.int d34), .val (.int d37), .val (.int d40), .val (.int d43), .unset, .unset, .unset, .unset, .unset, .unset, .unset, .unset, .unset, .unset, .unset, .unset, .unset, .unset, .unset] [])) t → Steps p.tables e below (s₁.setTop (entryFrame m #[(.int p0), (.int p1), (.int p2), (.int p3)] maxLocals)) t := by
      intro t kt
      refine pre46 _ ?_
      show Steps p.tables e below (T42.setTop (mkF m 142 #[.val (.int p0), .val (.int p1), .val (.int p2), .val (.int p3), .val (.int il1), .val (.int fl3), .val (.int el5), .val (.int es7), .val (.int v10), .val (.int v13), .val (.int v28), .val (.int d19), .val (.int d22), .val (.int d31), .val (.int d34), .val (.int d37), .val (.int d40), .val (.int d43), .unset, .unset, .unset, .unset, .unset, .unset, .unset, .unset, .unset, .unset, .unset, .unset, .unset, .unset, .unset] [(.int v13)])) _
      refine XS.ifNo X42.here hx rfl (hb hby at_142) rfl ((if0 _ _).trans (feq hc142).1) ?_
      show Steps p.tables e below (T42.setTop (mkF m 145 #[.val (.int p0), .val (.int p1), .val (.int p2), .val (.int p3), .val (.int il1), .val (.int fl3), .val (.int el5), .val (.int es7), .val (.int v10), .val (.int v13), .val (.int v28), .val (.int d19), .val (.int d22), .val (.int d31), .val (.int d34), .val (.int d37), .val (.int d40), .val (.int d43), .unset, .unset, .unset, .unset, .unset, .unset, .unset, .unset, .unset, .unset, .unset, .unset, .unset, .unset, .unset] [])) _
      exact kt
    obtain ⟨x123, T123, h123, k123, b123, kb123, X123, e123, E123, hS123, hk123, hZ, hown, xe123, xc123, xv123, xa123, -, -, I123, lt123, st123⟩ := ldcSVL (s := s) (vm0 := s.vm) X42 hx hZ hown (hw _ (List.mem_of_getElem? (i := 135) rfl)) wS rfl hS0 (by rw [hh]; exact K42.1) (by rw [hn0]; exact N42) hkp I0 (by decide) HC13 HCW (vs := [.int 45]) (z := (1 : Int32)) own_ht1 (by decide) (by decide) (g := (mkF m 145 #[.val (.int p0), .val (.int p1), .val (.int p2), .val (.int p3), .val (.int il1), .val (.int fl3), .val (.int el5), .val (.int es7), .val (.int v10), .val (.int v13), .val (.int v28), .val (.int d19), .val (.int d22), .val (.int d31), .val (.int d34), .val (.int d37), .val (.int d40), .val (.int d43), .unset, .unset, .unset, .unset, .unset, .unset, .unset, .unset, .unset, .unset, .unset, .unset, .unset, .unset, .unset] [])) rfl (hb hby at_145) (n := 4) own_hn1 (by decide) (by decide) (by decide)
    have xs123 : own_str Z h123 x123 [45] := ⟨b123, kb123, xe123, xc123, xv123, xa123⟩
    have K123 := K42.ext E123
    obtain ⟨_, _, ⟨T124, L124, k124, n124⟩, -, X124, ⟨Lc124, hQ124, l124, y124, z124⟩, st124⟩ := Jvm.LawKit.callS X123 hx (y := (⟨"com/example/reed/reed/engine/IntegralityIsIntegerPinLaw", "ch", "(I)C"⟩ : MethodName)) hown (mvT hZ (hw _ (List.mem_of_getElem? (i := 12) rfl))) (mvT hZ (hw _ (List.mem_of_getElem? (i := 13) rfl))) (mvT hZ (hw _ (List.mem_of_getElem? (i := 2) rfl))) (mvT hZ (hw _ (List.mem_of_getElem? (i := 14) rfl))) (by decide) (backOf (W := 0) (rm2 l Z a0 hw [] v28 h123 n0 (Nat.le_trans Z0 K123.1) d9v28) hZ (hw _ (List.mem_of_getElem? (i := 14) rfl)) (hw _ (List.mem_of_getElem? (i := 2) rfl)) (by decide) (by decide)) (g := (mkF m 156 #[.val (.int p0), .val (.int p1), .val (.int p2), .val (.int p3), .val (.int il1), .val (.int fl3), .val (.int el5), .val (.int es7), .val (.int v10), .val (.int v13), .val (.int v28), .val (.int d19), .val (.int d22), .val (.int d31), .val (.int d34), .val (.int d37), .val (.int d40), .val (.int d43), .val (.ref x123), .unset, .unset, .unset, .unset, .unset, .unset, .unset, .unset, .unset, .unset, .unset, .unset, .unset, .unset] [(.int v28)])) rfl (by rw [hml]; rfl) (argsL := [(.int v28)]) (rest := []) (lenOf pd__I_C rfl) rfl (by show 2 * 0 + _ ≤ _; exact Nat.le_of_eq rfl) (hb hby at_156) (fun _ _ => ⟨rfl, e123, (by decide : 2 + 0 ≤ _), (by decide : 8 + 0 ≤ _)⟩)
    dsimp only [Pt.U, Pt.locs, Pt.cells, Pt.slots] at X124 l124 y124 z124 st124 hQ124
    subst l124 y124 z124
    obtain ⟨rfl, N124q, hq124⟩ := hQ124
    have N124 := Fr.app N42 N124q
    have E124 : Ext h123 T124.heap := by rw [hq124]; exact ⟨Nat.le_refl _, fun _ _ q => q⟩
    have K124 := K123.ext E124
    obtain ⟨_, _, ⟨T125, L125, k125, n125⟩, -, X125, ⟨Lc125, hQ125, l125, y125, z125⟩, st125⟩ := Jvm.LawKit.callS X124 hx (y := (⟨"com/example/reed/reed/engine/IntegralityIsIntegerPinLaw", "ch", "(I)C"⟩ : MethodName)) hown (mvT hZ (hw _ (List.mem_of_getElem? (i := 12) rfl))) (mvT hZ (hw _ (List.mem_of_getElem? (i := 13) rfl))) (mvT hZ (hw _ (List.mem_of_getElem? (i := 2) rfl))) (mvT hZ (hw _ (List.mem_of_getElem? (i := 14) rfl))) (by decide) (backOf (W := 1) (rm2 l Z a0 hw [] d19 T124.heap n0 (Nat.le_trans Z0 K124.1) d9d19) hZ (hw _ (List.mem_of_getElem? (i := 14) rfl)) (hw _ (List.mem_of_getElem? (i := 2) rfl)) (by decide) (by decide)) (g := (mkF m 161 #[.val (.int p0), .val (.int p1), .val (.int p2), .val (.int p3), .val (.int il1), .val (.int fl3), .val (.int el5), .val (.int es7), .val (.int v10), .val (.int v13), .val (.int v28), .val (.int d19), .val (.int d22), .val (.int d31), .val (.int d34), .val (.int d37), .val (.int d40), .val (.int d43), .val (.ref x123), .unset, .unset, .unset, .unset, .unset, .unset, .unset, .unset, .unset, .unset, .unset, .unset, .unset, .unset] [(.int d19), (.int ((48 : Int32) + v28))])) rfl (by rw [hml]; rfl) (argsL := [(.int d19)]) (rest := [(.int ((48 : Int32) + v28))]) (lenOf pd__I_C rfl) rfl (by show 2 * 0 + _ ≤ _; exact Nat.le_of_eq rfl) (hb hby at_161) (fun _ _ => ⟨rfl, rfl, (by decide : 2 + 0 ≤ _), (by decide : 8 + 0 ≤ _)⟩)
    dsimp only [Pt.U, Pt.locs, Pt.cells, Pt.slots] at X125 l125 y125 z125 st125 hQ125
    subst l125 y125 z125
    obtain ⟨rfl, N125q, hq125⟩ := hQ125
    have N125 := Fr.app N124 N125q
    have E125 : Ext T124.heap T125.heap := by rw [hq125]; exact ⟨Nat.le_refl _, fun _ _ q => q⟩
    have K125 := K124.ext E125
    obtain ⟨_, _, ⟨T126, L126, k126, n126⟩, -, X126, ⟨Lc126, hQ126, l126, y126, z126⟩, st126⟩ := Jvm.LawKit.callS X125 hx (y := (⟨"com/example/reed/reed/engine/IntegralityIsIntegerPinLaw", "ch", "(I)C"⟩ : MethodName)) hown (mvT hZ (hw _ (List.mem_of_getElem? (i := 12) rfl))) (mvT hZ (hw _ (List.mem_of_getElem? (i := 13) rfl))) (mvT hZ (hw _ (List.mem_of_getElem? (i := 2) rfl))) (mvT hZ (hw _ (List.mem_of_getElem? (i := 14) rfl))) (by decide) (backOf (W := 2) (rm2 l Z a0 hw [] d22 T125.heap n0 (Nat.le_trans Z0 K125.1) d9d22) hZ (hw _ (List.mem_of_getElem? (i := 14) rfl)) (hw _ (List.mem_of_getElem? (i := 2) rfl)) (by decide) (by decide)) (g := (mkF m 166 #[.val (.int p0), .val (.int p1), .val (.int p2), .val (.int p3), .val (.int il1), .val (.int fl3), .val (.int el5), .val (.int es7), .val (.int v10), .val (.int v13), .val (.int v28), .val (.int d19), .val (.int d22), .val (.int d31), .val (.int d34), .val (.int d37), .val (.int d40), .val (.int d43), .val (.ref x123), .unset, .unset, .unset, .unset, .unset, .unset, .unset, .unset, .unset, .unset, .unset, .unset, .unset, .unset] [(.int d22), (.int ((48 : Int32) + d19)), (.int ((48 : Int32) + v28))])) rfl (by rw [hml]; rfl) (argsL := [(.int d22)]) (rest := [(.int ((48 : Int32) + d19)), (.int ((48 : Int32) + v28))]) (lenOf pd__I_C rfl) rfl (by show 2 * 0 + _ ≤ _; exact Nat.le_of_eq rfl) (hb hby at_166) (fun _ _ => ⟨rfl, rfl, (by decide : 2 + 0 ≤ _), (by decide : 8 + 0 ≤ _)⟩)
    dsimp only [Pt.U, Pt.locs, Pt.cells, Pt.slots] at X126 l126 y126 z126 st126 hQ126
    subst l126 y126 z126
    obtain ⟨rfl, N126q, hq126⟩ := hQ126
    have N126 := Fr.app N125 N126q
    have E126 : Ext T125.heap T126.heap := by rw [hq126]; exact ⟨Nat.le_refl _, fun _ _ q => q⟩
    have K126 := K125.ext E126
    have OLD127 : Old Z n0 T126.heap := OLD0.keep K126 all0
    obtain ⟨_, _, ⟨T127, L127, k127, n127⟩, -, X127, ⟨Lc127, hQ127, l127, y127, z127⟩, st127⟩ := Jvm.LawKit.callS X126 hx (y := (⟨"com/example/reed/reed/engine/IntegralityIsIntegerPinLaw", "text", "(CCCCI)Ljava/lang/String;"⟩ : MethodName)) hown (mvT hZ (hw _ (List.mem_of_getElem? (i := 15) rfl))) (mvT hZ (hw _ (List.mem_of_getElem? (i := 16) rfl))) (mvT hZ (hw _ (List.mem_of_getElem? (i := 2) rfl))) (mvT hZ (hw _ (List.mem_of_getElem? (i := 17) rfl))) (by decide) (backOf (W := 0) (rm3 l Z a0 hw [] ((48 : Int32) + v28) ((48 : Int32) + d19) ((48 : Int32) + d22) (48 : Int32) il1 G1 T126.heap n0 (Nat.le_trans Z0 K126.1) OLD127 SCS P5 (own_c48 d9v28) (own_c48 d9d19) (own_c48 d9d22) own_l48) hZ (hw _ (List.mem_of_getElem? (i := 17) rfl)) (hw _ (List.mem_of_getElem? (i := 2) rfl)) (by decide) (by decide)) (g := (mkF m 173 #[.val (.int p0), .val (.int p1), .val (.int p2), .val (.int p3), .val (.int il1), .val (.int fl3), .val (.int el5), .val (.int es7), .val (.int v10), .val (.int v13), .val (.int v28), .val (.int d19), .val (.int d22), .val (.int d31), .val (.int d34), .val (.int d37), .val (.int d40), .val (.int d43), .val (.ref x123), .unset, .unset, .unset, .unset, .unset, .unset, .unset, .unset, .unset, .unset, .unset, .unset, .unset, .unset] [(.int il1), (.int (48 : Int32)), (.int ((48 : Int32) + d22)), (.int ((48 : Int32) + d19)), (.int ((48 : Int32) + v28))])) rfl (by rw [hml]; rfl) (argsL := [(.int ((48 : Int32) + v28)), (.int ((48 : Int32) + d19)), (.int ((48 : Int32) + d22)), (.int (48 : Int32)), (.int il1)]) (rest := []) (lenOf pd__CCCCI_Ljava_lang_String_ rfl) rfl (by show 2 * 0 + _ ≤ _; exact Nat.le_of_eq rfl) (hb hby at_173) (fun _ _ => ⟨rfl, rfl, (by decide : 2 + 3 ≤ _), (by decide : 8 + 12 ≤ _)⟩)
    dsimp only [Pt.U, Pt.locs, Pt.cells, Pt.slots] at X127 l127 y127 z127 st127 hQ127
    subst l127 y127 z127
    obtain ⟨x127, rfl, N127q, kq127, gg127, u127, xs127⟩ := hQ127
    have N127 := Fr.app N126 N127q
    have K127 := K126.trans kq127 all0
    have pre128 : ∀ t, Steps p.tables e below (T127.setTop (mkF m 180 #[.val (.int p0), .val (.int p1), .val (.int p2), .val (.int p3), .val (.int il1), .val (.int fl3), .val (.int el5), .val (.int es7), .val (.int v10), .val (.int v13), .val (.int v28), .val (.int d19), .val (.int d22), .val (.int d31), .val (.int d34), .val (.int d37), .val (.int d40), .val (.int d43), .val (.ref x123), .val (.ref x127), .unset, .unset, .unset, .unset, .unset, .unset, .unset, .unset, .unset, .unset, .unset, .unset, .unset] [(.int fl3)])) t → Steps p.tables e below (s₁.setTop (entryFrame m #[(.int p0), (.int p1), (.int p2), (.int p3)] maxLocals)) t := by
      intro t kt
      refine pre122 _ ?_
      show Steps p.tables e below (T42.setTop (mkF m 145 #[.val (.int p0), .val (.int p1), .val (.int p2), .val (.int p3), .val (.int il1), .val (.int fl3), .val (.int el5), .val (.int es7), .val (.int v10), .val (.int v13), .val (.int v28), .val (.int d19), .val (.int d22), .val (.int d31), .val (.int d34), .val (.int d37), .val (.int d40), .val (.int d43), .unset, .unset, .unset, .unset, .unset, .unset, .unset, .unset, .unset, .unset, .unset, .unset, .unset, .unset, .unset] [])) _
      refine st123 _ ?_
      show Steps p.tables e below (T123.setTop (mkF m 147 #[.val (.int p0), .val (.int p1), .val (.int p2), .val (.int p3), .val (.int il1), .val (.int fl3), .val (.int el5), .val (.int es7), .val (.int v10), .val (.int v13), .val (.int v28), .val (.int d19), .val (.int d22), .val (.int d31), .val (.int d34), .val (.int d37), .val (.int d40), .val (.int d43), .unset, .unset, .unset, .unset, .unset, .unset, .unset, .unset, .unset, .unset, .unset, .unset, .unset, .unset, .unset] [(.ref x123)])) _
      refine XS.goto X123.here hx rfl (pc0 := 147) (pc' := 152) rfl (hb hby at_147) (by decide) (by decide) ?_
      refine XS.astore X123.here hx rfl (hb hby at_152) rfl rfl (l' := #[.val (.int p0), .val (.int p1), .val (.int p2), .val (.int p3), .val (.int il1), .val (.int fl3), .val (.int el5), .val (.int es7), .val (.int v10), .val (.int v13), .val (.int v28), .val (.int d19), .val (.int d22), .val (.int d31), .val (.int d34), .val (.int d37), .val (.int d40), .val (.int d43), .val (.ref x123), .unset, .unset, .unset, .unset, .unset, .unset, .unset, .unset, .unset, .unset, .unset, .unset, .unset, .unset]) rfl ?_
      refine XS.iload X123.here hx rfl (hb hby at_154) rfl ?_
      show Steps p.tables e below (T123.setTop (mkF m 156 #[.val (.int p0), .val (.int p1), .val (.int p2), .val (.int p3), .val (.int il1), .val (.int fl3), .val (.int el5), .val (.int es7), .val (.int v10), .val (.int v13), .val (.int v28), .val (.int d19), .val (.int d22), .val (.int d31), .val (.int d34), .val (.int d37), .val (.int d40), .val (.int d43), .val (.ref x123), .unset, .unset, .unset, .unset, .unset, .unset, .unset, .unset, .unset, .unset, .unset, .unset, .unset, .unset] [(.int v28)])) _
      refine st124 _ ?_
      show Steps p.tables e below (T124.setTop (mkF m 159 #[.val (.int p0), .val (.int p1), .val (.int p2), .val (.int p3), .val (.int il1), .val (.int fl3), .val (.int el5), .val (.int es7), .val (.int v10), .val (.int v13), .val (.int v28), .val (.int d19), .val (.int d22), .val (.int d31), .val (.int d34), .val (.int d37), .val (.int d40), .val (.int d43), .val (.ref x123), .unset, .unset, .unset, .unset, .unset, .unset, .unset, .unset, .unset, .unset, .unset, .unset, .unset, .unset] [(.int ((48 : Int32) + v28))])) _
      refine XS.iload X124.here hx rfl (hb hby at_159) rfl ?_
      show Steps p.tables e below (T124.setTop (mkF m 161 #[.val (.int p0), .val (.int p1), .val (.int p2), .val (.int p3), .val (.int il1), .val (.int fl3), .val (.int el5), .val (.int es7), .val (.int v10), .val (.int v13), .val (.int v28), .val (.int d19), .val (.int d22), .val (.int d31), .val (.int d34), .val (.int d37), .val (.int d40), .val (.int d43), .val (.ref x123), .unset, .unset, .unset, .unset, .unset, .unset, .unset, .unset, .unset, .unset, .unset, .unset, .unset, .unset] [(.int d19), (.int ((48 : Int32) + v28))])) _
      refine st125 _ ?_
      show Steps p.tables e below (T125.setTop (mkF m 164 #[.val (.int p0), .val (.int p1), .val (.int p2), .val (.int p3), .val (.int il1), .val (.int fl3), .val (.int el5), .val (.int es7), .val (.int v10), .val (.int v13), .val (.int v28), .val (.int d19), .val (.int d22), .val (.int d31), .val (.int d34), .val (.int d37), .val (.int d40), .val (.int d43), .val (.ref x123), .unset, .unset, .unset, .unset, .unset, .unset, .unset, .unset, .unset, .unset, .unset, .unset, .unset, .unset] [(.int ((48 : Int32) + d19)), (.int ((48 : Int32) + v28))])) _
      refine XS.iload X125.here hx rfl (hb hby at_164) rfl ?_
      show Steps p.tables e below (T125.setTop (mkF m 166 #[.val (.int p0), .val (.int p1), .val (.int p2), .val (.int p3), .val (.int il1), .val (.int fl3), .val (.int el5), .val (.int es7), .val (.int v10), .val (.int v13), .val (.int v28), .val (.int d19), .val (.int d22), .val (.int d31), .val (.int d34), .val (.int d37), .val (.int d40), .val (.int d43), .val (.ref x123), .unset, .unset, .unset, .unset, .unset, .unset, .unset, .unset, .unset, .unset, .unset, .unset, .unset, .unset] [(.int d22), (.int ((48 : Int32) + d19)), (.int ((48 : Int32) + v28))])) _
      refine st126 _ ?_
      show Steps p.tables e below (T126.setTop (mkF m 169 #[.val (.int p0), .val (.int p1), .val (.int p2), .val (.int p3), .val (.int il1), .val (.int fl3), .val (.int el5), .val (.int es7), .val (.int v10), .val (.int v13), .val (.int v28), .val (.int d19), .val (.int d22), .val (.int d31), .val (.int d34), .val (.int d37), .val (.int d40), .val (.int d43), .val (.ref x123), .unset, .unset, .unset, .unset, .unset, .unset, .unset, .unset, .unset, .unset, .unset, .unset, .unset, .unset] [(.int ((48 : Int32) + d22)), (.int ((48 : Int32) + d19)), (.int ((48 : Int32) + v28))])) _
      refine XS.bipush X126.here hx rfl (hb hby at_169) ?_
      refine XS.iload X126.here hx rfl (hb hby at_171) rfl ?_
      show Steps p.tables e below (T126.setTop (mkF m 173 #[.val (.int p0), .val (.int p1), .val (.int p2), .val (.int p3), .val (.int il1), .val (.int fl3), .val (.int el5), .val (.int es7), .val (.int v10), .val (.int v13), .val (.int v28), .val (.int d19), .val (.int d22), .val (.int d31), .val (.int d34), .val (.int d37), .val (.int d40), .val (.int d43), .val (.ref x123), .unset, .unset, .unset, .unset, .unset, .unset, .unset, .unset, .unset, .unset, .unset, .unset, .unset, .unset] [(.int il1), (.int (48 : Int32)), (.int ((48 : Int32) + d22)), (.int ((48 : Int32) + d19)), (.int ((48 : Int32) + v28))])) _
      refine st127 _ ?_
      show Steps p.tables e below (T127.setTop (mkF m 176 #[.val (.int p0), .val (.int p1), .val (.int p2), .val (.int p3), .val (.int il1), .val (.int fl3), .val (.int el5), .val (.int es7), .val (.int v10), .val (.int v13), .val (.int v28), .val (.int d19), .val (.int d22), .val (.int d31), .val (.int d34), .val (.int d37), .val (.int d40), .val (.int d43), .val (.ref x123), .unset, .unset, .unset, .unset, .unset, .unset, .unset, .unset, .unset, .unset, .unset, .unset, .unset, .unset] [(.ref x127)])) _
      refine XS.astore X127.here hx rfl (hb hby at_176) rfl rfl (l' := #[.val (.int p0), .val (.int p1), .val (.int p2), .val (.int p3), .val (.int il1), .val (.int fl3), .val (.int el5), .val (.int es7), .val (.int v10), .val (.int v13), .val (.int v28), .val (.int d19), .val (.int d22), .val (.int d31), .val (.int d34), .val (.int d37), .val (.int d40), .val (.int d43), .val (.ref x123), .val (.ref x127), .unset, .unset, .unset, .unset, .unset, .unset, .unset, .unset, .unset, .unset, .unset, .unset, .unset]) rfl ?_
      refine XS.iload X127.here hx rfl (hb hby at_178) rfl ?_
      show Steps p.tables e below (T127.setTop (mkF m 180 #[.val (.int p0), .val (.int p1), .val (.int p2), .val (.int p3), .val (.int il1), .val (.int fl3), .val (.int el5), .val (.int es7), .val (.int v10), .val (.int v13), .val (.int v28), .val (.int d19), .val (.int d22), .val (.int d31), .val (.int d34), .val (.int d37), .val (.int d40), .val (.int d43), .val (.ref x123), .val (.ref x127), .unset, .unset, .unset, .unset, .unset, .unset, .unset, .unset, .unset, .unset, .unset, .unset, .unset] [(.int fl3)])) _
      exact kt
    by_cases hc180 : fl3 = (0 : Int32)
    ·
      have pre130 : ∀ t, Steps p.tables e below (T127.setTop (mkF m 183 #[.val (.int p0), .val (.int p1), .val (.int p2), .val (.int p3), .val (.int il1), .val (.int fl3), .val (.int el5), .val (.int es7), .val (.int v10), .val (.int v13), .val (.int v28), .val (.int d19), .val (.int d22), .val (.int d31), .val (.int d34), .val (.int d37), .val (.int d40), .val (.int d43), .val (.ref x123), .val (.ref x127), .unset, .unset, .unset, .unset, .unset, .unset, .unset, .unset, .unset, .unset, .unset, .unset, .unset] [])) t → Steps p.tables e below (s₁.setTop (entryFrame m #[(.int p0), (.int p1), (.int p2), (.int p3)] maxLocals)) t := by
        intro t kt
        refine pre128 _ ?_
        show Steps p.tables e below (T127.setTop (mkF m 180 #[.val (.int p0), .val (.int p1), .val (.int p2), .val (.int p3), .val (.int il1), .val (.int fl3), .val (.int el5), .val (.int es7), .val (.int v10), .val (.int v13), .val (.int v28), .val (.int d19), .val (.int d22), .val (.int d31), .val (.int d34), .val (.int d37), .val (.int d40), .val (.int d43), .val (.ref x123), .val (.ref x127), .unset, .unset, .unset, .unset, .unset, .unset, .unset, .unset, .unset, .unset, .unset, .unset, .unset] [(.int fl3)])) _
        refine XS.ifNo X127.here hx rfl (hb hby at_180) rfl ((if0 _ _).trans (teq hc180).2) ?_
        show Steps p.tables e below (T127.setTop (mkF m 183 #[.val (.int p0), .val (.int p1), .val (.int p2), .val (.int p3), .val (.int il1), .val (.int fl3), .val (.int el5), .val (.int es7), .val (.int v10), .val (.int v13), .val (.int v28), .val (.int d19), .val (.int d22), .val (.int d31), .val (.int d34), .val (.int d37), .val (.int d40), .val (.int d43), .val (.ref x123), .val (.ref x127), .unset, .unset, .unset, .unset, .unset, .unset, .unset, .unset, .unset, .unset, .unset, .unset, .unset] [])) _
        exact kt
      obtain ⟨x131, T131, h131, k131, b131, kb131, X131, e131, E131, hS131, hk131, hZ, hown, xe131, xc131, xv131, xa131, -, -, I131, lt131, st131⟩ := ldcSVL (s := s) (vm0 := T123.vm) X127 hx hZ hown (hw _ (List.mem_of_getElem? (i := 4) rfl)) wS rfl hS123 (Nat.le_trans (Nat.le_trans (Nat.le_trans (Nat.le_trans hk123 E124.1) E125.1) E126.1) kq127.1) (by rw [hn0]; exact N127) hkp I123 (by decide) HC15 HCW (vs := []) (z := (0 : Int32)) own_ht0 (by decide) (by decide) (g := (mkF m 183 #[.val (.int p0), .val (.int p1), .val (.int p2), .val (.int p3), .val (.int il1), .val (.int fl3), .val (.int el5), .val (.int es7), .val (.int v10), .val (.int v13), .val (.int v28), .val (.int d19), .val (.int d22), .val (.int d31), .val (.int d34), .val (.int d37), .val (.int d40), .val (.int d43), .val (.ref x123), .val (.ref x127), .unset, .unset, .unset, .unset, .unset, .unset, .unset, .unset, .unset, .unset, .unset, .unset, .unset] [])) rfl (hb hby at_183) (n := 0) own_hn0 (by decide) (by decide) (by decide)
      have xs131 : own_str Z h131 x131 [] := ⟨b131, kb131, xe131, xc131, xv131, xa131⟩
      have K131 := K127.ext E131
      obtain ⟨v133, hv133⟩ : ∃ z : Int32, z = if es7 = (1 : Int32) then (43 : Int32) else (45 : Int32) := ⟨_, rfl⟩
      have mg134 : ∀ t, Steps p.tables e below (T131.setTop (mkF m 227 #[.val (.int p0), .val (.int p1), .val (.int p2), .val (.int p3), .val (.int il1), .val (.int fl3), .val (.int el5), .val (.int es7), .val (.int v10), .val (.int v13), .val (.int v28), .val (.int d19), .val (.int d22), .val (.int d31), .val (.int d34), .val (.int d37), .val (.int d40), .val (.int d43), .val (.ref x123), .val (.ref x127), .val (.ref x131), .unset, .unset, .unset, .unset, .unset, .unset, .unset, .unset, .unset, .unset, .unset, .unset] [(.int v133)])) t → Steps p.tables e below (T131.setTop (mkF m 217 #[.val (.int p0), .val (.int p1), .val (.int p2), .val (.int p3), .val (.int il1), .val (.int fl3), .val (.int el5), .val (.int es7), .val (.int v10), .val (.int v13), .val (.int v28), .val (.int d19), .val (.int d22), .val (.int d31), .val (.int d34), .val (.int d37), .val (.int d40), .val (.int d43), .val (.ref x123), .val (.ref x127), .val (.ref x131), .unset, .unset, .unset, .unset, .unset, .unset, .unset, .unset, .unset, .unset, .unset, .unset] [(.int (1 : Int32)), (.int es7)])) t := by
        intro t kt
        by_cases hm132 : es7 = (1 : Int32)
        ·
          have ev133 : v133 = (43 : Int32) := by rw [hv133, if_pos hm132]
          rw [ev133] at kt
          refine (fun t (k : Steps p.tables e below (T131.setTop (mkF m 217 #[.val (.int p0), .val (.int p1), .val (.int p2), .val (.int p3), .val (.int il1), .val (.int fl3), .val (.int el5), .val (.int es7), .val (.int v10), .val (.int v13), .val (.int v28), .val (.int d19), .val (.int d22), .val (.int d31), .val (.int d34), .val (.int d37), .val (.int d40), .val (.int d43), .val (.ref x123), .val (.ref x127), .val (.ref x131), .unset, .unset, .unset, .unset, .unset, .unset, .unset, .unset, .unset, .unset, .unset, .unset] [(.int (1 : Int32)), (.int es7)])) t) => k) _ ?_
          refine XS.icmpNo X131.here hx rfl (hb hby at_217) rfl (teq hm132).2 ?_
          refine XS.bipush X131.here hx rfl (hb hby at_220) ?_
          refine XS.goto X131.here hx rfl (pc0 := 222) (pc' := 227) rfl (hb hby at_222) (by decide) (by decide) ?_
          show Steps p.tables e below (T131.setTop (mkF m 227 #[.val (.int p0), .val (.int p1), .val (.int p2), .val (.int p3), .val (.int il1), .val (.int fl3), .val (.int el5), .val (.int es7), .val (.int v10), .val (.int v13), .val (.int v28), .val (.int d19), .val (.int d22), .val (.int d31), .val (.int d34), .val (.int d37), .val (.int d40), .val (.int d43), .val (.ref x123), .val (.ref x127), .val (.ref x131), .unset, .unset, .unset, .unset, .unset, .unset, .unset, .unset, .unset, .unset, .unset, .unset] [(.int (43 : Int32))])) _
          exact kt
        ·
          have ev133 : v133 = (45 : Int32) := by rw [hv133, if_neg hm132]
          rw [ev133] at kt
          refine (fun t (k : Steps p.tables e below (T131.setTop (mkF m 217 #[.val (.int p0), .val (.int p1), .val (.int p2), .val (.int p3), .val (.int il1), .val (.int fl3), .val (.int el5), .val (.int es7), .val (.int v10), .val (.int v13), .val (.int v28), .val (.int d19), .val (.int d22), .val (.int d31), .val (.int d34), .val (.int d37), .val (.int d40), .val (.int d43), .val (.ref x123), .val (.ref x127), .val (.ref x131), .unset, .unset, .unset, .unset, .unset, .unset, .unset, .unset, .unset, .unset, .unset, .unset] [(.int (1 : Int32)), (.int es7)])) t) => k) _ ?_
          refine XS.icmpYes X131.here hx rfl (pc0 := 217) (pc' := 225) rfl (hb hby at_217) rfl (feq hm132).2 (by decide) (by decide) ?_
          refine XS.bipush X131.here hx rfl (hb hby at_225) ?_
          show Steps p.tables e below (T131.setTop (mkF m 227 #[.val (.int p0), .val (.int p1), .val (.int p2), .val (.int p3), .val (.int il1), .val (.int fl3), .val (.int el5), .val (.int es7), .val (.int v10), .val (.int v13), .val (.int v28), .val (.int d19), .val (.int d22), .val (.int d31), .val (.int d34), .val (.int d37), .val (.int d40), .val (.int d43), .val (.ref x123), .val (.ref x127), .val (.ref x131), .unset, .unset, .unset, .unset, .unset, .unset, .unset, .unset, .unset, .unset, .unset, .unset] [(.int (45 : Int32))])) _
          exact kt
      have pre135 : ∀ t, Steps p.tables e below (T131.setTop (mkF m 229 #[.val (.int p0), .val (.int p1), .val (.int p2), .val (.int p3), .val (.int il1), .val (.int fl3), .val (.int el5), .val (.int es7), .val (.int v10), .val (.int v13), .val (.int v28), .val (.int d19), .val (.int d22), .val (.int d31), .val (.int d34), .val (.int d37), .val (.int d40), .val (.int d43), .val (.ref x123), .val (.ref x127), .val (.ref x131), .val (.int v133), .unset, .unset, .unset, .unset, .unset, .unset, .unset, .unset, .unset, .unset, .unset] [])) t → Steps p.tables e below (s₁.setTop (entryFrame m #[(.int p0), (.int p1), (.int p2), (.int p3)] maxLocals)) t := by
        intro t kt
        refine pre130 _ ?_
        show Steps p.tables e below (T127.setTop (mkF m 183 #[.val (.int p0), .val (.int p1), .val (.int p2), .val (.int p3), .val (.int il1), .val (.int fl3), .val (.int el5), .val (.int es7), .val (.int v10), .val (.int v13), .val (.int v28), .val (.int d19), .val (.int d22), .val (.int d31), .val (.int d34), .val (.int d37), .val (.int d40), .val (.int d43), .val (.ref x123), .val (.ref x127), .unset, .unset, .unset, .unset, .unset, .unset, .unset, .unset, .unset, .unset, .unset, .unset, .unset] [])) _
        refine st131 _ ?_
        show Steps p.tables e below (T131.setTop (mkF m 185 #[.val (.int p0), .val (.int p1), .val (.int p2), .val (.int p3), .val (.int il1), .val (.int fl3), .val (.int el5), .val (.int es7), .val (.int v10), .val (.int v13), .val (.int v28), .val (.int d19), .val (.int d22), .val (.int d31), .val (.int d34), .val (.int d37), .val (.int d40), .val (.int d43), .val (.ref x123), .val (.ref x127), .unset, .unset, .unset, .unset, .unset, .unset, .unset, .unset, .unset, .unset, .unset, .unset, .unset] [(.ref x131)])) _
        refine XS.goto X131.here hx rfl (pc0 := 185) (pc' := 212) rfl (hb hby at_185) (by decide) (by decide) ?_
        refine XS.astore X131.here hx rfl (hb hby at_212) rfl rfl (l' := #[.val (.int p0), .val (.int p1), .val (.int p2), .val (.int p3), .val (.int il1), .val (.int fl3), .val (.int el5), .val (.int es7), .val (.int v10), .val (.int v13), .val (.int v28), .val (.int d19), .val (.int d22), .val (.int d31), .val (.int d34), .val (.int d37), .val (.int d40), .val (.int d43), .val (.ref x123), .val (.ref x127), .val (.ref x131), .unset, .unset, .unset, .unset, .unset, .unset, .unset, .unset, .unset, .unset, .unset, .unset]) rfl ?_
        refine XS.iload X131.here hx rfl (hb hby at_214) rfl ?_
        show Steps p.tables e below (T131.setTop (mkF m 216 #[.val (.int p0), .val (.int p1), .val (.int p2), .val (.int p3), .val (.int il1), .val (.int fl3), .val (.int el5), .val (.int es7), .val (.int v10), .val (.int v13), .val (.int v28), .val (.int d19), .val (.int d22), .val (.int d31), .val (.int d34), .val (.int d37), .val (.int d40), .val (.int d43), .val (.ref x123), .val (.ref x127), .val (.ref x131), .unset, .unset, .unset, .unset, .unset, .unset, .unset, .unset, .unset, .unset, .unset, .unset] [(.int es7)])) _
        refine XS.iconst X131.here hx rfl (hb hby at_216) ?_
        show Steps p.tables e below (T131.setTop (mkF m 217 #[.val (.int p0), .val (.int p1), .val (.int p2), .val (.int p3), .val (.int il1), .val (.int fl3), .val (.int el5), .val (.int es7), .val (.int v10), .val (.int v13), .val (.int v28), .val (.int d19), .val (.int d22), .val (.int d31), .val (.int d34), .val (.int d37), .val (.int d40), .val (.int d43), .val (.ref x123), .val (.ref x127), .val (.ref x131), .unset, .unset, .unset, .unset, .unset, .unset, .unset, .unset, .unset, .unset, .unset, .unset] [(.int (1 : Int32)), (.int es7)])) _
        refine mg134 _ ?_
        show Steps p.tables e below (T131.setTop (mkF m 227 #[.val (.int p0), .val (.int p1), .val (.int p2), .val (.int p3), .val (.int il1), .val (.int fl3), .val (.int el5), .val (.int es7), .val (.int v10), .val (.int v13), .val (.int v28), .val (.int d19), .val (.int d22), .val (.int d31), .val (.int d34), .val (.int d37), .val (.int d40), .val (.int d43), .val (.ref x123), .val (.ref x127), .val (.ref x131), .unset, .unset, .unset, .unset, .unset, .unset, .unset, .unset, .unset, .unset, .unset, .unset] [(.int v133)])) _
        refine XS.istore X131.here hx rfl (hb hby at_227) rfl (l' := #[.val (.int p0), .val (.int p1), .val (.int p2), .val (.int p3), .val (.int il1), .val (.int fl3), .val (.int el5), .val (.int es7), .val (.int v10), .val (.int v13), .val (.int v28), .val (.int d19), .val (.int d22), .val (.int d31), .val (.int d34), .val (.int d37), .val (.int d40), .val (.int d43), .val (.ref x123), .val (.ref x127), .val (.ref x131), .val (.int v133), .unset, .unset, .unset, .unset, .unset, .unset, .unset, .unset, .unset, .unset, .unset]) rfl ?_
        show Steps p.tables e below (T131.setTop (mkF m 229 #[.val (.int p0), .val (.int p1), .val (.int p2), .val (.int p3), .val (.int il1), .val (.int fl3), .val (.int el5), .val (.int es7), .val (.int v10), .val (.int v13), .val (.int v28), .val (.int d19), .val (.int d22), .val (.int d31), .val (.int d34), .val (.int d37), .val (.int d40), .val (.int d43), .val (.ref x123), .val (.ref x127), .val (.ref x131), .val (.int v133), .unset, .unset, .unset, .unset, .unset, .unset, .unset, .unset, .unset, .unset, .unset] [])) _
        exact kt
      have ksc : own_c255 v133 := by rw [hv133]; split <;> exact ⟨by decide, by decide⟩
      have pre136 : ∀ t, Steps p.tables e below (T131.setTop (mkF m 231 #[.val (.int p0), .val (.int p1), .val (.int p2), .val (.int p3), .val (.int il1), .val (.int fl3), .val (.int el5), .val (.int es7), .val (.int v10), .val (.int v13), .val (.int v28), .val (.int d19), .val (.int d22), .val (.int d31), .val (.int d34), .val (.int d37), .val (.int d40), .val (.int d43), .val (.ref x123), .val (.ref x127), .val (.ref x131), .val (.int v133), .unset, .unset, .unset, .unset, .unset, .unset, .unset, .unset, .unset, .unset, .unset] [(.int el5)])) t → Steps p.tables e below (s₁.setTop (entryFrame m #[(.int p0), (.int p1), (.int p2), (.int p3)] maxLocals)) t := by
        intro t kt
        refine pre135 _ ?_
        show Steps p.tables e below (T131.setTop (mkF m 229 #[.val (.int p0), .val (.int p1), .val (.int p2), .val (.int p3), .val (.int il1), .val (.int fl3), .val (.int el5), .val (.int es7), .val (.int v10), .val (.int v13), .val (.int v28), .val (.int d19), .val (.int d22), .val (.int d31), .val (.int d34), .val (.int d37), .val (.int d40), .val (.int d43), .val (.ref x123), .val (.ref x127), .val (.ref x131), .val (.int v133), .unset, .unset, .unset, .unset, .unset, .unset, .unset, .unset, .unset, .unset, .unset] [])) _
        refine XS.iload X131.here hx rfl (hb hby at_229) rfl ?_
        show Steps p.tables e below (T131.setTop (mkF m 231 #[.val (.int p0), .val (.int p1), .val (.int p2), .val (.int p3), .val (.int il1), .val (.int fl3), .val (.int el5), .val (.int es7), .val (.int v10), .val (.int v13), .val (.int v28), .val (.int d19), .val (.int d22), .val (.int d31), .val (.int d34), .val (.int d37), .val (.int d40), .val (.int d43), .val (.ref x123), .val (.ref x127), .val (.ref x131), .val (.int v133), .unset, .unset, .unset, .unset, .unset, .unset, .unset, .unset, .unset, .unset, .unset] [(.int el5)])) _
        exact kt
      by_cases hc231 : el5 = (0 : Int32)
      ·
        have pre138 : ∀ t, Steps p.tables e below (T131.setTop (mkF m 234 #[.val (.int p0), .val (.int p1), .val (.int p2), .val (.int p3), .val (.int il1), .val (.int fl3), .val (.int el5), .val (.int es7), .val (.int v10), .val (.int v13), .val (.int v28), .val (.int d19), .val (.int d22), .val (.int d31), .val (.int d34), .val (.int d37), .val (.int d40), .val (.int d43), .val (.ref x123), .val (.ref x127), .val (.ref x131), .val (.int v133), .unset, .unset, .unset, .unset, .unset, .unset, .unset, .unset, .unset, .unset, .unset] [])) t → Steps p.tables e below (s₁.setTop (entryFrame m #[(.int p0), (.int p1), (.int p2), (.int p3)] maxLocals)) t := by
          intro t kt
          refine pre136 _ ?_
          show Steps p.tables e below (T131.setTop (mkF m 231 #[.val (.int p0), .val (.int p1), .val (.int p2), .val (.int p3), .val (.int il1), .val (.int fl3), .val (.int el5), .val (.int es7), .val (.int v10), .val (.int v13), .val (.int v28), .val (.int d19), .val (.int d22), .val (.int d31), .val (.int d34), .val (.int d37), .val (.int d40), .val (.int d43), .val (.ref x123), .val (.ref x127), .val (.ref x131), .val (.int v133), .unset, .unset, .unset, .unset, .unset, .unset, .unset, .unset, .unset, .unset, .unset] [(.int el5)])) _
          refine XS.ifNo X131.here hx rfl (hb hby at_231) rfl ((if0 _ _).trans (teq hc231).2) ?_
          show Steps p.tables e below (T131.setTop (mkF m 234 #[.val (.int p0), .val (.int p1), .val (.int p2), .val (.int p3), .val (.int il1), .val (.int fl3), .val (.int el5), .val (.int es7), .val (.int v10), .val (.int v13), .val (.int v28), .val (.int d19), .val (.int d22), .val (.int d31), .val (.int d34), .val (.int d37), .val (.int d40), .val (.int d43), .val (.ref x123), .val (.ref x127), .val (.ref x131), .val (.int v133), .unset, .unset, .unset, .unset, .unset, .unset, .unset, .unset, .unset, .unset, .unset] [])) _
          exact kt
        have hk140 : el5 = (0 : Int32) := hc231
        have pre141 : ∀ t, Steps p.tables e below (T131.setTop (mkF m 277 #[.val (.int p0), .val (.int p1), .val (.int p2), .val (.int p3), .val (.int il1), .val (.int fl3), .val (.int el5), .val (.int es7), .val (.int v10), .val (.int v13), .val (.int v28), .val (.int d19), .val (.int d22), .val (.int d31), .val (.int d34), .val (.int d37), .val (.int d40), .val (.int d43), .val (.ref x123), .val (.ref x127), .val (.ref x131), .val (.int v133), .val (.ref x131), .unset, .unset, .unset, .unset, .unset, .unset, .unset, .unset, .unset, .unset] [])) t → Steps p.tables e below (s₁.setTop (entryFrame m #[(.int p0), (.int p1), (.int p2), (.int p3)] maxLocals)) t := by
          intro t kt
          refine pre138 _ ?_
          show Steps p.tables e below (T131.setTop (mkF m 234 #[.val (.int p0), .val (.int p1), .val (.int p2), .val (.int p3), .val (.int il1), .val (.int fl3), .val (.int el5), .val (.int es7), .val (.int v10), .val (.int v13), .val (.int v28), .val (.int d19), .val (.int d22), .val (.int d31), .val (.int d34), .val (.int d37), .val (.int d40), .val (.int d43), .val (.ref x123), .val (.ref x127), .val (.ref x131), .val (.int v133), .unset, .unset, .unset, .unset, .unset, .unset, .unset, .unset, .unset, .unset, .unset] [])) _
          refine ldcAgain X131 hx hZ hown (hw _ (List.mem_of_getElem? (i := 4) rfl)) lt131 (g := (mkF m 234 #[.val (.int p0), .val (.int p1), .val (.int p2), .val (.int p3), .val (.int il1), .val (.int fl3), .val (.int el5), .val (.int es7), .val (.int v10), .val (.int v13), .val (.int v28), .val (.int d19), .val (.int d22), .val (.int d31), .val (.int d34), .val (.int d37), .val (.int d40), .val (.int d43), .val (.ref x123), .val (.ref x127), .val (.ref x131), .val (.int v133), .unset, .unset, .unset, .unset, .unset, .unset, .unset, .unset, .unset, .unset, .unset] [])) rfl (hb hby at_234) _ ?_
          show Steps p.tables e below (T131.setTop (mkF m 236 #[.val (.int p0), .val (.int p1), .val (.int p2), .val (.int p3), .val (.int il1), .val (.int fl3), .val (.int el5), .val (.int es7), .val (.int v10), .val (.int v13), .val (.int v28), .val (.int d19), .val (.int d22), .val (.int d31), .val (.int d34), .val (.int d37), .val (.int d40), .val (.int d43), .val (.ref x123), .val (.ref x127), .val (.ref x131), .val (.int v133), .unset, .unset, .unset, .unset, .unset, .unset, .unset, .unset, .unset, .unset, .unset] [(.ref x131)])) _
          refine XS.goto X131.here hx rfl (pc0 := 236) (pc' := 270) rfl (hb hby at_236) (by decide) (by decide) ?_
          refine XS.astore X131.here hx rfl (hb hby at_270) rfl rfl (l' := #[.val (.int p0), .val (.int p1), .val (.int p2), .val (.int p3), .val (.int il1), .val (.int fl3), .val (.int el5), .val (.int es7), .val (.int v10), .val (.int v13), .val (.int v28), .val (.int d19), .val (.int d22), .val (.int d31), .val (.int d34), .val (.int d37), .val (.int d40), .val (.int d43), .val (.ref x123), .val (.ref x127), .val (.ref x131), .val (.int v133), .val (.ref x131), .unset, .unset, .unset, .unset, .unset, .unset, .unset, .unset, .unset, .unset]) rfl ?_
          refine XS.iload X131.here hx rfl (hb hby at_272) rfl ?_
          show Steps p.tables e below (T131.setTop (mkF m 274 #[.val (.int p0), .val (.int p1), .val (.int p2), .val (.int p3), .val (.int il1), .val (.int fl3), .val (.int el5), .val (.int es7), .val (.int v10), .val (.int v13), .val (.int v28), .val (.int d19), .val (.int d22), .val (.int d31), .val (.int d34), .val (.int d37), .val (.int d40), .val (.int d43), .val (.ref x123), .val (.ref x127), .val (.ref x131), .val (.int v133), .val (.ref x131), .unset, .unset, .unset, .unset, .unset, .unset, .unset, .unset, .unset, .unset] [(.int el5)])) _
          refine XS.ifNo X131.here hx rfl (hb hby at_274) rfl ((if0 _ _).trans (teq hk140).2) ?_
          show Steps p.tables e below (T131.setTop (mkF m 277 #[.val (.int p0), .val (.int p1), .val (.int p2), .val (.int p3), .val (.int il1), .val (.int fl3), .val (.int el5), .val (.int es7), .val (.int v10), .val (.int v13), .val (.int v28), .val (.int d19), .val (.int d22), .val (.int d31), .val (.int d34), .val (.int d37), .val (.int d40), .val (.int d43), .val (.ref x123), .val (.ref x127), .val (.ref x131), .val (.int v133), .val (.ref x131), .unset, .unset, .unset, .unset, .unset, .unset, .unset, .unset, .unset, .unset] [])) _
          exact kt
        have c143 := (own_strE (own_strP (own_strE (own_strE (own_strE xs123 E124) E125) E126) kq127) E131)
        have c144 := (own_strE xs127 E131)
        have pre145 : ∀ t, Steps p.tables e below (T131.setTop (mkF m 303 #[.val (.int p0), .val (.int p1), .val (.int p2), .val (.int p3), .val (.int il1), .val (.int fl3), .val (.int el5), .val (.int es7), .val (.int v10), .val (.int v13), .val (.int v28), .val (.int d19), .val (.int d22), .val (.int d31), .val (.int d34), .val (.int d37), .val (.int d40), .val (.int d43), .val (.ref x123), .val (.ref x127), .val (.ref x131), .val (.int v133), .val (.ref x131), .val (.ref x131), .unset, .unset, .unset, .unset, .unset, .unset, .unset, .unset, .unset] [])) t → Steps p.tables e below (s₁.setTop (entryFrame m #[(.int p0), (.int p1), (.int p2), (.int p3)] maxLocals)) t := by
          intro t kt
          refine pre141 _ ?_
          show Steps p.tables e below (T131.setTop (mkF m 277 #[.val (.int p0), .val (.int p1), .val (.int p2), .val (.int p3), .val (.int il1), .val (.int fl3), .val (.int el5), .val (.int es7), .val (.int v10), .val (.int v13), .val (.int v28), .val (.int d19), .val (.int d22), .val (.int d31), .val (.int d34), .val (.int d37), .val (.int d40), .val (.int d43), .val (.ref x123), .val (.ref x127), .val (.ref x131), .val (.int v133), .val (.ref x131), .unset, .unset, .unset, .unset, .unset, .unset, .unset, .unset, .unset, .unset] [])) _
          refine ldcAgain X131 hx hZ hown (hw _ (List.mem_of_getElem? (i := 4) rfl)) lt131 (g := (mkF m 277 #[.val (.int p0), .val (.int p1), .val (.int p2), .val (.int p3), .val (.int il1), .val (.int fl3), .val (.int el5), .val (.int es7), .val (.int v10), .val (.int v13), .val (.int v28), .val (.int d19), .val (.int d22), .val (.int d31), .val (.int d34), .val (.int d37), .val (.int d40), .val (.int d43), .val (.ref x123), .val (.ref x127), .val (.ref x131), .val (.int v133), .val (.ref x131), .unset, .unset, .unset, .unset, .unset, .unset, .unset, .unset, .unset, .unset] [])) rfl (hb hby at_277) _ ?_
          show Steps p.tables e below (T131.setTop (mkF m 279 #[.val (.int p0), .val (.int p1), .val (.int p2), .val (.int p3), .val (.int il1), .val (.int fl3), .val (.int el5), .val (.int es7), .val (.int v10), .val (.int v13), .val (.int v28), .val (.int d19), .val (.int d22), .val (.int d31), .val (.int d34), .val (.int d37), .val (.int d40), .val (.int d43), .val (.ref x123), .val (.ref x127), .val (.ref x131), .val (.int v133), .val (.ref x131), .unset, .unset, .unset, .unset, .unset, .unset, .unset, .unset, .unset, .unset] [(.ref x131)])) _
          refine XS.goto X131.here hx rfl (pc0 := 279) (pc' := 301) rfl (hb hby at_279) (by decide) (by decide) ?_
          refine XS.astore X131.here hx rfl (hb hby at_301) rfl rfl (l' := #[.val (.int p0), .val (.int p1), .val (.int p2), .val (.int p3), .val (.int il1), .val (.int fl3), .val (.int el5), .val (.int es7), .val (.int v10), .val (.int v13), .val (.int v28), .val (.int d19), .val (.int d22), .val (.int d31), .val (.int d34), .val (.int d37), .val (.int d40), .val (.int d43), .val (.ref x123), .val (.ref x127), .val (.ref x131), .val (.int v133), .val (.ref x131), .val (.ref x131), .unset, .unset, .unset, .unset, .unset, .unset, .unset, .unset, .unset]) rfl ?_
          show Steps p.tables e below (T131.setTop (mkF m 303 #[.val (.int p0), .val (.int p1), .val (.int p2), .val (.int p3), .val (.int il1), .val (.int fl3), .val (.int el5), .val (.int es7), .val (.int v10), .val (.int v13), .val (.int v28), .val (.int d19), .val (.int d22), .val (.int d31), .val (.int d34), .val (.int d37), .val (.int d40), .val (.int d43), .val (.ref x123), .val (.ref x127), .val (.ref x131), .val (.int v133), .val (.ref x131), .val (.ref x131), .unset, .unset, .unset, .unset, .unset, .unset, .unset, .unset, .unset] [])) _
          exact kt
        have HL := own_main kil kfl kel kes d9v28 d9d19 d9d22 d9d31 d9d34 d9d37 d9d40 d9d43 (up := (69 : Int32)) (sc := v133) (Or.inl rfl) hv133 (cs1 := [45]) (cs3 := []) (cs4 := []) (cs5 := []) (Or.inr rfl) (by rw [if_pos hc180]) (by rw [if_pos hc231]) (by rw [if_pos hc231])
        have OLDz : Old Z n0 h131 := OLD0.keep K131 all0
        obtain ⟨Lh, Xh, Nh⟩ := own_hide X131 N127 (C := 30) (S := 2000) (Nat.le_of_ble_eq_true rfl) (Nat.le_of_ble_eq_true rfl)
        obtain ⟨T2, Ls, L2, X2, N2, hz2, st2⟩ := own_tail Xh hx hZ hw hby hml hown e131 Nh (Nat.le_trans Z0 K131.1) OLDz SCS P5 SSI rfm c143 c144 xs131 xs131 xs131 own_lm45 (own_takeC (own_c48 d9v28) (own_c48 d9d19) (own_c48 d9d22) own_l48) own_lm0 own_lm0 own_lm0 (by decide) (own_takeL _ _ _ _ _) (by decide) (by decide) (by decide) HL (p0 := p0) (p1 := p1) (p2 := p2) (p3 := p3) (up := v10) (ng := v13) (sc := v133)
        obtain ⟨fs, hr, hrun, hended, hW⟩ := X2.leaveW hS131 (Nat.le_trans hk131 hz2) (v := some (.int (1 : Int32))) (fun h => by rw [Bd.returns] at h; cases h)
        exact ⟨_, _, pre145 _ (st2 _ (retN X2 hx (t := .boolean) Bd.returns (by simp) (hb hby at_564) hr)), hrun, hended, _, _, rfl, ⟨rfl, N2⟩, hW⟩
      ·
        obtain ⟨v147, hv147⟩ : ∃ z : Int32, z = if v10 = (0 : Int32) then (101 : Int32) else (69 : Int32) := ⟨_, rfl⟩
        have mg148 : ∀ t, Steps p.tables e below (T131.setTop (mkF m 251 #[.val (.int p0), .val (.int p1), .val (.int p2), .val (.int p3), .val (.int il1), .val (.int fl3), .val (.int el5), .val (.int es7), .val (.int v10), .val (.int v13), .val (.int v28), .val (.int d19), .val (.int d22), .val (.int d31), .val (.int d34), .val (.int d37), .val (.int d40), .val (.int d43), .val (.ref x123), .val (.ref x127), .val (.ref x131), .val (.int v133), .unset, .unset, .unset, .unset, .unset, .unset, .unset, .unset, .unset, .unset, .unset] [(.int v147)])) t → Steps p.tables e below (T131.setTop (mkF m 241 #[.val (.int p0), .val (.int p1), .val (.int p2), .val (.int p3), .val (.int il1), .val (.int fl3), .val (.int el5), .val (.int es7), .val (.int v10), .val (.int v13), .val (.int v28), .val (.int d19), .val (.int d22), .val (.int d31), .val (.int d34), .val (.int d37), .val (.int d40), .val (.int d43), .val (.ref x123), .val (.ref x127), .val (.ref x131), .val (.int v133), .unset, .unset, .unset, .unset, .unset, .unset, .unset, .unset, .unset, .unset, .unset] [(.int v10)])) t := by
          intro t kt
          by_cases hm146 : v10 = (0 : Int32)
          ·
            have ev147 : v147 = (101 : Int32) := by rw [hv147, if_pos hm146]
            rw [ev147] at kt
            refine (fun t (k : Steps p.tables e below (T131.setTop (mkF m 241 #[.val (.int p0), .val (.int p1), .val (.int p2), .val (.int p3), .val (.int il1), .val (.int fl3), .val (.int el5), .val (.int es7), .val (.int v10), .val (.int v13), .val (.int v28), .val (.int d19), .val (.int d22), .val (.int d31), .val (.int d34), .val (.int d37), .val (.int d40), .val (.int d43), .val (.ref x123), .val (.ref x127), .val (.ref x131), .val (.int v133), .unset, .unset, .unset, .unset, .unset, .unset, .unset, .unset, .unset, .unset, .unset] [(.int v10)])) t) => k) _ ?_
            refine XS.ifYes X131.here hx rfl (pc0 := 241) (pc' := 249) rfl (hb hby at_241) rfl ((if0 _ _).trans (teq hm146).1) (by decide) (by decide) ?_
            refine XS.bipush X131.here hx rfl (hb hby at_249) ?_
            show Steps p.tables e below (T131.setTop (mkF m 251 #[.val (.int p0), .val (.int p1), .val (.int p2), .val (.int p3), .val (.int il1), .val (.int fl3), .val (.int el5), .val (.int es7), .val (.int v10), .val (.int v13), .val (.int v28), .val (.int d19), .val (.int d22), .val (.int d31), .val (.int d34), .val (.int d37), .val (.int d40), .val (.int d43), .val (.ref x123), .val (.ref x127), .val (.ref x131), .val (.int v133), .unset, .unset, .unset, .unset, .unset, .unset, .unset, .unset, .unset, .unset, .unset] [(.int (101 : Int32))])) _
            exact kt
          ·
            have ev147 : v147 = (69 : Int32) := by rw [hv147, if_neg hm146]
            rw [ev147] at kt
            refine (fun t (k : Steps p.tables e below (T131.setTop (mkF m 241 #[.val (.int p0), .val (.int p1), .val (.int p2), .val (.int p3), .val (.int il1), .val (.int fl3), .val (.int el5), .val (.int es7), .val (.int v10), .val (.int v13), .val (.int v28), .val (.int d19), .val (.int d22), .val (.int d31), .val (.int d34), .val (.int d37), .val (.int d40), .val (.int d43), .val (.ref x123), .val (.ref x127), .val (.ref x131), .val (.int v133), .unset, .unset, .unset, .unset, .unset, .unset, .unset, .unset, .unset, .unset, .unset] [(.int v10)])) t) => k) _ ?_
            refine XS.ifNo X131.here hx rfl (hb hby at_241) rfl ((if0 _ _).trans (feq hm146).1) ?_
            refine XS.bipush X131.here hx rfl (hb hby at_244) ?_
            refine XS.goto X131.here hx rfl (pc0 := 246) (pc' := 251) rfl (hb hby at_246) (by decide) (by decide) ?_
            show Steps p.tables e below (T131.setTop (mkF m 251 #[.val (.int p0), .val (.int p1), .val (.int p2), .val (.int p3), .val (.int il1), .val (.int fl3), .val (.int el5), .val (.int es7), .val (.int v10), .val (.int v13), .val (.int v28), .val (.int d19), .val (.int d22), .val (.int d31), .val (.int d34), .val (.int d37), .val (.int d40), .val (.int d43), .val (.ref x123), .val (.ref x127), .val (.ref x131), .val (.int v133), .unset, .unset, .unset, .unset, .unset, .unset, .unset, .unset, .unset, .unset, .unset] [(.int (69 : Int32))])) _
            exact kt
        have pre149 : ∀ t, Steps p.tables e below (T131.setTop (mkF m 251 #[.val (.int p0), .val (.int p1), .val (.int p2), .val (.int p3), .val (.int il1), .val (.int fl3), .val (.int el5), .val (.int es7), .val (.int v10), .val (.int v13), .val (.int v28), .val (.int d19), .val (.int d22), .val (.int d31), .val (.int d34), .val (.int d37), .val (.int d40), .val (.int d43), .val (.ref x123), .val (.ref x127), .val (.ref x131), .val (.int v133), .unset, .unset, .unset, .unset, .unset, .unset, .unset, .unset, .unset, .unset, .unset] [(.int v147)])) t → Steps p.tables e below (s₁.setTop (entryFrame m #[(.int p0), (.int p1), (.int p2), (.int p3)] maxLocals)) t := by
          intro t kt
          refine pre136 _ ?_
          show Steps p.tables e below (T131.setTop (mkF m 231 #[.val (.int p0), .val (.int p1), .val (.int p2), .val (.int p3), .val (.int il1), .val (.int fl3), .val (.int el5), .val (.int es7), .val (.int v10), .val (.int v13), .val (.int v28), .val (.int d19), .val (.int d22), .val (.int d31), .val (.int d34), .val (.int d37), .val (.int d40), .val (.int d43), .val (.ref x123), .val (.ref x127), .val (.ref x131), .val (.int v133), .unset, .unset, .unset, .unset, .unset, .unset, .unset, .unset, .unset, .unset, .unset] [(.int el5)])) _
          refine XS.ifYes X131.here hx rfl (pc0 := 231) (pc' := 239) rfl (hb hby at_231) rfl ((if0 _ _).trans (feq hc231).2) (by decide) (by decide) ?_
          refine XS.iload X131.here hx rfl (hb hby at_239) rfl ?_
          show Steps p.tables e below (T131.setTop (mkF m 241 #[.val (.int p0), .val (.int p1), .val (.int p2), .val (.int p3), .val (.int il1), .val (.int fl3), .val (.int el5), .val (.int es7), .val (.int v10), .val (.int v13), .val (.int v28), .val (.int d19), .val (.int d22), .val (.int d31), .val (.int d34), .val (.int d37), .val (.int d40), .val (.int d43), .val (.ref x123), .val (.ref x127), .val (.ref x131), .val (.int v133), .unset, .unset, .unset, .unset, .unset, .unset, .unset, .unset, .unset, .unset, .unset] [(.int v10)])) _
          refine mg148 _ ?_
          show Steps p.tables e below (T131.setTop (mkF m 251 #[.val (.int p0), .val (.int p1), .val (.int p2), .val (.int p3), .val (.int il1), .val (.int fl3), .val (.int el5), .val (.int es7), .val (.int v10), .val (.int v13), .val (.int v28), .val (.int d19), .val (.int d22), .val (.int d31), .val (.int d34), .val (.int d37), .val (.int d40), .val (.int d43), .val (.ref x123), .val (.ref x127), .val (.ref x131), .val (.int v133), .unset, .unset, .unset, .unset, .unset, .unset, .unset, .unset, .unset, .unset, .unset] [(.int v147)])) _
          exact kt
        have kup : v147 = (69 : Int32) ∨ v147 = (101 : Int32) := by rw [hv147]; split <;> simp
        have kuc : own_c255 v147 := by rcases kup with q | q <;> rw [q] <;> exact ⟨by decide, by decide⟩
        obtain ⟨v151, hv151⟩ : ∃ z : Int32, z = if es7 = (0 : Int32) then (1 : Int32) else (2 : Int32) := ⟨_, rfl⟩
        have mg152 : ∀ t, Steps p.tables e below (T131.setTop (mkF m 267 #[.val (.int p0), .val (.int p1), .val (.int p2), .val (.int p3), .val (.int il1), .val (.int fl3), .val (.int el5), .val (.int es7), .val (.int v10), .val (.int v13), .val (.int v28), .val (.int d19), .val (.int d22), .val (.int d31), .val (.int d34), .val (.int d37), .val (.int d40), .val (.int d43), .val (.ref x123), .val (.ref x127), .val (.ref x131), .val (.int v133), .unset, .unset, .unset, .unset, .unset, .unset, .unset, .unset, .unset, .unset, .unset] [(.int v151), (.int (48 : Int32)), (.int (48 : Int32)), (.int v133), (.int v147)])) t → Steps p.tables e below (T131.setTop (mkF m 259 #[.val (.int p0), .val (.int p1), .val (.int p2), .val (.int p3), .val (.int il1), .val (.int fl3), .val (.int el5), .val (.int es7), .val (.int v10), .val (.int v13), .val (.int v28), .val (.int d19), .val (.int d22), .val (.int d31), .val (.int d34), .val (.int d37), .val (.int d40), .val (.int d43), .val (.ref x123), .val (.ref x127), .val (.ref x131), .val (.int v133), .unset, .unset, .unset, .unset, .unset, .unset, .unset, .unset, .unset, .unset, .unset] [(.int es7), (.int (48 : Int32)), (.int (48 : Int32)), (.int v133), (.int v147)])) t := by
          intro t kt
          by_cases hm150 : es7 = (0 : Int32)
          ·
            have ev151 : v151 = (1 : Int32) := by rw [hv151, if_pos hm150]
            rw [ev151] at kt
            refine (fun t (k : Steps p.tables e below (T131.setTop (mkF m 259 #[.val (.int p0), .val (.int p1), .val (.int p2), .val (.int p3), .val (.int il1), .val (.int fl3), .val (.int el5), .val (.int es7), .val (.int v10), .val (.int v13), .val (.int v28), .val (.int d19), .val (.int d22), .val (.int d31), .val (.int d34), .val (.int d37), .val (.int d40), .val (.int d43), .val (.ref x123), .val (.ref x127), .val (.ref x131), .val (.int v133), .unset, .unset, .unset, .unset, .unset, .unset, .unset, .unset, .unset, .unset, .unset] [(.int es7), (.int (48 : Int32)), (.int (48 : Int32)), (.int v133), (.int v147)])) t) => k) _ ?_
            refine XS.ifNo X131.here hx rfl (hb hby at_259) rfl ((if0 _ _).trans (teq hm150).2) ?_
            refine XS.iconst X131.here hx rfl (hb hby at_262) ?_
            refine XS.goto X131.here hx rfl (pc0 := 263) (pc' := 267) rfl (hb hby at_263) (by decide) (by decide) ?_
            show Steps p.tables e below (T131.setTop (mkF m 267 #[.val (.int p0), .val (.int p1), .val (.int p2), .val (.int p3), .val (.int il1), .val (.int fl3), .val (.int el5), .val (.int es7), .val (.int v10), .val (.int v13), .val (.int v28), .val (.int d19), .val (.int d22), .val (.int d31), .val (.int d34), .val (.int d37), .val (.int d40), .val (.int d43), .val (.ref x123), .val (.ref x127), .val (.ref x131), .val (.int v133), .unset, .unset, .unset, .unset, .unset, .unset, .unset, .unset, .unset, .unset, .unset] [(.int (1 : Int32)), (.int (48 : Int32)), (.int (48 : Int32)), (.int v133), (.int v147)])) _
            exact kt
          ·
            have ev151 : v151 = (2 : Int32) := by rw [hv151, if_neg hm150]
            rw [ev151] at kt
            refine (fun t (k : Steps p.tables e below (T131.setTop (mkF m 259 #[.val (.int p0), .val (.int p1), .val (.int p2), .val (.int p3), .val (.int il1), .val (.int fl3), .val (.int el5), .val (.int es7), .val (.int v10), .val (.int v13), .val (.int v28), .val (.int d19), .val (.int d22), .val (.int d31), .val (.int d34), .val (.int d37), .val (.int d40), .val (.int d43), .val (.ref x123), .val (.ref x127), .val (.ref x131), .val (.int v133), .unset, .unset, .unset, .unset, .unset, .unset, .unset, .unset, .unset, .unset, .unset] [(.int es7), (.int (48 : Int32)), (.int (48 : Int32)), (.int v133), (.int v147)])) t) => k) _ ?_
            refine XS.ifYes X131.here hx rfl (pc0 := 259) (pc' := 266) rfl (hb hby at_259) rfl ((if0 _ _).trans (feq hm150).2) (by decide) (by decide) ?_
            refine XS.iconst X131.here hx rfl (hb hby at_266) ?_
            show Steps p.tables e below (T131.setTop (mkF m 267 #[.val (.int p0), .val (.int p1), .val (.int p2), .val (.int p3), .val (.int il1), .val (.int fl3), .val (.int el5), .val (.int es7), .val (.int v10), .val (.int v13), .val (.int v28), .val (.int d19), .val (.int d22), .val (.int d31), .val (.int d34), .val (.int d37), .val (.int d40), .val (.int d43), .val (.ref x123), .val (.ref x127), .val (.ref x131), .val (.int v133), .unset, .unset, .unset, .unset, .unset, .unset, .unset, .unset, .unset, .unset, .unset] [(.int (2 : Int32)), (.int (48 : Int32)), (.int (48 : Int32)), (.int v133), (.int v147)])) _
            exact kt
        have OLD153 : Old Z n0 h131 := OLD0.keep K131 all0
        obtain ⟨_, _, ⟨T153, L153, k153, n153⟩, -, X153, ⟨Lc153, hQ153, l153, y153, z153⟩, st153⟩ := Jvm.LawKit.callS X131 hx (y := (⟨"com/example/reed/reed/engine/IntegralityIsIntegerPinLaw", "text", "(CCCCI)Ljava/lang/String;"⟩ : MethodName)) hown (mvT hZ (hw _ (List.mem_of_getElem? (i := 15) rfl))) (mvT hZ (hw _ (List.mem_of_getElem? (i := 16) rfl))) (mvT hZ (hw _ (List.mem_of_getElem? (i := 2) rfl))) (mvT hZ (hw _ (List.mem_of_getElem? (i := 17) rfl))) (by decide) (backOf (W := 0) (rm3 l Z a0 hw [] v147 v133 (48 : Int32) (48 : Int32) v151 G1 h131 n0 (Nat.le_trans Z0 K131.1) OLD153 SCS P5 kuc ksc own_l48 own_l48) hZ (hw _ (List.mem_of_getElem? (i := 17) rfl)) (hw _ (List.mem_of_getElem? (i := 2) rfl)) (by decide) (by decide)) (g := (mkF m 267 #[.val (.int p0), .val (.int p1), .val (.int p2), .val (.int p3), .val (.int il1), .val (.int fl3), .val (.int el5), .val (.int es7), .val (.int v10), .val (.int v13), .val (.int v28), .val (.int d19), .val (.int d22), .val (.int d31), .val (.int d34), .val (.int d37), .val (.int d40), .val (.int d43), .val (.ref x123), .val (.ref x127), .val (.ref x131), .val (.int v133), .unset, .unset, .unset, .unset, .unset, .unset, .unset, .unset, .unset, .unset, .unset] [(.int v151), (.int (48 : Int32)), (.int (48 : Int32)), (.int v133), (.int v147)])) rfl (by rw [hml]; rfl) (argsL := [(.int v147), (.int v133), (.int (48 : Int32)), (.int (48 : Int32)), (.int v151)]) (rest := []) (lenOf pd__CCCCI_Ljava_lang_String_ rfl) rfl (by show 2 * 0 + _ ≤ _; exact Nat.le_of_eq rfl) (hb hby at_267) (fun _ _ => ⟨rfl, e131, (by decide : 7 + 3 ≤ _), (by decide : 24 + 12 ≤ _)⟩)
        dsimp only [Pt.U, Pt.locs, Pt.cells, Pt.slots] at X153 l153 y153 z153 st153 hQ153
        subst l153 y153 z153
        obtain ⟨x153, rfl, N153q, kq153, gg153, u153, xs153⟩ := hQ153
        have N153 := Fr.app N127 N153q
        have K153 := K131.trans kq153 all0
        have hk154 : ¬ (el5 = (0 : Int32)) := hc231
        obtain ⟨_, _, ⟨T155, L155, k155, n155⟩, -, X155, ⟨Lc155, hQ155, l155, y155, z155⟩, st155⟩ := Jvm.LawKit.callS X153 hx (y := (⟨"com/example/reed/reed/engine/IntegralityIsIntegerPinLaw", "ch", "(I)C"⟩ : MethodName)) hown (mvT hZ (hw _ (List.mem_of_getElem? (i := 12) rfl))) (mvT hZ (hw _ (List.mem_of_getElem? (i := 13) rfl))) (mvT hZ (hw _ (List.mem_of_getElem? (i := 2) rfl))) (mvT hZ (hw _ (List.mem_of_getElem? (i := 14) rfl))) (by decide) (backOf (W := 0) (rm2 l Z a0 hw [] d40 T153.heap n0 (Nat.le_trans Z0 K153.1) d9d40) hZ (hw _ (List.mem_of_getElem? (i := 14) rfl)) (hw _ (List.mem_of_getElem? (i := 2) rfl)) (by decide) (by decide)) (g := (mkF m 284 #[.val (.int p0), .val (.int p1), .val (.int p2), .val (.int p3), .val (.int il1), .val (.int fl3), .val (.int el5), .val (.int es7), .val (.int v10), .val (.int v13), .val (.int v28), .val (.int d19), .val (.int d22), .val (.int d31), .val (.int d34), .val (.int d37), .val (.int d40), .val (.int d43), .val (.ref x123), .val (.ref x127), .val (.ref x131), .val (.int v133), .val (.ref x153), .unset, .unset, .unset, .unset, .unset, .unset, .unset, .unset, .unset, .unset] [(.int d40)])) rfl (by rw [hml]; rfl) (argsL := [(.int d40)]) (rest := []) (lenOf pd__I_C rfl) rfl (by show 2 * 0 + _ ≤ _; exact Nat.le_of_eq rfl) (hb hby at_284) (fun _ _ => ⟨rfl, rfl, (by decide : 10 + 0 ≤ _), (by decide : 36 + 0 ≤ _)⟩)
        dsimp only [Pt.U, Pt.locs, Pt.cells, Pt.slots] at X155 l155 y155 z155 st155 hQ155
        subst l155 y155 z155
        obtain ⟨rfl, N155q, hq155⟩ := hQ155
        have N155 := Fr.app N153 N155q
        have E155 : Ext T153.heap T155.heap := by rw [hq155]; exact ⟨Nat.le_refl _, fun _ _ q => q⟩
        have K155 := K153.ext E155
        obtain ⟨_, _, ⟨T156, L156, k156, n156⟩, -, X156, ⟨Lc156, hQ156, l156, y156, z156⟩, st156⟩ := Jvm.LawKit.callS X155 hx (y := (⟨"com/example/reed/reed/engine/IntegralityIsIntegerPinLaw", "ch", "(I)C"⟩ : MethodName)) hown (mvT hZ (hw _ (List.mem_of_getElem? (i := 12) rfl))) (mvT hZ (hw _ (List.mem_of_getElem? (i := 13) rfl))) (mvT hZ (hw _ (List.mem_of_getElem? (i := 2) rfl))) (mvT hZ (hw _ (List.mem_of_getElem? (i := 14) rfl))) (by decide) (backOf (W := 1) (rm2 l Z a0 hw [] d43 T155.heap n0 (Nat.le_trans Z0 K155.1) d9d43) hZ (hw _ (List.mem_of_getElem? (i := 14) rfl)) (hw _ (List.mem_of_getElem? (i := 2) rfl)) (by decide) (by decide)) (g := (mkF m 289 #[.val (.int p0), .val (.int p1), .val (.int p2), .val (.int p3), .val (.int il1), .val (.int fl3), .val (.int el5), .val (.int es7), .val (.int v10), .val (.int v13), .val (.int v28), .val (.int d19), .val (.int d22), .val (.int d31), .val (.int d34), .val (.int d37), .val (.int d40), .val (.int d43), .val (.ref x123), .val (.ref x127), .val (.ref x131), .val (.int v133), .val (.ref x153), .unset, .unset, .unset, .unset, .unset, .unset, .unset, .unset, .unset, .unset] [(.int d43), (.int ((48 : Int32) + d40))])) rfl (by rw [hml]; rfl) (argsL := [(.int d43)]) (rest := [(.int ((48 : Int32) + d40))]) (lenOf pd__I_C rfl) rfl (by show 2 * 0 + _ ≤ _; exact Nat.le_of_eq rfl) (hb hby at_289) (fun _ _ => ⟨rfl, rfl, (by decide : 10 + 0 ≤ _), (by decide : 36 + 0 ≤ _)⟩)
        dsimp only [Pt.U, Pt.locs, Pt.cells, Pt.slots] at X156 l156 y156 z156 st156 hQ156
        subst l156 y156 z156
        obtain ⟨rfl, N156q, hq156⟩ := hQ156
        have N156 := Fr.app N155 N156q
        have E156 : Ext T155.heap T156.heap := by rw [hq156]; exact ⟨Nat.le_refl _, fun _ _ q => q⟩
        have K156 := K155.ext E156
        have OLD157 : Old Z n0 T156.heap := OLD0.keep K156 all0
        obtain ⟨_, _, ⟨T157, L157, k157, n157⟩, -, X157, ⟨Lc157, hQ157, l157, y157, z157⟩, st157⟩ := Jvm.LawKit.callS X156 hx (y := (⟨"com/example/reed/reed/engine/IntegralityIsIntegerPinLaw", "text", "(CCCCI)Ljava/lang/String;"⟩ : MethodName)) hown (mvT hZ (hw _ (List.mem_of_getElem? (i := 15) rfl))) (mvT hZ (hw _ (List.mem_of_getElem? (i := 16) rfl))) (mvT hZ (hw _ (List.mem_of_getElem? (i := 2) rfl))) (mvT hZ (hw _ (List.mem_of_getElem? (i := 17) rfl))) (by decide) (backOf (W := 0) (rm3 l Z a0 hw [] ((48 : Int32) + d40) ((48 : Int32) + d43) (48 : Int32) (48 : Int32) el5 G1 T156.heap n0 (Nat.le_trans Z0 K156.1) OLD157 SCS P5 (own_c48 d9d40) (own_c48 d9d43) own_l48 own_l48) hZ (hw _ (List.mem_of_getElem? (i := 17) rfl)) (hw _ (List.mem_of_getElem? (i := 2) rfl)) (by decide) (by decide)) (g := (mkF m 298 #[.val (.int p0), .val (.int p1), .val (.int p2), .val (.int p3), .val (.int il1), .val (.int fl3), .val (.int el5), .val (.int es7), .val (.int v10), .val (.int v13), .val (.int v28), .val (.int d19), .val (.int d22), .val (.int d31), .val (.int d34), .val (.int d37), .val (.int d40), .val (.int d43), .val (.ref x123), .val (.ref x127), .val (.ref x131), .val (.int v133), .val (.ref x153), .unset, .unset, .unset, .unset, .unset, .unset, .unset, .unset, .unset, .unset] [(.int el5), (.int (48 : Int32)), (.int (48 : Int32)), (.int ((48 : Int32) + d43)), (.int ((48 : Int32) + d40))])) rfl (by rw [hml]; rfl) (argsL := [(.int ((48 : Int32) + d40)), (.int ((48 : Int32) + d43)), (.int (48 : Int32)), (.int (48 : Int32)), (.int el5)]) (rest := []) (lenOf pd__CCCCI_Ljava_lang_String_ rfl) rfl (by show 2 * 0 + _ ≤ _; exact Nat.le_of_eq rfl) (hb hby at_298) (fun _ _ => ⟨rfl, rfl, (by decide : 10 + 3 ≤ _), (by decide : 36 + 12 ≤ _)⟩)
        dsimp only [Pt.U, Pt.locs, Pt.cells, Pt.slots] at X157 l157 y157 z157 st157 hQ157
        subst l157 y157 z157
        obtain ⟨x157, rfl, N157q, kq157, gg157, u157, xs157⟩ := hQ157
        have N157 := Fr.app N156 N157q
        have K157 := K156.trans kq157 all0
        have c158 := (own_strP (own_strE (own_strE (own_strP (own_strE (own_strP (own_strE (own_strE (own_strE xs123 E124) E125) E126) kq127) E131) kq153) E155) E156) kq157)
        have c159 := (own_strP (own_strE (own_strE (own_strP (own_strE xs127 E131) kq153) E155) E156) kq157)
        have c160 := (own_strP (own_strE (own_strE (own_strP xs131 kq153) E155) E156) kq157)
        have c161 := (own_strP (own_strE (own_strE xs153 E155) E156) kq157)
        have pre162 : ∀ t, Steps p.tables e below (T157.setTop (mkF m 303 #[.val (.int p0), .val (.int p1), .val (.int p2), .val (.int p3), .val (.int il1), .val (.int fl3), .val (.int el5), .val (.int es7), .val (.int v10), .val (.int v13), .val (.int v28), .val (.int d19), .val (.int d22), .val (.int d31), .val (.int d34), .val (.int d37), .val (.int d40), .val (.int d43), .val (.ref x123), .val (.ref x127), .val (.ref x131), .val (.int v133), .val (.ref x153), .val (.ref x157), .unset, .unset, .unset, .unset, .unset, .unset, .unset, .unset, .unset] [])) t → Steps p.tables e below (s₁.setTop (entryFrame m #[(.int p0), (.int p1), (.int p2), (.int p3)] maxLocals)) t := by
          intro t kt
          refine pre149 _ ?_
          show Steps p.tables e below (T131.setTop (mkF m 251 #[.val (.int p0), .val (.int p1), .val (.int p2), .val (.int p3), .val (.int il1), .val (.int fl3), .val (.int el5), .val (.int es7), .val (.int v10), .val (.int v13), .val (.int v28), .val (.int d19), .val (.int d22), .val (.int d31), .val (.int d34), .val (.int d37), .val (.int d40), .val (.int d43), .val (.ref x123), .val (.ref x127), .val (.ref x131), .val (.int v133), .unset, .unset, .unset, .unset, .unset, .unset, .unset, .unset, .unset, .unset, .unset] [(.int v147)])) _
          refine XS.iload X131.here hx rfl (hb hby at_251) rfl ?_
          refine XS.bipush X131.here hx rfl (hb hby at_253) ?_
          refine XS.bipush X131.here hx rfl (hb hby at_255) ?_
          show Steps p.tables e below (T131.setTop (mkF m 257 #[.val (.int p0), .val (.int p1), .val (.int p2), .val (.int p3), .val (.int il1), .val (.int fl3), .val (.int el5), .val (.int es7), .val (.int v10), .val (.int v13), .val (.int v28), .val (.int d19), .val (.int d22), .val (.int d31), .val (.int d34), .val (.int d37), .val (.int d40), .val (.int d43), .val (.ref x123), .val (.ref x127), .val (.ref x131), .val (.int v133), .unset, .unset, .unset, .unset, .unset, .unset, .unset, .unset, .unset, .unset, .unset] [(.int (48 : Int32)), (.int (48 : Int32)), (.int v133), (.int v147)])) _
          refine XS.iload X131.here hx rfl (hb hby at_257) rfl ?_
          show Steps p.tables e below (T131.setTop (mkF m 259 #[.val (.int p0), .val (.int p1), .val (.int p2), .val (.int p3), .val (.int il1), .val (.int fl3), .val (.int el5), .val (.int es7), .val (.int v10), .val (.int v13), .val (.int v28), .val (.int d19), .val (.int d22), .val (.int d31), .val (.int d34), .val (.int d37), .val (.int d40), .val (.int d43), .val (.ref x123), .val (.ref x127), .val (.ref x131), .val (.int v133), .unset, .unset, .unset, .unset, .unset, .unset, .unset, .unset, .unset, .unset, .unset] [(.int es7), (.int (48 : Int32)), (.int (48 : Int32)), (.int v133), (.int v147)])) _
          refine mg152 _ ?_
          show Steps p.tables e below (T131.setTop (mkF m 267 #[.val (.int p0), .val (.int p1), .val (.int p2), .val (.int p3), .val (.int il1), .val (.int fl3), .val (.int el5), .val (.int es7), .val (.int v10), .val (.int v13), .val (.int v28), .val (.int d19), .val (.int d22), .val (.int d31), .val (.int d34), .val (.int d37), .val (.int d40), .val (.int d43), .val (.ref x123), .val (.ref x127), .val (.ref x131), .val (.int v133), .unset, .unset, .unset, .unset, .unset, .unset, .unset, .unset, .unset, .unset, .unset] [(.int v151), (.int (48 : Int32)), (.int (48 : Int32)), (.int v133), (.int v147)])) _
          refine st153 _ ?_
          show Steps p.tables e below (T153.setTop (mkF m 270 #[.val (.int p0), .val (.int p1), .val (.int p2), .val (.int p3), .val (.int il1), .val (.int fl3), .val (.int el5), .val (.int es7), .val (.int v10), .val (.int v13), .val (.int v28), .val (.int d19), .val (.int d22), .val (.int d31), .val (.int d34), .val (.int d37), .val (.int d40), .val (.int d43), .val (.ref x123), .val (.ref x127), .val (.ref x131), .val (.int v133), .unset, .unset, .unset, .unset, .unset, .unset, .unset, .unset, .unset, .unset, .unset] [(.ref x153)])) _
          refine XS.astore X153.here hx rfl (hb hby at_270) rfl rfl (l' := #[.val (.int p0), .val (.int p1), .val (.int p2), .val (.int p3), .val (.int il1), .val (.int fl3), .val (.int el5), .val (.int es7), .val (.int v10), .val (.int v13), .val (.int v28), .val (.int d19), .val (.int d22), .val (.int d31), .val (.int d34), .val (.int d37), .val (.int d40), .val (.int d43), .val (.ref x123), .val (.ref x127), .val (.ref x131), .val (.int v133), .val (.ref x153), .unset, .unset, .unset, .unset, .unset, .unset, .unset, .unset, .unset, .unset]) rfl ?_
          refine XS.iload X153.here hx rfl (hb hby at_272) rfl ?_
          refine XS.ifYes X153.here hx rfl (pc0 := 274) (pc' := 282) rfl (hb hby at_274) rfl ((if0 _ _).trans (feq hk154).2) (by decide) (by decide) ?_
          show Steps p.tables e below (T153.setTop (mkF m 282 #[.val (.int p0), .val (.int p1), .val (.int p2), .val (.int p3), .val (.int il1), .val (.int fl3), .val (.int el5), .val (.int es7), .val (.int v10), .val (.int v13), .val (.int v28), .val (.int d19), .val (.int d22), .val (.int d31), .val (.int d34), .val (.int d37), .val (.int d40), .val (.int d43), .val (.ref x123), .val (.ref x127), .val (.ref x131), .val (.int v133), .val (.ref x153), .unset, .unset, .unset, .unset, .unset, .unset, .unset, .unset, .unset, .unset] [])) _
          refine XS.iload X153.here hx rfl (hb hby at_282) rfl ?_
          show Steps p.tables e below (T153.setTop (mkF m 284 #[.val (.int p0), .val (.int p1), .val (.int p2), .val (.int p3), .val (.int il1), .val (.int fl3), .val (.int el5), .val (.int es7), .val (.int v10), .val (.int v13), .val (.int v28), .val (.int d19), .val (.int d22), .val (.int d31), .val (.int d34), .val (.int d37), .val (.int d40), .val (.int d43), .val (.ref x123), .val (.ref x127), .val (.ref x131), .val (.int v133), .val (.ref x153), .unset, .unset, .unset, .unset, .unset, .unset, .unset, .unset, .unset, .unset] [(.int d40)])) _
          refine st155 _ ?_
          show Steps p.tables e below (T155.setTop (mkF m 287 #[.val (.int p0), .val (.int p1), .val (.int p2), .val (.int p3), .val (.int il1), .val (.int fl3), .val (.int el5), .val (.int es7), .val (.int v10), .val (.int v13), .val (.int v28), .val (.int d19), .val (.int d22), .val (.int d31), .val (.int d34), .val (.int d37), .val (.int d40), .val (.int d43), .val (.ref x123), .val (.ref x127), .val (.ref x131), .val (.int v133), .val (.ref x153), .unset, .unset, .unset, .unset, .unset, .unset, .unset, .unset, .unset, .unset] [(.int ((48 : Int32) + d40))])) _
          refine XS.iload X155.here hx rfl (hb hby at_287) rfl ?_
          show Steps p.tables e below (T155.setTop (mkF m 289 #[.val (.int p0), .val (.int p1), .val (.int p2), .val (.int p3), .val (.int il1), .val (.int fl3), .val (.int el5), .val (.int es7), .val (.int v10), .val (.int v13), .val (.int v28), .val (.int d19), .val (.int d22), .val (.int d31), .val (.int d34), .val (.int d37), .val (.int d40), .val (.int d43), .val (.ref x123), .val (.ref x127), .val (.ref x131), .val (.int v133), .val (.ref x153), .unset, .unset, .unset, .unset, .unset, .unset, .unset, .unset, .unset, .unset] [(.int d43), (.int ((48 : Int32) + d40))])) _
          refine st156 _ ?_
          show Steps p.tables e below (T156.setTop (mkF m 292 #[.val (.int p0), .val (.int p1), .val (.int p2), .val (.int p3), .val (.int il1), .val (.int fl3), .val (.int el5), .val (.int es7), .val (.int v10), .val (.int v13), .val (.int v28), .val (.int d19), .val (.int d22), .val (.int d31), .val (.int d34), .val (.int d37), .val (.int d40), .val (.int d43), .val (.ref x123), .val (.ref x127), .val (.ref x131), .val (.int v133), .val (.ref x153), .unset, .unset, .unset, .unset, .unset, .unset, .unset, .unset, .unset, .unset] [(.int ((48 : Int32) + d43)), (.int ((48 : Int32) + d40))])) _
          refine XS.bipush X156.here hx rfl (hb hby at_292) ?_
          refine XS.bipush X156.here hx rfl (hb hby at_294) ?_
          refine XS.iload X156.here hx rfl (hb hby at_296) rfl ?_
          show Steps p.tables e below (T156.setTop (mkF m 298 #[.val (.int p0), .val (.int p1), .val (.int p2), .val (.int p3), .val (.int il1), .val (.int fl3), .val (.int el5), .val (.int es7), .val (.int v10), .val (.int v13), .val (.int v28), .val (.int d19), .val (.int d22), .val (.int d31), .val (.int d34), .val (.int d37), .val (.int d40), .val (.int d43), .val (.ref x123), .val (.ref x127), .val (.ref x131), .val (.int v133), .val (.ref x153), .unset, .unset, .unset, .unset, .unset, .unset, .unset, .unset, .unset, .unset] [(.int el5), (.int (48 : Int32)), (.int (48 : Int32)), (.int ((48 : Int32) + d43)), (.int ((48 : Int32) + d40))])) _
          refine st157 _ ?_
          show Steps p.tables e below (T157.setTop (mkF m 301 #[.val (.int p0), .val (.int p1), .val (.int p2), .val (.int p3), .val (.int il1), .val (.int fl3), .val (.int el5), .val (.int es7), .val (.int v10), .val (.int v13), .val (.int v28), .val (.int d19), .val (.int d22), .val (.int d31), .val (.int d34), .val (.int d37), .val (.int d40), .val (.int d43), .val (.ref x123), .val (.ref x127), .val (.ref x131), .val (.int v133), .val (.ref x153), .unset, .unset, .unset, .unset, .unset, .unset, .unset, .unset, .unset, .unset] [(.ref x157)])) _
          refine XS.astore X157.here hx rfl (hb hby at_301) rfl rfl (l' := #[.val (.int p0), .val (.int p1), .val (.int p2), .val (.int p3), .val (.int il1), .val (.int fl3), .val (.int el5), .val (.int es7), .val (.int v10), .val (.int v13), .val (.int v28), .val (.int d19), .val (.int d22), .val (.int d31), .val (.int d34), .val (.int d37), .val (.int d40), .val (.int d43), .val (.ref x123), .val (.ref x127), .val (.ref x131), .val (.int v133), .val (.ref x153), .val (.ref x157), .unset, .unset, .unset, .unset, .unset, .unset, .unset, .unset, .unset]) rfl ?_
          show Steps p.tables e below (T157.setTop (mkF m 303 #[.val (.int p0), .val (.int p1), .val (.int p2), .val (.int p3), .val (.int il1), .val (.int fl3), .val (.int el5), .val (.int es7), .val (.int v10), .val (.int v13), .val (.int v28), .val (.int d19), .val (.int d22), .val (.int d31), .val (.int d34), .val (.int d37), .val (.int d40), .val (.int d43), .val (.ref x123), .val (.ref x127), .val (.ref x131), .val (.int v133), .val (.ref x153), .val (.ref x157), .unset, .unset, .unset, .unset, .unset, .unset, .unset, .unset, .unset] [])) _
          exact kt
        have HL := own_main kil kfl kel kes d9v28 d9d19 d9d22 d9d31 d9d34 d9d37 d9d40 d9d43 (up := v147) (sc := v133) kup hv133 (cs1 := [45]) (cs3 := []) (cs4 := (own_take v151 v147 v133 (48 : Int32) (48 : Int32))) (cs5 := (own_take el5 ((48 : Int32) + d40) ((48 : Int32) + d43) (48 : Int32) (48 : Int32))) (Or.inr rfl) (by rw [if_pos hc180]) (by rw [if_neg hc231, hv151]) (by rw [if_neg hc231])
        have OLDz : Old Z n0 T157.heap := OLD0.keep K157 all0
        obtain ⟨Lh, Xh, Nh⟩ := own_hide X157 N157 (C := 30) (S := 2000) (Nat.le_of_ble_eq_true rfl) (Nat.le_of_ble_eq_true rfl)
        obtain ⟨T2, Ls, L2, X2, N2, hz2, st2⟩ := own_tail Xh hx hZ hw hby hml hown rfl Nh (Nat.le_trans Z0 K157.1) OLDz SCS P5 SSI rfm c158 c159 c160 c161 xs157 own_lm45 (own_takeC (own_c48 d9v28) (own_c48 d9d19) (own_c48 d9d22) own_l48) own_lm0 (own_takeC kuc ksc own_l48 own_l48) (own_takeC (own_c48 d9d40) (own_c48 d9d43) own_l48 own_l48) (by decide) (own_takeL _ _ _ _ _) (by decide) (own_takeL _ _ _ _ _) (own_takeL _ _ _ _ _) HL (p0 := p0) (p1 := p1) (p2 := p2) (p3 := p3) (up := v10) (ng := v13) (sc := v133)
        obtain ⟨fs, hr, hrun, hended, hW⟩ := X2.leaveW hS131 (Nat.le_trans (Nat.le_trans (Nat.le_trans (Nat.le_trans (Nat.le_trans hk131 kq153.1) E155.1) E156.1) kq157.1) hz2) (v := some (.int (1 : Int32))) (fun h => by rw [Bd.returns] at h; cases h)
        exact ⟨_, _, pre162 _ (st2 _ (retN X2 hx (t := .boolean) Bd.returns (by simp) (hb hby at_564) hr)), hrun, hended, _, _, rfl, ⟨rfl, N2⟩, hW⟩
    ·
      obtain ⟨_, _, ⟨T163, L163, k163, n163⟩, -, X163, ⟨Lc163, hQ163, l163, y163, z163⟩, st163⟩ := Jvm.LawKit.callS X127 hx (y := (⟨"com/example/reed/reed/engine/IntegralityIsIntegerPinLaw", "ch", "(I)C"⟩ : MethodName)) hown (mvT hZ (hw _ (List.mem_of_getElem? (i := 12) rfl))) (mvT hZ (hw _ (List.mem_of_getElem? (i := 13) rfl))) (mvT hZ (hw _ (List.mem_of_getElem? (i := 2) rfl))) (mvT hZ (hw _ (List.mem_of_getElem? (i := 14) rfl))) (by decide) (backOf (W := 1) (rm2 l Z a0 hw [] d31 T127.heap n0 (Nat.le_trans Z0 K127.1) d9d31) hZ (hw _ (List.mem_of_getElem? (i := 14) rfl)) (hw _ (List.mem_of_getElem? (i := 2) rfl)) (by decide) (by decide)) (g := (mkF m 192 #[.val (.int p0), .val (.int p1), .val (.int p2), .val (.int p3), .val (.int il1), .val (.int fl3), .val (.int el5), .val (.int es7), .val (.int v10), .val (.int v13), .val (.int v28), .val (.int d19), .val (.int d22), .val (.int d31), .val (.int d34), .val (.int d37), .val (.int d40), .val (.int d43), .val (.ref x123), .val (.ref x127), .unset, .unset, .unset, .unset, .unset, .unset, .unset, .unset, .unset, .unset, .unset, .unset, .unset] [(.int d31), (.int (46 : Int32))])) rfl (by rw [hml]; rfl) (argsL := [(.int d31)]) (rest := [(.int (46 : Int32))]) (lenOf pd__I_C rfl) rfl (by show 2 * 0 + _ ≤ _; exact Nat.le_of_eq rfl) (hb hby at_192) (fun _ _ => ⟨rfl, rfl, (by decide : 5 + 0 ≤ _), (by decide : 20 + 0 ≤ _)⟩)
      dsimp only [Pt.U, Pt.locs, Pt.cells, Pt.slots] at X163 l163 y163 z163 st163 hQ163
      subst l163 y163 z163
      obtain ⟨rfl, N163q, hq163⟩ := hQ163
      have N163 := Fr.app N127 N163q
      have E163 : Ext T127.heap T163.heap := by rw [hq163]; exact ⟨Nat.le_refl _, fun _ _ q => q⟩
      have K163 := K127.ext E163
      obtain ⟨_, _, ⟨T164, L164, k164, n164⟩, -, X164, ⟨Lc164, hQ164, l164, y164, z164⟩, st164⟩ := Jvm.LawKit.callS X163 hx (y := (⟨"com/example/reed/reed/engine/IntegralityIsIntegerPinLaw", "ch", "(I)C"⟩ : MethodName)) hown (mvT hZ (hw _ (List.mem_of_getElem? (i := 12) rfl))) (mvT hZ (hw _ (List.mem_of_getElem? (i := 13) rfl))) (mvT hZ (hw _ (List.mem_of_getElem? (i := 2) rfl))) (mvT hZ (hw _ (List.mem_of_getElem? (i := 14) rfl))) (by decide) (backOf (W := 2) (rm2 l Z a0 hw [] d34 T163.heap n0 (Nat.le_trans Z0 K163.1) d9d34) hZ (hw _ (List.mem_of_getElem? (i := 14) rfl)) (hw _ (List.mem_of_getElem? (i := 2) rfl)) (by decide) (by decide)) (g := (mkF m 197 #[.val (.int p0), .val (.int p1), .val (.int p2), .val (.int p3), .val (.int il1), .val (.int fl3), .val (.int el5), .val (.int es7), .val (.int v10), .val (.int v13), .val (.int v28), .val (.int d19), .val (.int d22), .val (.int d31), .val (.int d34), .val (.int d37), .val (.int d40), .val (.int d43), .val (.ref x123), .val (.ref x127), .unset, .unset, .unset, .unset, .unset, .unset, .unset, .unset, .unset, .unset, .unset, .unset, .unset] [(.int d34), (.int ((48 : Int32) + d31)), (.int (46 : Int32))])) rfl (by rw [hml]; rfl) (argsL := [(.int d34)]) (rest := [(.int ((48 : Int32) + d31)), (.int (46 : Int32))]) (lenOf pd__I_C rfl) rfl (by show 2 * 0 + _ ≤ _; exact Nat.le_of_eq rfl) (hb hby at_197) (fun _ _ => ⟨rfl, rfl, (by decide : 5 + 0 ≤ _), (by decide : 20 + 0 ≤ _)⟩)
      dsimp only [Pt.U, Pt.locs, Pt.cells, Pt.slots] at X164 l164 y164 z164 st164 hQ164
      subst l164 y164 z164
      obtain ⟨rfl, N164q, hq164⟩ := hQ164
      have N164 := Fr.app N163 N164q
      have E164 : Ext T163.heap T164.heap := by rw [hq164]; exact ⟨Nat.le_refl _, fun _ _ q => q⟩
      have K164 := K163.ext E164
      obtain ⟨_, _, ⟨T165, L165, k165, n165⟩, -, X165, ⟨Lc165, hQ165, l165, y165, z165⟩, st165⟩ := Jvm.LawKit.callS X164 hx (y := (⟨"com/example/reed/reed/engine/IntegralityIsIntegerPinLaw", "ch", "(I)C"⟩ : MethodName)) hown (mvT hZ (hw _ (List.mem_of_getElem? (i := 12) rfl))) (mvT hZ (hw _ (List.mem_of_getElem? (i := 13) rfl))) (mvT hZ (hw _ (List.mem_of_getElem? (i := 2) rfl))) (mvT hZ (hw _ (List.mem_of_getElem? (i := 14) rfl))) (by decide) (backOf (W := 3) (rm2 l Z a0 hw [] d37 T164.heap n0 (Nat.le_trans Z0 K164.1) d9d37) hZ (hw _ (List.mem_of_getElem? (i := 14) rfl)) (hw _ (List.mem_of_getElem? (i := 2) rfl)) (by decide) (by decide)) (g := (mkF m 202 #[.val (.int p0), .val (.int p1), .val (.int p2), .val (.int p3), .val (.int il1), .val (.int fl3), .val (.int el5), .val (.int es7), .val (.int v10), .val (.int v13), .val (.int v28), .val (.int d19), .val (.int d22), .val (.int d31), .val (.int d34), .val (.int d37), .val (.int d40), .val (.int d43), .val (.ref x123), .val (.ref x127), .unset, .unset, .unset, .unset, .unset, .unset, .unset, .unset, .unset, .unset, .unset, .unset, .unset] [(.int d37), (.int ((48 : Int32) + d34)), (.int ((48 : Int32) + d31)), (.int (46 : Int32))])) rfl (by rw [hml]; rfl) (argsL := [(.int d37)]) (rest := [(.int ((48 : Int32) + d34)), (.int ((48 : Int32) + d31)), (.int (46 : Int32))]) (lenOf pd__I_C rfl) rfl (by show 2 * 0 + _ ≤ _; exact Nat.le_of_eq rfl) (hb hby at_202) (fun _ _ => ⟨rfl, rfl, (by decide : 5 + 0 ≤ _), (by decide : 20 + 0 ≤ _)⟩)
      dsimp only [Pt.U, Pt.locs, Pt.cells, Pt.slots] at X165 l165 y165 z165 st165 hQ165
      subst l165 y165 z165
      obtain ⟨rfl, N165q, hq165⟩ := hQ165
      have N165 := Fr.app N164 N165q
      have E165 : Ext T164.heap T165.heap := by rw [hq165]; exact ⟨Nat.le_refl _, fun _ _ q => q⟩
      have K165 := K164.ext E165
      have OLD166 : Old Z n0 T165.heap := OLD0.keep K165 all0
      obtain ⟨_, _, ⟨T166, L166, k166, n166⟩, -, X166, ⟨Lc166, hQ166, l166, y166, z166⟩, st166⟩ := Jvm.LawKit.callS X165 hx (y := (⟨"com/example/reed/reed/engine/IntegralityIsIntegerPinLaw", "text", "(CCCCI)Ljava/lang/String;"⟩ : MethodName)) hown (mvT hZ (hw _ (List.mem_of_getElem? (i := 15) rfl))) (mvT hZ (hw _ (List.mem_of_getElem? (i := 16) rfl))) (mvT hZ (hw _ (List.mem_of_getElem? (i := 2) rfl))) (mvT hZ (hw _ (List.mem_of_getElem? (i := 17) rfl))) (by decide) (backOf (W := 0) (rm3 l Z a0 hw [] (46 : Int32) ((48 : Int32) + d31) ((48 : Int32) + d34) ((48 : Int32) + d37) ((1 : Int32) + fl3) G1 T165.heap n0 (Nat.le_trans Z0 K165.1) OLD166 SCS P5 own_l46 (own_c48 d9d31) (own_c48 d9d34) (own_c48 d9d37)) hZ (hw _ (List.mem_of_getElem? (i := 17) rfl)) (hw _ (List.mem_of_getElem? (i := 2) rfl)) (by decide) (by decide)) (g := (mkF m 209 #[.val (.int p0), .val (.int p1), .val (.int p2), .val (.int p3), .val (.int il1), .val (.int fl3), .val (.int el5), .val (.int es7), .val (.int v10), .val (.int v13), .val (.int v28), .val (.int d19), .val (.int d22), .val (.int d31), .val (.int d34), .val (.int d37), .val (.int d40), .val (.int d43), .val (.ref x123), .val (.ref x127), .unset, .unset, .unset, .unset, .unset, .unset, .unset, .unset, .unset, .unset, .unset, .unset, .unset] [(.int ((1 : Int32) + fl3)), (.int ((48 : Int32) + d37)), (.int ((48 : Int32) + d34)), (.int ((48 : Int32) + d31)), (.int (46 : Int32))])) rfl (by rw [hml]; rfl) (argsL := [(.int (46 : Int32)), (.int ((48 : Int32) + d31)), (.int ((48 : Int32) + d34)), (.int ((48 : Int32) + d37)), (.int ((1 : Int32) + fl3))]) (rest := []) (lenOf pd__CCCCI_Ljava_lang_String_ rfl) rfl (by show 2 * 0 + _ ≤ _; exact Nat.le_of_eq rfl) (hb hby at_209) (fun _ _ => ⟨rfl, rfl, (by decide : 5 + 3 ≤ _), (by decide : 20 + 12 ≤ _)⟩)
      dsimp only [Pt.U, Pt.locs, Pt.cells, Pt.slots] at X166 l166 y166 z166 st166 hQ166
      subst l166 y166 z166
      obtain ⟨x166, rfl, N166q, kq166, gg166, u166, xs166⟩ := hQ166
      have N166 := Fr.app N165 N166q
      have K166 := K165.trans kq166 all0
      obtain ⟨v168, hv168⟩ : ∃ z : Int32, z = if es7 = (1 : Int32) then (43 : Int32) else (45 : Int32) := ⟨_, rfl⟩
      have mg169 : ∀ t, Steps p.tables e below (T166.setTop (mkF m 227 #[.val (.int p0), .val (.int p1), .val (.int p2), .val (.int p3), .val (.int il1), .val (.int fl3), .val (.int el5), .val (.int es7), .val (.int v10), .val (.int v13), .val (.int v28), .val (.int d19), .val (.int d22), .val (.int d31), .val (.int d34), .val (.int d37), .val (.int d40), .val (.int d43), .val (.ref x123), .val (.ref x127), .val (.ref x166), .unset, .unset, .unset, .unset, .unset, .unset, .unset, .unset, .unset, .unset, .unset, .unset] [(.int v168)])) t → Steps p.tables e below (T166.setTop (mkF m 217 #[.val (.int p0), .val (.int p1), .val (.int p2), .val (.int p3), .val (.int il1), .val (.int fl3), .val (.int el5), .val (.int es7), .val (.int v10), .val (.int v13), .val (.int v28), .val (.int d19), .val (.int d22), .val (.int d31), .val (.int d34), .val (.int d37), .val (.int d40), .val (.int d43), .val (.ref x123), .val (.ref x127), .val (.ref x166), .unset, .unset, .unset, .unset, .unset, .unset, .unset, .unset, .unset, .unset, .unset, .unset] [(.int (1 : Int32)), (.int es7)])) t := by
        intro t kt
        by_cases hm167 : es7 = (1 : Int32)
        ·
          have ev168 : v168 = (43 : Int32) := by rw [hv168, if_pos hm167]
          rw [ev168] at kt
          refine (fun t (k : Steps p.tables e below (T166.setTop (mkF m 217 #[.val (.int p0), .val (.int p1), .val (.int p2), .val (.int p3), .val (.int il1), .val (.int fl3), .val (.int el5), .val (.int es7), .val (.int v10), .val (.int v13), .val (.int v28), .val (.int d19), .val (.int d22), .val (.int d31), .val (.int d34), .val (.int d37), .val (.int d40), .val (.int d43), .val (.ref x123), .val (.ref x127), .val (.ref x166), .unset, .unset, .unset, .unset, .unset, .unset, .unset, .unset, .unset, .unset, .unset, .unset] [(.int (1 : Int32)), (.int es7)])) t) => k) _ ?_
          refine XS.icmpNo X166.here hx rfl (hb hby at_217) rfl (teq hm167).2 ?_
          refine XS.bipush X166.here hx rfl (hb hby at_220) ?_
          refine XS.goto X166.here hx rfl (pc0 := 222) (pc' := 227) rfl (hb hby at_222) (by decide) (by decide) ?_
          show Steps p.tables e below (T166.setTop (mkF m 227 #[.val (.int p0), .val (.int p1), .val (.int p2), .val (.int p3), .val (.int il1), .val (.int fl3), .val (.int el5), .val (.int es7), .val (.int v10), .val (.int v13), .val (.int v28), .val (.int d19), .val (.int d22), .val (.int d31), .val (.int d34), .val (.int d37), .val (.int d40), .val (.int d43), .val (.ref x123), .val (.ref x127), .val (.ref x166), .unset, .unset, .unset, .unset, .unset, .unset, .unset, .unset, .unset, .unset, .unset, .unset] [(.int (43 : Int32))])) _
          exact kt
        ·
          have ev168 : v168 = (45 : Int32) := by rw [hv168, if_neg hm167]
          rw [ev168] at kt
          refine (fun t (k : Steps p.tables e below (T166.setTop (mkF m 217 #[.val (.int p0), .val (.int p1), .val (.int p2), .val (.int p3), .val (.int il1), .val (.int fl3), .val (.int el5), .val (.int es7), .val (.int v10), .val (.int v13), .val (.int v28), .val (.int d19), .val (.int d22), .val (.int d31), .val (.int d34), .val (.int d37), .val (.int d40), .val (.int d43), .val (.ref x123), .val (.ref x127), .val (.ref x166), .unset, .unset, .unset, .unset, .unset, .unset, .unset, .unset, .unset, .unset, .unset, .unset] [(.int (1 : Int32)), (.int es7)])) t) => k) _ ?_
          refine XS.icmpYes X166.here hx rfl (pc0 := 217) (pc' := 225) rfl (hb hby at_217) rfl (feq hm167).2 (by decide) (by decide) ?_
          refine XS.bipush X166.here hx rfl (hb hby at_225) ?_
          show Steps p.tables e below (T166.setTop (mkF m 227 #[.val (.int p0), .val (.int p1), .val (.int p2), .val (.int p3), .val (.int il1), .val (.int fl3), .val (.int el5), .val (.int es7), .val (.int v10), .val (.int v13), .val (.int v28), .val (.int d19), .val (.int d22), .val (.int d31), .val (.int d34), .val (.int d37), .val (.int d40), .val (.int d43), .val (.ref x123), .val (.ref x127), .val (.ref x166), .unset, .unset, .unset, .unset, .unset, .unset, .unset, .unset, .unset, .unset, .unset, .unset] [(.int (45 : Int32))])) _
          exact kt
      have pre170 : ∀ t, Steps p.tables e below (T166.setTop (mkF m 229 #[.val (.int p0), .val (.int p1), .val (.int p2), .val (.int p3), .val (.int il1), .val (.int fl3), .val (.int el5), .val (.int es7), .val (.int v10), .val (.int v13), .val (.int v28), .val (.int d19), .val (.int d22), .val (.int d31), .val (.int d34), .val (.int d37), .val (.int d40), .val (.int d43), .val (.ref x123), .val (.ref x127), .val (.ref x166), .val (.int v168), .unset, .unset, .unset, .unset, .unset, .unset, .unset, .unset, .unset, .unset, .unset] [])) t → Steps p.tables e below (s₁.setTop (entryFrame m #[(.int p0), (.int p1), (.int p2), (.int p3)] maxLocals)) t := by
        intro t kt
        refine pre128 _ ?_
        show Steps p.tables e below (T127.setTop (mkF m 180 #[.val (.int p0), .val (.int p1), .val (.int p2), .val (.int p3), .val (.int il1), .val (.int fl3), .val (.int el5), .val (.int es7), .val (.int v10), .val (.int v13), .val (.int v28), .val (.int d19), .val (.int d22), .val (.int d31), .val (.int d34), .val (.int d37), .val (.int d40), .val (.int d43), .val (.ref x123), .val (.ref x127), .unset, .unset, .unset, .unset, .unset, .unset, .unset, .unset, .unset, .unset, .unset, .unset, .unset] [(.int fl3)])) _
        refine XS.ifYes X127.here hx rfl (pc0 := 180) (pc' := 188) rfl (hb hby at_180) rfl ((if0 _ _).trans (feq hc180).2) (by decide) (by decide) ?_
        refine XS.bipush X127.here hx rfl (hb hby at_188) ?_
        refine XS.iload X127.here hx rfl (hb hby at_190) rfl ?_
        show Steps p.tables e below (T127.setTop (mkF m 192 #[.val (.int p0), .val (.int p1), .val (.int p2), .val (.int p3), .val (.int il1), .val (.int fl3), .val (.int el5), .val (.int es7), .val (.int v10), .val (.int v13), .val (.int v28), .val (.int d19), .val (.int d22), .val (.int d31), .val (.int d34), .val (.int d37), .val (.int d40), .val (.int d43), .val (.ref x123), .val (.ref x127), .unset, .unset, .unset, .unset, .unset, .unset, .unset, .unset, .unset, .unset, .unset, .unset, .unset] [(.int d31), (.int (46 : Int32))])) _
        refine st163 _ ?_
        show Steps p.tables e below (T163.setTop (mkF m 195 #[.val (.int p0), .val (.int p1), .val (.int p2), .val (.int p3), .val (.int il1), .val (.int fl3), .val (.int el5), .val (.int es7), .val (.int v10), .val (.int v13), .val (.int v28), .val (.int d19), .val (.int d22), .val (.int d31), .val (.int d34), .val (.int d37), .val (.int d40), .val (.int d43), .val (.ref x123), .val (.ref x127), .unset, .unset, .unset, .unset, .unset, .unset, .unset, .unset, .unset, .unset, .unset, .unset, .unset] [(.int ((48 : Int32) + d31)), (.int (46 : Int32))])) _
        refine XS.iload X163.here hx rfl (hb hby at_195) rfl ?_
        show Steps p.tables e below (T163.setTop (mkF m 197 #[.val (.int p0), .val (.int p1), .val (.int p2), .val (.int p3), .val (.int il1), .val (.int fl3), .val (.int el5), .val (.int es7), .val (.int v10), .val (.int v13), .val (.int v28), .val (.int d19), .val (.int d22), .val (.int d31), .val (.int d34), .val (.int d37), .val (.int d40), .val (.int d43), .val (.ref x123), .val (.ref x127), .unset, .unset, .unset, .unset, .unset, .unset, .unset, .unset, .unset, .unset, .unset, .unset, .unset] [(.int d34), (.int ((48 : Int32) + d31)), (.int (46 : Int32))])) _
        refine st164 _ ?_
        show Steps p.tables e below (T164.setTop (mkF m 200 #[.val (.int p0), .val (.int p1), .val (.int p2), .val (.int p3), .val (.int il1), .val (.int fl3), .val (.int el5), .val (.int es7), .val (.int v10), .val (.int v13), .val (.int v28), .val (.int d19), .val (.int d22), .val (.int d31), .val (.int d34), .val (.int d37), .val (.int d40), .val (.int d43), .val (.ref x123), .val (.ref x127), .unset, .unset, .unset, .unset, .unset, .unset, .unset, .unset, .unset, .unset, .unset, .unset, .unset] [(.int ((48 : Int32) + d34)), (.int ((48 : Int32) + d31)), (.int (46 : Int32))])) _
        refine XS.iload X164.here hx rfl (hb hby at_200) rfl ?_
        show Steps p.tables e below (T164.setTop (mkF m 202 #[.val (.int p0), .val (.int p1), .val (.int p2), .val (.int p3), .val (.int il1), .val (.int fl3), .val (.int el5), .val (.int es7), .val (.int v10), .val (.int v13), .val (.int v28), .val (.int d19), .val (.int d22), .val (.int d31), .val (.int d34), .val (.int d37), .val (.int d40), .val (.int d43), .val (.ref x123), .val (.ref x127), .unset, .unset, .unset, .unset, .unset, .unset, .unset, .unset, .unset, .unset, .unset, .unset, .unset] [(.int d37), (.int ((48 : Int32) + d34)), (.int ((48 : Int32) + d31)), (.int (46 : Int32))])) _
        refine st165 _ ?_
        show Steps p.tables e below (T165.setTop (mkF m 205 #[.val (.int p0), .val (.int p1), .val (.int p2), .val (.int p3), .val (.int il1), .val (.int fl3), .val (.int el5), .val (.int es7), .val (.int v10), .val (.int v13), .val (.int v28), .val (.int d19), .val (.int d22), .val (.int d31), .val (.int d34), .val (.int d37), .val (.int d40), .val (.int d43), .val (.ref x123), .val (.ref x127), .unset, .unset, .unset, .unset, .unset, .unset, .unset, .unset, .unset, .unset, .unset, .unset, .unset] [(.int ((48 : Int32) + d37)), (.int ((48 : Int32) + d34)), (.int ((48 : Int32) + d31)), (.int (46 : Int32))])) _
        refine XS.iconst X165.here hx rfl (hb hby at_205) ?_
        refine XS.iload X165.here hx rfl (hb hby at_206) rfl ?_
        refine XS.iadd X165.here hx rfl (hb hby at_208) rfl ?_
        show Steps p.tables e below (T165.setTop (mkF m 209 #[.val (.int p0), .val (.int p1), .val (.int p2), .val (.int p3), .val (.int il1), .val (.int fl3), .val (.int el5), .val (.int es7), .val (.int v10), .val (.int v13), .val (.int v28), .val (.int d19), .val (.int d22), .val (.int d31), .val (.int d34), .val (.int d37), .val (.int d40), .val (.int d43), .val (.ref x123), .val (.ref x127), .unset, .unset, .unset, .unset, .unset, .unset, .unset, .unset, .unset, .unset, .unset, .unset, .unset] [(.int ((1 : Int32) + fl3)), (.int ((48 : Int32) + d37)), (.int ((48 : Int32) + d34)), (.int ((48 : Int32) + d31)), (.int (46 : Int32))])) _
        refine st166 _ ?_
        show Steps p.tables e below (T166.setTop (mkF m 212 #[.val (.int p0), .val (.int p1), .val (.int p2), .val (.int p3), .val (.int il1), .val (.int fl3), .val (.int el5), .val (.int es7), .val (.int v10), .val (.int v13), .val (.int v28), .val (.int d19), .val (.int d22), .val (.int d31), .val (.int d34), .val (.int d37), .val (.int d40), .val (.int d43), .val (.ref x123), .val (.ref x127), .unset, .unset, .unset, .unset, .unset, .unset, .unset, .unset, .unset, .unset, .unset, .unset, .unset] [(.ref x166)])) _
        refine XS.astore X166.here hx rfl (hb hby at_212) rfl rfl (l' := #[.val (.int p0), .val (.int p1), .val (.int p2), .val (.int p3), .val (.int il1), .val (.int fl3), .val (.int el5), .val (.int es7), .val (.int v10), .val (.int v13), .val (.int v28), .val (.int d19), .val (.int d22), .val (.int d31), .val (.int d34), .val (.int d37), .val (.int d40), .val (.int d43), .val (.ref x123), .val (.ref x127), .val (.ref x166), .unset, .unset, .unset, .unset, .unset, .unset, .unset, .unset, .unset, .unset, .unset, .unset]) rfl ?_
        refine XS.iload X166.here hx rfl (hb hby at_214) rfl ?_
        refine XS.iconst X166.here hx rfl (hb hby at_216) ?_
        show Steps p.tables e below (T166.setTop (mkF m 217 #[.val (.int p0), .val (.int p1), .val (.int p2), .val (.int p3), .val (.int il1), .val (.int fl3), .val (.int el5), .val (.int es7), .val (.int v10), .val (.int v13), .val (.int v28), .val (.int d19), .val (.int d22), .val (.int d31), .val (.int d34), .val (.int d37), .val (.int d40), .val (.int d43), .val (.ref x123), .val (.ref x127), .val (.ref x166), .unset, .unset, .unset, .unset, .unset, .unset, .unset, .unset, .unset, .unset, .unset, .unset] [(.int (1 : Int32)), (.int es7)])) _
        refine mg169 _ ?_
        show Steps p.tables e below (T166.setTop (mkF m 227 #[.val (.int p0), .val (.int p1), .val (.int p2), .val (.int p3), .val (.int il1), .val (.int fl3), .val (.int el5), .val (.int es7), .val (.int v10), .val (.int v13), .val (.int v28), .val (.int d19), .val (.int d22), .val (.int d31), .val (.int d34), .val (.int d37), .val (.int d40), .val (.int d43), .val (.ref x123), .val (.ref x127), .val (.ref x166), .unset, .unset, .unset, .unset, .unset, .unset, .unset, .unset, .unset, .unset, .unset, .unset] [(.int v168)])) _
        refine XS.istore X166.here hx rfl (hb hby at_227) rfl (l' := #[.val (.int p0), .val (.int p1), .val (.int p2), .val (.int p3), .val (.int il1), .val (.int fl3), .val (.int el5), .val (.int es7), .val (.int v10), .val (.int v13), .val (.int v28), .val (.int d19), .val (.int d22), .val (.int d31), .val (.int d34), .val (.int d37), .val (.int d40), .val (.int d43), .val (.ref x123), .val (.ref x127), .val (.ref x166), .val (.int v168), .unset, .unset, .unset, .unset, .unset, .unset, .unset, .unset, .unset, .unset, .unset]) rfl ?_
        show Steps p.tables e below (T166.setTop (mkF m 229 #[.val (.int p0), .val (.int p1), .val (.int p2), .val (.int p3), .val (.int il1), .val (.int fl3), .val (.int el5), .val (.int es7), .val (.int v10), .val (.int v13), .val (.int v28), .val (.int d19), .val (.int d22), .val (.int d31), .val (.int d34), .val (.int d37), .val (.int d40), .val (.int d43), .val (.ref x123), .val (.ref x127), .val (.ref x166), .val (.int v168), .unset, .unset, .unset, .unset, .unset, .unset, .unset, .unset, .unset, .unset, .unset] [])) _
        exact kt
      have ksc : own_c255 v168 := by rw [hv168]; split <;> exact ⟨by decide, by decide⟩
      have pre171 : ∀ t, Steps p.tables e below (T166.setTop (mkF m 231 #[.val (.int p0), .val (.int p1), .val (.int p2), .val (.int p3), .val (.int il1), .val (.int fl3), .val (.int el5), .val (.int es7), .val (.int v10), .val (.int v13), .val (.int v28), .val (.int d19), .val (.int d22), .val (.int d31), .val (.int d34), .val (.int d37), .val (.int d40), .val (.int d43), .val (.ref x123), .val (.ref x127), .val (.ref x166), .val (.int v168), .unset, .unset, .unset, .unset, .unset, .unset, .unset, .unset, .unset, .unset, .unset] [(.int el5)])) t → Steps p.tables e below (s₁.setTop (entryFrame m #[(.int p0), (.int p1), (.int p2), (.int p3)] maxLocals)) t := by
        intro t kt
        refine pre170 _ ?_
        show Steps p.tables e below (T166.setTop (mkF m 229 #[.val (.int p0), .val (.int p1), .val (.int p2), .val (.int p3), .val (.int il1), .val (.int fl3), .val (.int el5), .val (.int es7), .val (.int v10), .val (.int v13), .val (.int v28), .val (.int d19), .val (.int d22), .val (.int d31), .val (.int d34), .val (.int d37), .val (.int d40), .val (.int d43), .val (.ref x123), .val (.ref x127), .val (.ref x166), .val (.int v168), .unset, .unset, .unset, .unset, .unset, .unset, .unset, .unset, .unset, .unset, .unset] [])) _
        refine XS.iload X166.here hx rfl (hb hby at_229) rfl ?_
        show Steps p.tables e below (T166.setTop (mkF m 231 #[.val (.int p0), .val (.int p1), .val (.int p2), .val (.int p3), .val (.int il1), .val (.int fl3), .val (.int el5), .val (.int es7), .val (.int v10), .val (.int v13), .val (.int v28), .val (.int d19), .val (.int d22), .val (.int d31), .val (.int d34), .val (.int d37), .val (.int d40), .val (.int d43), .val (.ref x123), .val (.ref x127), .val (.ref x166), .val (.int v168), .unset, .unset, .unset, .unset, .unset, .unset, .unset, .unset, .unset, .unset, .unset] [(.int el5)])) _
        exact kt
      by_cases hc231 : el5 = (0 : Int32)
      ·
        have pre173 : ∀ t, Steps p.tables e below (T166.setTop (mkF m 234 #[.val (.int p0), .val (.int p1), .val (.int p2), .val (.int p3), .val (.int il1), .val (.int fl3), .val (.int el5), .val (.int es7), .val (.int v10), .val (.int v13), .val (.int v28), .val (.int d19), .val (.int d22), .val (.int d31), .val (.int d34), .val (.int d37), .val (.int d40), .val (.int d43), .val (.ref x123), .val (.ref x127), .val (.ref x166), .val (.int v168), .unset, .unset, .unset, .unset, .unset, .unset, .unset, .unset, .unset, .unset, .unset] [])) t → Steps p.tables e below (s₁.setTop (entryFrame m #[(.int p0), (.int p1), (.int p2), (.int p3)] maxLocals)) t := by
          intro t kt
          refine pre171 _ ?_
          show Steps p.tables e below (T166.setTop (mkF m 231 #[.val (.int p0), .val (.int p1), .val (.int p2), .val (.int p3), .val (.int il1), .val (.int fl3), .val (.int el5), .val (.int es7), .val (.int v10), .val (.int v13), .val (.int v28), .val (.int d19), .val (.int d22), .val (.int d31), .val (.int d34), .val (.int d37), .val (.int d40), .val (.int d43), .val (.ref x123), .val (.ref x127), .val (.ref x166), .val (.int v168), .unset, .unset, .unset, .unset, .unset, .unset, .unset, .unset, .unset, .unset, .unset] [(.int el5)])) _
          refine XS.ifNo X166.here hx rfl (hb hby at_231) rfl ((if0 _ _).trans (teq hc231).2) ?_
          show Steps p.tables e below (T166.setTop (mkF m 234 #[.val (.int p0), .val (.int p1), .val (.int p2), .val (.int p3), .val (.int il1), .val (.int fl3), .val (.int el5), .val (.int es7), .val (.int v10), .val (.int v13), .val (.int v28), .val (.int d19), .val (.int d22), .val (.int d31), .val (.int d34), .val (.int d37), .val (.int d40), .val (.int d43), .val (.ref x123), .val (.ref x127), .val (.ref x166), .val (.int v168), .unset, .unset, .unset, .unset, .unset, .unset, .unset, .unset, .unset, .unset, .unset] [])) _
          exact kt
        obtain ⟨x174, T174, h174, k174, b174, kb174, X174, e174, E174, hS174, hk174, hZ, hown, xe174, xc174, xv174, xa174, -, -, I174, lt174, st174⟩ := ldcSVL (s := s) (vm0 := T123.vm) X166 hx hZ hown (hw _ (List.mem_of_getElem? (i := 4) rfl)) wS rfl hS123 (Nat.le_trans (Nat.le_trans (Nat.le_trans (Nat.le_trans (Nat.le_trans (Nat.le_trans (Nat.le_trans (Nat.le_trans hk123 E124.1) E125.1) E126.1) kq127.1) E163.1) E164.1) E165.1) kq166.1) (by rw [hn0]; exact N166) hkp I123 (by decide) HC15 HCW (vs := []) (z := (0 : Int32)) own_ht0 (by decide) (by decide) (g := (mkF m 234 #[.val (.int p0), .val (.int p1), .val (.int p2), .val (.int p3), .val (.int il1), .val (.int fl3), .val (.int el5), .val (.int es7), .val (.int v10), .val (.int v13), .val (.int v28), .val (.int d19), .val (.int d22), .val (.int d31), .val (.int d34), .val (.int d37), .val (.int d40), .val (.int d43), .val (.ref x123), .val (.ref x127), .val (.ref x166), .val (.int v168), .unset, .unset, .unset, .unset, .unset, .unset, .unset, .unset, .unset, .unset, .unset] [])) rfl (hb hby at_234) (n := 0) own_hn0 (by decide) (by decide) (by decide)
        have xs174 : own_str Z h174 x174 [] := ⟨b174, kb174, xe174, xc174, xv174, xa174⟩
        have K174 := K166.ext E174
        have hk175 : el5 = (0 : Int32) := hc231
        have pre176 : ∀ t, Steps p.tables e below (T174.setTop (mkF m 277 #[.val (.int p0), .val (.int p1), .val (.int p2), .val (.int p3), .val (.int il1), .val (.int fl3), .val (.int el5), .val (.int es7), .val (.int v10), .val (.int v13), .val (.int v28), .val (.int d19), .val (.int d22), .val (.int d31), .val (.int d34), .val (.int d37), .val (.int d40), .val (.int d43), .val (.ref x123), .val (.ref x127), .val (.ref x166), .val (.int v168), .val (.ref x174), .unset, .unset, .unset, .unset, .unset, .unset, .unset, .unset, .unset, .unset] [])) t → Steps p.tables e below (s₁.setTop (entryFrame m #[(.int p0), (.int p1), (.int p2), (.int p3)] maxLocals)) t := by
          intro t kt
          refine pre173 _ ?_
          show Steps p.tables e below (T166.setTop (mkF m 234 #[.val (.int p0), .val (.int p1), .val (.int p2), .val (.int p3), .val (.int il1), .val (.int fl3), .val (.int el5), .val (.int es7), .val (.int v10), .val (.int v13), .val (.int v28), .val (.int d19), .val (.int d22), .val (.int d31), .val (.int d34), .val (.int d37), .val (.int d40), .val (.int d43), .val (.ref x123), .val (.ref x127), .val (.ref x166), .val (.int v168), .unset, .unset, .unset, .unset, .unset, .unset, .unset, .unset, .unset, .unset, .unset] [])) _
          refine st174 _ ?_
          show Steps p.tables e below (T174.setTop (mkF m 236 #[.val (.int p0), .val (.int p1), .val (.int p2), .val (.int p3), .val (.int il1), .val (.int fl3), .val (.int el5), .val (.int es7), .val (.int v10), .val (.int v13), .val (.int v28), .val (.int d19), .val (.int d22), .val (.int d31), .val (.int d34), .val (.int d37), .val (.int d40), .val (.int d43), .val (.ref x123), .val (.ref x127), .val (.ref x166), .val (.int v168), .unset, .unset, .unset, .unset, .unset, .unset, .unset, .unset, .unset, .unset, .unset] [(.ref x174)])) _
          refine XS.goto X174.here hx rfl (pc0 := 236) (pc' := 270) rfl (hb hby at_236) (by decide) (by decide) ?_
          refine XS.astore X174.here hx rfl (hb hby at_270) rfl rfl (l' := #[.val (.int p0), .val (.int p1), .val (.int p2), .val (.int p3), .val (.int il1), .val (.int fl3), .val (.int el5), .val (.int es7), .val (.int v10), .val (.int v13), .val (.int v28), .val (.int d19), .val (.int d22), .val (.int d31), .val (.int d34), .val (.int d37), .val (.int d40), .val (.int d43), .val (.ref x123), .val (.ref x127), .val (.ref x166), .val (.int v168), .val (.ref x174), .unset, .unset, .unset, .unset, .unset, .unset, .unset, .unset, .unset, .unset]) rfl ?_
          refine XS.iload X174.here hx rfl (hb hby at_272) rfl ?_
          show Steps p.tables e below (T174.setTop (mkF m 274 #[.val (.int p0), .val (.int p1), .val (.int p2), .val (.int p3), .val (.int il1), .val (.int fl3), .val (.int el5), .val (.int es7), .val (.int v10), .val (.int v13), .val (.int v28), .val (.int d19), .val (.int d22), .val (.int d31), .val (.int d34), .val (.int d37), .val (.int d40), .val (.int d43), .val (.ref x123), .val (.ref x127), .val (.ref x166), .val (.int v168), .val (.ref x174), .unset, .unset, .unset, .unset, .unset, .unset, .unset, .unset, .unset, .unset] [(.int el5)])) _
          refine XS.ifNo X174.here hx rfl (hb hby at_274) rfl ((if0 _ _).trans (teq hk175).2) ?_
          show Steps p.tables e below (T174.setTop (mkF m 277 #[.val (.int p0), .val (.int p1), .val (.int p2), .val (.int p3), .val (.int il1), .val (.int fl3), .val (.int el5), .val (.int es7), .val (.int v10), .val (.int v13), .val (.int v28), .val (.int d19), .val (.int d22), .val (.int d31), .val (.int d34), .val (.int d37), .val (.int d40), .val (.int d43), .val (.ref x123), .val (.ref x127), .val (.ref x166), .val (.int v168), .val (.ref x174), .unset, .unset, .unset, .unset, .unset, .unset, .unset, .unset, .unset, .unset] [])) _
          exact kt
        have c178 := (own_strE (own_strP (own_strE (own_strE (own_strE (own_strP (own_strE (own_strE (own_strE xs123 E124) E125) E126) kq127) E163) E164) E165) kq166) E174)
        have c179 := (own_strE (own_strP (own_strE (own_strE (own_strE xs127 E163) E164) E165) kq166) E174)
        have c180 := (own_strE xs166 E174)
        have pre181 : ∀ t, Steps p.tables e below (T174.setTop (mkF m 303 #[.val (.int p0), .val (.int p1), .val (.int p2), .val (.int p3), .val (.int il1), .val (.int fl3), .val (.int el5), .val (.int es7), .val (.int v10), .val (.int v13), .val (.int v28), .val (.int d19), .val (.int d22), .val (.int d31), .val (.int d34), .val (.int d37), .val (.int d40), .val (.int d43), .val (.ref x123), .val (.ref x127), .val (.ref x166), .val (.int v168), .val (.ref x174), .val (.ref x174), .unset, .unset, .unset, .unset, .unset, .unset, .unset, .unset, .unset] [])) t → Steps p.tables e below (s₁.setTop (entryFrame m #[(.int p0), (.int p1), (.int p2), (.int p3)] maxLocals)) t := by
          intro t kt
          refine pre176 _ ?_
          show Steps p.tables e below (T174.setTop (mkF m 277 #[.val (.int p0), .val (.int p1), .val (.int p2), .val (.int p3), .val (.int il1), .val (.int fl3), .val (.int el5), .val (.int es7), .val (.int v10), .val (.int v13), .val (.int v28), .val (.int d19), .val (.int d22), .val (.int d31), .val (.int d34), .val (.int d37), .val (.int d40), .val (.int d43), .val (.ref x123), .val (.ref x127), .val (.ref x166), .val (.int v168), .val (.ref x174), .unset, .unset, .unset, .unset, .unset, .unset, .unset, .unset, .unset, .unset] [])) _
          refine ldcAgain X174 hx hZ hown (hw _ (List.mem_of_getElem? (i := 4) rfl)) lt174 (g := (mkF m 277 #[.val (.int p0), .val (.int p1), .val (.int p2), .val (.int p3), .val (.int il1), .val (.int fl3), .val (.int el5), .val (.int es7), .val (.int v10), .val (.int v13), .val (.int v28), .val (.int d19), .val (.int d22), .val (.int d31), .val (.int d34), .val (.int d37), .val (.int d40), .val (.int d43), .val (.ref x123), .val (.ref x127), .val (.ref x166), .val (.int v168), .val (.ref x174), .unset, .unset, .unset, .unset, .unset, .unset, .unset, .unset, .unset, .unset] [])) rfl (hb hby at_277) _ ?_
          show Steps p.tables e below (T174.setTop (mkF m 279 #[.val (.int p0), .val (.int p1), .val (.int p2), .val (.int p3), .val (.int il1), .val (.int fl3), .val (.int el5), .val (.int es7), .val (.int v10), .val (.int v13), .val (.int v28), .val (.int d19), .val (.int d22), .val (.int d31), .val (.int d34), .val (.int d37), .val (.int d40), .val (.int d43), .val (.ref x123), .val (.ref x127), .val (.ref x166), .val (.int v168), .val (.ref x174), .unset, .unset, .unset, .unset, .unset, .unset, .unset, .unset, .unset, .unset] [(.ref x174)])) _
          refine XS.goto X174.here hx rfl (pc0 := 279) (pc' := 301) rfl (hb hby at_279) (by decide) (by decide) ?_
          refine XS.astore X174.here hx rfl (hb hby at_301) rfl rfl (l' := #[.val (.int p0), .val (.int p1), .val (.int p2), .val (.int p3), .val (.int il1), .val (.int fl3), .val (.int el5), .val (.int es7), .val (.int v10), .val (.int v13), .val (.int v28), .val (.int d19), .val (.int d22), .val (.int d31), .val (.int d34), .val (.int d37), .val (.int d40), .val (.int d43), .val (.ref x123), .val (.ref x127), .val (.ref x166), .val (.int v168), .val (.ref x174), .val (.ref x174), .unset, .unset, .unset, .unset, .unset, .unset, .unset, .unset, .unset]) rfl ?_
          show Steps p.tables e below (T174.setTop (mkF m 303 #[.val (.int p0), .val (.int p1), .val (.int p2), .val (.int p3), .val (.int il1), .val (.int fl3), .val (.int el5), .val (.int es7), .val (.int v10), .val (.int v13), .val (.int v28), .val (.int d19), .val (.int d22), .val (.int d31), .val (.int d34), .val (.int d37), .val (.int d40), .val (.int d43), .val (.ref x123), .val (.ref x127), .val (.ref x166), .val (.int v168), .val (.ref x174), .val (.ref x174), .unset, .unset, .unset, .unset, .unset, .unset, .unset, .unset, .unset] [])) _
          exact kt
        have HL := own_main kil kfl kel kes d9v28 d9d19 d9d22 d9d31 d9d34 d9d37 d9d40 d9d43 (up := (69 : Int32)) (sc := v168) (Or.inl rfl) hv168 (cs1 := [45]) (cs3 := (own_take ((1 : Int32) + fl3) (46 : Int32) ((48 : Int32) + d31) ((48 : Int32) + d34) ((48 : Int32) + d37))) (cs4 := []) (cs5 := []) (Or.inr rfl) (by rw [if_neg hc180]) (by rw [if_pos hc231]) (by rw [if_pos hc231])
        have OLDz : Old Z n0 h174 := OLD0.keep K174 all0
        obtain ⟨Lh, Xh, Nh⟩ := own_hide X174 N166 (C := 30) (S := 2000) (Nat.le_of_ble_eq_true rfl) (Nat.le_of_ble_eq_true rfl)
        obtain ⟨T2, Ls, L2, X2, N2, hz2, st2⟩ := own_tail Xh hx hZ hw hby hml hown e174 Nh (Nat.le_trans Z0 K174.1) OLDz SCS P5 SSI rfm c178 c179 c180 xs174 xs174 own_lm45 (own_takeC (own_c48 d9v28) (own_c48 d9d19) (own_c48 d9d22) own_l48) (own_takeC own_l46 (own_c48 d9d31) (own_c48 d9d34) (own_c48 d9d37)) own_lm0 own_lm0 (by decide) (own_takeL _ _ _ _ _) (own_takeL _ _ _ _ _) (by decide) (by decide) HL (p0 := p0) (p1 := p1) (p2 := p2) (p3 := p3) (up := v10) (ng := v13) (sc := v168)
        obtain ⟨fs, hr, hrun, hended, hW⟩ := X2.leaveW hS174 (Nat.le_trans hk174 hz2) (v := some (.int (1 : Int32))) (fun h => by rw [Bd.returns] at h; cases h)
        exact ⟨_, _, pre181 _ (st2 _ (retN X2 hx (t := .boolean) Bd.returns (by simp) (hb hby at_564) hr)), hrun, hended, _, _, rfl, ⟨rfl, N2⟩, hW⟩
      ·
        obtain ⟨v183, hv183⟩ : ∃ z : Int32, z = if v10 = (0 : Int32) then (101 : Int32) else (69 : Int32) := ⟨_, rfl⟩
        have mg184 : ∀ t, Steps p.tables e below (T166.setTop (mkF m 251 #[.val (.int p0), .val (.int p1), .val (.int p2), .val (.int p3), .val (.int il1), .val (.int fl3), .val (.int el5), .val (.int es7), .val (.int v10), .val (.int v13), .val (.int v28), .val (.int d19), .val (.int d22), .val (.int d31), .val (.int d34), .val (.int d37), .val (.int d40), .val (.int d43), .val (.ref x123), .val (.ref x127), .val (.ref x166), .val (.int v168), .unset, .unset, .unset, .unset, .unset, .unset, .unset, .unset, .unset, .unset, .unset] [(.int v183)])) t → Steps p.tables e below (T166.setTop (mkF m 241 #[.val (.int p0), .val (.int p1), .val (.int p2), .val (.int p3), .val (.int il1), .val (.int fl3), .val (.int el5), .val (.int es7), .val (.int v10), .val (.int v13), .val (.int v28), .val (.int d19), .val (.int d22), .val (.int d31), .val (.int d34), .val (.int d37), .val (.int d40), .val (.int d43), .val (.ref x123), .val (.ref x127), .val (.ref x166), .val (.int v168), .unset, .unset, .unset, .unset, .unset, .unset, .unset, .unset, .unset, .unset, .unset] [(.int v10)])) t := by
          intro t kt
          by_cases hm182 : v10 = (0 : Int32)
          ·
            have ev183 : v183 = (101 : Int32) := by rw [hv183, if_pos hm182]
            rw [ev183] at kt
            refine (fun t (k : Steps p.tables e below (T166.setTop (mkF m 241 #[.val (.int p0), .val (.int p1), .val (.int p2), .val (.int p3), .val (.int il1), .val (.int fl3), .val (.int el5), .val (.int es7), .val (.int v10), .val (.int v13), .val (.int v28), .val (.int d19), .val (.int d22), .val (.int d31), .val (.int d34), .val (.int d37), .val (.int d40), .val (.int d43), .val (.ref x123), .val (.ref x127), .val (.ref x166), .val (.int v168), .unset, .unset, .unset, .unset, .unset, .unset, .unset, .unset, .unset, .unset, .unset] [(.int v10)])) t) => k) _ ?_
            refine XS.ifYes X166.here hx rfl (pc0 := 241) (pc' := 249) rfl (hb hby at_241) rfl ((if0 _ _).trans (teq hm182).1) (by decide) (by decide) ?_
            refine XS.bipush X166.here hx rfl (hb hby at_249) ?_
            show Steps p.tables e below (T166.setTop (mkF m 251 #[.val (.int p0), .val (.int p1), .val (.int p2), .val (.int p3), .val (.int il1), .val (.int fl3), .val (.int el5), .val (.int es7), .val (.int v10), .val (.int v13), .val (.int v28), .val (.int d19), .val (.int d22), .val (.int d31), .val (.int d34), .val (.int d37), .val (.int d40), .val (.int d43), .val (.ref x123), .val (.ref x127), .val (.ref x166), .val (.int v168), .unset, .unset, .unset, .unset, .unset, .unset, .unset, .unset, .unset, .unset, .unset] [(.int (101 : Int32))])) _
            exact kt
          ·
            have ev183 : v183 = (69 : Int32) := by rw [hv183, if_neg hm182]
            rw [ev183] at kt
            refine (fun t (k : Steps p.tables e below (T166.setTop (mkF m 241 #[.val (.int p0), .val (.int p1), .val (.int p2), .val (.int p3), .val (.int il1), .val (.int fl3), .val (.int el5), .val (.int es7), .val (.int v10), .val (.int v13), .val (.int v28), .val (.int d19), .val (.int d22), .val (.int d31), .val (.int d34), .val (.int d37), .val (.int d40), .val (.int d43), .val (.ref x123), .val (.ref x127), .val (.ref x166), .val (.int v168), .unset, .unset, .unset, .unset, .unset, .unset, .unset, .unset, .unset, .unset, .unset] [(.int v10)])) t) => k) _ ?_
            refine XS.ifNo X166.here hx rfl (hb hby at_241) rfl ((if0 _ _).trans (feq hm182).1) ?_
            refine XS.bipush X166.here hx rfl (hb hby at_244) ?_
            refine XS.goto X166.here hx rfl (pc0 := 246) (pc' := 251) rfl (hb hby at_246) (by decide) (by decide) ?_
            show Steps p.tables e below (T166.setTop (mkF m 251 #[.val (.int p0), .val (.int p1), .val (.int p2), .val (.int p3), .val (.int il1), .val (.int fl3), .val (.int el5), .val (.int es7), .val (.int v10), .val (.int v13), .val (.int v28), .val (.int d19), .val (.int d22), .val (.int d31), .val (.int d34), .val (.int d37), .val (.int d40), .val (.int d43), .val (.ref x123), .val (.ref x127), .val (.ref x166), .val (.int v168), .unset, .unset, .unset, .unset, .unset, .unset, .unset, .unset, .unset, .unset, .unset] [(.int (69 : Int32))])) _
            exact kt
        have pre185 : ∀ t, Steps p.tables e below (T166.setTop (mkF m 251 #[.val (.int p0), .val (.int p1), .val (.int p2), .val (.int p3), .val (.int il1), .val (.int fl3), .val (.int el5), .val (.int es7), .val (.int v10), .val (.int v13), .val (.int v28), .val (.int d19), .val (.int d22), .val (.int d31), .val (.int d34), .val (.int d37), .val (.int d40), .val (.int d43), .val (.ref x123), .val (.ref x127), .val (.ref x166), .val (.int v168), .unset, .unset, .unset, .unset, .unset, .unset, .unset, .unset, .unset, .unset, .unset] [(.int v183)])) t → Steps p.tables e below (s₁.setTop (entryFrame m #[(.int p0), (.int p1), (.int p2), (.int p3)] maxLocals)) t := by
          intro t kt
          refine pre171 _ ?_
          show Steps p.tables e below (T166.setTop (mkF m 231 #[.val (.int p0), .val (.int p1), .val (.int p2), .val (.int p3), .val (.int il1), .val (.int fl3), .val (.int el5), .val (.int es7), .val (.int v10), .val (.int v13), .val (.int v28), .val (.int d19), .val (.int d22), .val (.int d31), .val (.int d34), .val (.int d37), .val (.int d40), .val (.int d43), .val (.ref x123), .val (.ref x127), .val (.ref x166), .val (.int v168), .unset, .unset, .unset, .unset, .unset, .unset, .unset, .unset, .unset, .unset, .unset] [(.int el5)])) _
          refine XS.ifYes X166.here hx rfl (pc0 := 231) (pc' := 239) rfl (hb hby at_231) rfl ((if0 _ _).trans (feq hc231).2) (by decide) (by decide) ?_
          refine XS.iload X166.here hx rfl (hb hby at_239) rfl ?_
          show Steps p.tables e below (T166.setTop (mkF m 241 #[.val (.int p0), .val (.int p1), .val (.int p2), .val (.int p3), .val (.int il1), .val (.int fl3), .val (.int el5), .val (.int es7), .val (.int v10), .val (.int v13), .val (.int v28), .val (.int d19), .val (.int d22), .val (.int d31), .val (.int d34), .val (.int d37), .val (.int d40), .val (.int d43), .val (.ref x123), .val (.ref x127), .val (.ref x166), .val (.int v168), .unset, .unset, .unset, .unset, .unset, .unset, .unset, .unset, .unset, .unset, .unset] [(.int v10)])) _
          refine mg184 _ ?_
          show Steps p.tables e below (T166.setTop (mkF m 251 #[.val (.int p0), .val (.int p1), .val (.int p2), .val (.int p3), .val (.int il1), .val (.int fl3), .val (.int el5), .val (.int es7), .val (.int v10), .val (.int v13), .val (.int v28), .val (.int d19), .val (.int d22), .val (.int d31), .val (.int d34), .val (.int d37), .val (.int d40), .val (.int d43), .val (.ref x123), .val (.ref x127), .val (.ref x166), .val (.int v168), .unset, .unset, .unset, .unset, .unset, .unset, .unset, .unset, .unset, .unset, .unset] [(.int v183)])) _
          exact kt
        have kup : v183 = (69 : Int32) ∨ v183 = (101 : Int32) := by rw [hv183]; split <;> simp
        have kuc : own_c255 v183 := by rcases kup with q | q <;> rw [q] <;> exact ⟨by decide, by decide⟩
        obtain ⟨v187, hv187⟩ : ∃ z : Int32, z = if es7 = (0 : Int32) then (1 : Int32) else (2 : Int32) := ⟨_, rfl⟩
        have mg188 : ∀ t, Steps p.tables e below (T166.setTop (mkF m 267 #[.val (.int p0), .val (.int p1), .val (.int p2), .val (.int p3), .val (.int il1), .val (.int fl3), .val (.int el5), .val (.int es7), .val (.int v10), .val (.int v13), .val (.int v28), .val (.int d19), .val (.int d22), .val (.int d31), .val (.int d34), .val (.int d37), .val (.int d40), .val (.int d43), .val (.ref x123), .val (.ref x127), .val (.ref x166), .val (.int v168), .unset, .unset, .unset, .unset, .unset, .unset, .unset, .unset, .unset, .unset, .unset] [(.int v187), (.int (48 : Int32)), (.int (48 : Int32)), (.int v168), (.int v183)])) t → Steps p.tables e below (T166.setTop (mkF m 259 #[.val (.int p0), .val (.int p1), .val (.int p2), .val (.int p3), .val (.int il1), .val (.int fl3), .val (.int el5), .val (.int es7), .val (.int v10), .val (.int v13), .val (.int v28), .val (.int d19), .val (.int d22), .val (.int d31), .val (.int d34), .val (.int d37), .val (.int d40), .val (.int d43), .val (.ref x123), .val (.ref x127), .val (.ref x166), .val (.int v168), .unset, .unset, .unset, .unset, .unset, .unset, .unset, .unset, .unset, .unset, .unset] [(.int es7), (.int (48 : Int32)), (.int (48 : Int32)), (.int v168), (.int v183)])) t := by
          intro t kt
          by_cases hm186 : es7 = (0 : Int32)
          ·
            have ev187 : v187 = (1 : Int32) := by rw [hv187, if_pos hm186]
            rw [ev187] at kt
            refine (fun t (k : Steps p.tables e below (T166.setTop (mkF m 259 #[.val (.int p0), .val (.int p1), .val (.int p2), .val (.int p3), .val (.int il1), .val (.int fl3), .val (.int el5), .val (.int es7), .val (.int v10), .val (.int v13), .val (.int v28), .val (.int d19), .val (.int d22), .val (.int d31), .val (.int d34), .val (.int d37), .val (.int d40), .val (.int d43), .val (.ref x123), .val (.ref x127), .val (.ref x166), .val (.int v168), .unset, .unset, .unset, .unset, .unset, .unset, .unset, .unset, .unset, .unset, .unset] [(.int es7), (.int (48 : Int32)), (.int (48 : Int32)), (.int v168), (.int v183)])) t) => k) _ ?_
            refine XS.ifNo X166.here hx rfl (hb hby at_259) rfl ((if0 _ _).trans (teq hm186).2) ?_
            refine XS.iconst X166.here hx rfl (hb hby at_262) ?_
            refine XS.goto X166.here hx rfl (pc0 := 263) (pc' := 267) rfl (hb hby at_263) (by decide) (by decide) ?_
            show Steps p.tables e below (T166.setTop (mkF m 267 #[.val (.int p0), .val (.int p1), .val (.int p2), .val (.int p3), .val (.int il1), .val (.int fl3), .val (.int el5), .val (.int es7), .val (.int v10), .val (.int v13), .val (.int v28), .val (.int d19), .val (.int d22), .val (.int d31), .val (.int d34), .val (.int d37), .val (.int d40), .val (.int d43), .val (.ref x123), .val (.ref x127), .val (.ref x166), .val (.int v168), .unset, .unset, .unset, .unset, .unset, .unset, .unset, .unset, .unset, .unset, .unset] [(.int (1 : Int32)), (.int (48 : Int32)), (.int (48 : Int32)), (.int v168), (.int v183)])) _
            exact kt
          ·
            have ev187 : v187 = (2 : Int32) := by rw [hv187, if_neg hm186]
            rw [ev187] at kt
            refine (fun t (k : Steps p.tables e below (T166.setTop (mkF m 259 #[.val (.int p0), .val (.int p1), .val (.int p2), .val (.int p3), .val (.int il1), .val (.int fl3), .val (.int el5), .val (.int es7), .val (.int v10), .val (.int v13), .val (.int v28), .val (.int d19), .val (.int d22), .val (.int d31), .val (.int d34), .val (.int d37), .val (.int d40), .val (.int d43), .val (.ref x123), .val (.ref x127), .val (.ref x166), .val (.int v168), .unset, .unset, .unset, .unset, .unset, .unset, .unset, .unset, .unset, .unset, .unset] [(.int es7), (.int (48 : Int32)), (.int (48 : Int32)), (.int v168), (.int v183)])) t) => k) _ ?_
            refine XS.ifYes X166.here hx rfl (pc0 := 259) (pc' := 266) rfl (hb hby at_259) rfl ((if0 _ _).trans (feq hm186).2) (by decide) (by decide) ?_
            refine XS.iconst X166.here hx rfl (hb hby at_266) ?_
            show Steps p.tables e below (T166.setTop (mkF m 267 #[.val (.int p0), .val (.int p1), .val (.int p2), .val (.int p3), .val (.int il1), .val (.int fl3), .val (.int el5), .val (.int es7), .val (.int v10), .val (.int v13), .val (.int v28), .val (.int d19), .val (.int d22), .val (.int d31), .val (.int d34), .val (.int d37), .val (.int d40), .val (.int d43), .val (.ref x123), .val (.ref x127), .val (.ref x166), .val (.int v168), .unset, .unset, .unset, .unset, .unset, .unset, .unset, .unset, .unset, .unset, .unset] [(.int (2 : Int32)), (.int (48 : Int32)), (.int (48 : Int32)), (.int v168), (.int v183)])) _
            exact kt
        have OLD189 : Old Z n0 T166.heap := OLD0.keep K166 all0
        obtain ⟨_, _, ⟨T189, L189, k189, n189⟩, -, X189, ⟨Lc189, hQ189, l189, y189, z189⟩, st189⟩ := Jvm.LawKit.callS X166 hx (y := (⟨"com/example/reed/reed/engine/IntegralityIsIntegerPinLaw", "text", "(CCCCI)Ljava/lang/String;"⟩ : MethodName)) hown (mvT hZ (hw _ (List.mem_of_getElem? (i := 15) rfl))) (mvT hZ (hw _ (List.mem_of_getElem? (i := 16) rfl))) (mvT hZ (hw _ (List.mem_of_getElem? (i := 2) rfl))) (mvT hZ (hw _ (List.mem_of_getElem? (i := 17) rfl))) (by decide) (backOf (W := 0) (rm3 l Z a0 hw [] v183 v168 (48 : Int32) (48 : Int32) v187 G1 T166.heap n0 (Nat.le_trans Z0 K166.1) OLD189 SCS P5 kuc ksc own_l48 own_l48) hZ (hw _ (List.mem_of_getElem? (i := 17) rfl)) (hw _ (List.mem_of_getElem? (i := 2) rfl)) (by decide) (by decide)) (g := (mkF m 267 #[.val (.int p0), .val (.int p1), .val (.int p2), .val (.int p3), .val (.int il1), .val (.int fl3), .val (.int el5), .val (.int es7), .val (.int v10), .val (.int v13), .val (.int v28), .val (.int d19), .val (.int d22), .val (.int d31), .val (.int d34), .val (.int d37), .val (.int d40), .val (.int d43), .val (.ref x123), .val (.ref x127), .val (.ref x166), .val (.int v168), .unset, .unset, .unset, .unset, .unset, .unset, .unset, .unset, .unset, .unset, .unset] [(.int v187), (.int (48 : Int32)), (.int (48 : Int32)), (.int v168), (.int v183)])) rfl (by rw [hml]; rfl) (argsL := [(.int v183), (.int v168), (.int (48 : Int32)), (.int (48 : Int32)), (.int v187)]) (rest := []) (lenOf pd__CCCCI_Ljava_lang_String_ rfl) rfl (by show 2 * 0 + _ ≤ _; exact Nat.le_of_eq rfl) (hb hby at_267) (fun _ _ => ⟨rfl, rfl, (by decide : 8 + 3 ≤ _), (by decide : 32 + 12 ≤ _)⟩)
        dsimp only [Pt.U, Pt.locs, Pt.cells, Pt.slots] at X189 l189 y189 z189 st189 hQ189
        subst l189 y189 z189
        obtain ⟨x189, rfl, N189q, kq189, gg189, u189, xs189⟩ := hQ189
        have N189 := Fr.app N166 N189q
        have K189 := K166.trans kq189 all0
        have hk190 : ¬ (el5 = (0 : Int32)) := hc231
        obtain ⟨_, _, ⟨T191, L191, k191, n191⟩, -, X191, ⟨Lc191, hQ191, l191, y191, z191⟩, st191⟩ := Jvm.LawKit.callS X189 hx (y := (⟨"com/example/reed/reed/engine/IntegralityIsIntegerPinLaw", "ch", "(I)C"⟩ : MethodName)) hown (mvT hZ (hw _ (List.mem_of_getElem? (i := 12) rfl))) (mvT hZ (hw _ (List.mem_of_getElem? (i := 13) rfl))) (mvT hZ (hw _ (List.mem_of_getElem? (i := 2) rfl))) (mvT hZ (hw _ (List.mem_of_getElem? (i := 14) rfl))) (by decide) (backOf (W := 0) (rm2 l Z a0 hw [] d40 T189.heap n0 (Nat.le_trans Z0 K189.1) d9d40) hZ (hw _ (List.mem_of_getElem? (i := 14) rfl)) (hw _ (List.mem_of_getElem? (i := 2) rfl)) (by decide) (by decide)) (g := (mkF m 284 #[.val (.int p0), .val (.int p1), .val (.int p2), .val (.int p3), .val (.int il1), .val (.int fl3), .val (.int el5), .val (.int es7), .val (.int v10), .val (.int v13), .val (.int v28), .val (.int d19), .val (.int d22), .val (.int d31), .val (.int d34), .val (.int d37), .val (.int d40), .val (.int d43), .val (.ref x123), .val (.ref x127), .val (.ref x166), .val (.int v168), .val (.ref x189), .unset, .unset, .unset, .unset, .unset, .unset, .unset, .unset, .unset, .unset] [(.int d40)])) rfl (by rw [hml]; rfl) (argsL := [(.int d40)]) (rest := []) (lenOf pd__I_C rfl) rfl (by show 2 * 0 + _ ≤ _; exact Nat.le_of_eq rfl) (hb hby at_284) (fun _ _ => ⟨rfl, rfl, (by decide : 11 + 0 ≤ _), (by decide : 44 + 0 ≤ _)⟩)
        dsimp only [Pt.U, Pt.locs, Pt.cells, Pt.slots] at X191 l191 y191 z191 st191 hQ191
        subst l191 y191 z191
        obtain ⟨rfl, N191q, hq191⟩ := hQ191
        have N191 := Fr.app N189 N191q
        have E191 : Ext T189.heap T191.heap := by rw [hq191]; exact ⟨Nat.le_refl _, fun _ _ q => q⟩
        have K191 := K189.ext E191
        obtain ⟨_, _, ⟨T192, L192, k192, n192⟩, -, X192, ⟨Lc192, hQ192, l192, y192, z192⟩, st192⟩ := Jvm.LawKit.callS X191 hx (y := (⟨"com/example/reed/reed/engine/IntegralityIsIntegerPinLaw", "ch", "(I)C"⟩ : MethodName)) hown (mvT hZ (hw _ (List.mem_of_getElem? (i := 12) rfl))) (mvT hZ (hw _ (List.mem_of_getElem? (i := 13) rfl))) (mvT hZ (hw _ (List.mem_of_getElem? (i := 2) rfl))) (mvT hZ (hw _ (List.mem_of_getElem? (i := 14) rfl))) (by decide) (backOf (W := 1) (rm2 l Z a0 hw [] d43 T191.heap n0 (Nat.le_trans Z0 K191.1) d9d43) hZ (hw _ (List.mem_of_getElem? (i := 14) rfl)) (hw _ (List.mem_of_getElem? (i := 2) rfl)) (by decide) (by decide)) (g := (mkF m 289 #[.val (.int p0), .val (.int p1), .val (.int p2), .val (.int p3), .val (.int il1), .val (.int fl3), .val (.int el5), .val (.int es7), .val (.int v10), .val (.int v13), .val (.int v28), .val (.int d19), .val (.int d22), .val (.int d31), .val (.int d34), .val (.int d37), .val (.int d40), .val (.int d43), .val (.ref x123), .val (.ref x127), .val (.ref x166), .val (.int v168), .val (.ref x189), .unset, .unset, .unset, .unset, .unset, .unset, .unset, .unset, .unset, .unset] [(.int d43), (.int ((48 : Int32) + d40))])) rfl (by rw [hml]; rfl) (argsL := [(.int d43)]) (rest := [(.int ((48 : Int32) + d40))]) (lenOf pd__I_C rfl) rfl (by show 2 * 0 + _ ≤ _; exact Nat.le_of_eq rfl) (hb hby at_289) (fun _ _ => ⟨rfl, rfl, (by decide : 11 + 0 ≤ _), (by decide : 44 + 0 ≤ _)⟩)
        dsimp only [Pt.U, Pt.locs, Pt.cells, Pt.slots] at X192 l192 y192 z192 st192 hQ192
        subst l192 y192 z192
        obtain ⟨rfl, N192q, hq192⟩ := hQ192
        have N192 := Fr.app N191 N192q
        have E192 : Ext T191.heap T192.heap := by rw [hq192]; exact ⟨Nat.le_refl _, fun _ _ q => q⟩
        have K192 := K191.ext E192
        have OLD193 : Old Z n0 T192.heap := OLD0.keep K192 all0
        obtain ⟨_, _, ⟨T193, L193, k193, n193⟩, -, X193, ⟨Lc193, hQ193, l193, y193, z193⟩, st193⟩ := Jvm.LawKit.callS X192 hx (y := (⟨"com/example/reed/reed/engine/IntegralityIsIntegerPinLaw", "text", "(CCCCI)Ljava/lang/String;"⟩ : MethodName)) hown (mvT hZ (hw _ (List.mem_of_getElem? (i := 15) rfl))) (mvT hZ (hw _ (List.mem_of_getElem? (i := 16) rfl))) (mvT hZ (hw _ (List.mem_of_getElem? (i := 2) rfl))) (mvT hZ (hw _ (List.mem_of_getElem? (i := 17) rfl))) (by decide) (backOf (W := 0) (rm3 l Z a0 hw [] ((48 : Int32) + d40) ((48 : Int32) + d43) (48 : Int32) (48 : Int32) el5 G1 T192.heap n0 (Nat.le_trans Z0 K192.1) OLD193 SCS P5 (own_c48 d9d40) (own_c48 d9d43) own_l48 own_l48) hZ (hw _ (List.mem_of_getElem? (i := 17) rfl)) (hw _ (List.mem_of_getElem? (i := 2) rfl)) (by decide) (by decide)) (g := (mkF m 298 #[.val (.int p0), .val (.int p1), .val (.int p2), .val (.int p3), .val (.int il1), .val (.int fl3), .val (.int el5), .val (.int es7), .val (.int v10), .val (.int v13), .val (.int v28), .val (.int d19), .val (.int d22), .val (.int d31), .val (.int d34), .val (.int d37), .val (.int d40), .val (.int d43), .val (.ref x123), .val (.ref x127), .val (.ref x166), .val (.int v168), .val (.ref x189), .unset, .unset, .unset, .unset, .unset, .unset, .unset, .unset, .unset, .unset] [(.int el5), (.int (48 : Int32)), (.int (48 : Int32)), (.int ((48 : Int32) + d43)), (.int ((48 : Int32) + d40))])) rfl (by rw [hml]; rfl) (argsL := [(.int ((48 : Int32) + d40)), (.int ((48 : Int32) + d43)), (.int (48 : Int32)), (.int (48 : Int32)), (.int el5)]) (rest := []) (lenOf pd__CCCCI_Ljava_lang_String_ rfl) rfl (by show 2 * 0 + _ ≤ _; exact Nat.le_of_eq rfl) (hb hby at_298) (fun _ _ => ⟨rfl, rfl, (by decide : 11 + 3 ≤ _), (by decide : 44 + 12 ≤ _)⟩)
        dsimp only [Pt.U, Pt.locs, Pt.cells, Pt.slots] at X193 l193 y193 z193 st193 hQ193
        subst l193 y193 z193
        obtain ⟨x193, rfl, N193q, kq193, gg193, u193, xs193⟩ := hQ193
        have N193 := Fr.app N192 N193q
        have K193 := K192.trans kq193 all0
        have c194 := (own_strP (own_strE (own_strE (own_strP (own_strP (own_strE (own_strE (own_strE (own_strP (own_strE (own_strE (own_strE xs123 E124) E125) E126) kq127) E163) E164) E165) kq166) kq189) E191) E192) kq193)
        have c195 := (own_strP (own_strE (own_strE (own_strP (own_strP (own_strE (own_strE (own_strE xs127 E163) E164) E165) kq166) kq189) E191) E192) kq193)
        have c196 := (own_strP (own_strE (own_strE (own_strP xs166 kq189) E191) E192) kq193)
        have c197 := (own_strP (own_strE (own_strE xs189 E191) E192) kq193)
        have pre198 : ∀ t, Steps p.tables e below (T193.setTop (mkF m 303 #[.val (.int p0), .val (.int p1), .val (.int p2), .val (.int p3), .val (.int il1), .val (.int fl3), .val (.int el5), .val (.int es7), .val (.int v10), .val (.int v13), .val (.int v28), .val (.int d19), .val (.int d22), .val (.int d31), .val (.int d34), .val (.int d37), .val (.int d40), .val (.int d43), .val (.ref x123), .val (.ref x127), .val (.ref x166), .val (.int v168), .val (.ref x189), .val (.ref x193), .unset, .unset, .unset, .unset, .unset, .unset, .unset, .unset, .unset] [])) t → Steps p.tables e below (s₁.setTop (entryFrame m #[(.int p0), (.int p1), (.int p2), (.int p3)] maxLocals)) t := by
          intro t kt
          refine pre185 _ ?_
          show Steps p.tables e below (T166.setTop (mkF m 251 #[.val (.int p0), .val (.int p1), .val (.int p2), .val (.int p3), .val (.int il1), .val (.int fl3), .val (.int el5), .val (.int es7), .val (.int v10), .val (.int v13), .val (.int v28), .val (.int d19), .val (.int d22), .val (.int d31), .val (.int d34), .val (.int d37), .val (.int d40), .val (.int d43), .val (.ref x123), .val (.ref x127), .val (.ref x166), .val (.int v168), .unset, .unset, .unset, .unset, .unset, .unset, .unset, .unset, .unset, .unset, .unset] [(.int v183)])) _
          refine XS.iload X166.here hx rfl (hb hby at_251) rfl ?_
          refine XS.bipush X166.here hx rfl (hb hby at_253) ?_
          refine XS.bipush X166.here hx rfl (hb hby at_255) ?_
          show Steps p.tables e below (T166.setTop (mkF m 257 #[.val (.int p0), .val (.int p1), .val (.int p2), .val (.int p3), .val (.int il1), .val (.int fl3), .val (.int el5), .val (.int es7), .val (.int v10), .val (.int v13), .val (.int v28), .val (.int d19), .val (.int d22), .val (.int d31), .val (.int d34), .val (.int d37), .val (.int d40), .val (.int d43), .val (.ref x123), .val (.ref x127), .val (.ref x166), .val (.int v168), .unset, .unset, .unset, .unset, .unset, .unset, .unset, .unset, .unset, .unset, .unset] [(.int (48 : Int32)), (.int (48 : Int32)), (.int v168), (.int v183)])) _
          refine XS.iload X166.here hx rfl (hb hby at_257) rfl ?_
          show Steps p.tables e below (T166.setTop (mkF m 259 #[.val (.int p0), .val (.int p1), .val (.int p2), .val (.int p3), .val (.int il1), .val (.int fl3), .val (.int el5), .val (.int es7), .val (.int v10), .val (.int v13), .val (.int v28), .val (.int d19), .val (.int d22), .val (.int d31), .val (.int d34), .val (.int d37), .val (.int d40), .val (.int d43), .val (.ref x123), .val (.ref x127), .val (.ref x166), .val (.int v168), .unset, .unset, .unset, .unset, .unset, .unset, .unset, .unset, .unset, .unset, .unset] [(.int es7), (.int (48 : Int32)), (.int (48 : Int32)), (.int v168), (.int v183)])) _
          refine mg188 _ ?_
          show Steps p.tables e below (T166.setTop (mkF m 267 #[.val (.int p0), .val (.int p1), .val (.int p2), .val (.int p3), .val (.int il1), .val (.int fl3), .val (.int el5), .val (.int es7), .val (.int v10), .val (.int v13), .val (.int v28), .val (.int d19), .val (.int d22), .val (.int d31), .val (.int d34), .val (.int d37), .val (.int d40), .val (.int d43), .val (.ref x123), .val (.ref x127), .val (.ref x166), .val (.int v168), .unset, .unset, .unset, .unset, .unset, .unset, .unset, .unset, .unset, .unset, .unset] [(.int v187), (.int (48 : Int32)), (.int (48 : Int32)), (.int v168), (.int v183)])) _
          refine st189 _ ?_
          show Steps p.tables e below (T189.setTop (mkF m 270 #[.val (.int p0), .val (.int p1), .val (.int p2), .val (.int p3), .val (.int il1), .val (.int fl3), .val (.int el5), .val (.int es7), .val (.int v10), .val (.int v13), .val (.int v28), .val (.int d19), .val (.int d22), .val (.int d31), .val (.int d34), .val (.int d37), .val (.int d40), .val (.int d43), .val (.ref x123), .val (.ref x127), .val (.ref x166), .val (.int v168), .unset, .unset, .unset, .unset, .unset, .unset, .unset, .unset, .unset, .unset, .unset] [(.ref x189)])) _
          refine XS.astore X189.here hx rfl (hb hby at_270) rfl rfl (l' := #[.val (.int p0), .val (.int p1), .val (.int p2), .val (.int p3), .val (.int il1), .val (.int fl3), .val (.int el5), .val (.int es7), .val (.int v10), .val (.int v13), .val (.int v28), .val (.int d19), .val (.int d22), .val (.int d31), .val (.int d34), .val (.int d37), .val (.int d40), .val (.int d43), .val (.ref x123), .val (.ref x127), .val (.ref x166), .val (.int v168), .val (.ref x189), .unset, .unset, .unset, .unset, .unset, .unset, .unset, .unset, .unset, .unset]) rfl ?_
          refine XS.iload X189.here hx rfl (hb hby at_272) rfl ?_
          refine XS.ifYes X189.here hx rfl (pc0 := 274) (pc' := 282) rfl (hb hby at_274) rfl ((if0 _ _).trans (feq hk190).2) (by decide) (by decide) ?_
          show Steps p.tables e below (T189.setTop (mkF m 282 #[.val (.int p0), .val (.int p1), .val (.int p2), .val (.int p3), .val (.int il1), .val (.int fl3), .val (.int el5), .val (.int es7), .val (.int v10), .val (.int v13), .val (.int v28), .val (.int d19), .val (.int d22), .val (.int d31), .val (.int d34), .val (.int d37), .val (.int d40), .val (.int d43), .val (.ref x123), .val (.ref x127), .val (.ref x166), .val (.int v168), .val (.ref x189), .unset, .unset, .unset, .unset, .unset, .unset, .unset, .unset, .unset, .unset] [])) _
          refine XS.iload X189.here hx rfl (hb hby at_282) rfl ?_
          show Steps p.tables e below (T189.setTop (mkF m 284 #[.val (.int p0), .val (.int p1), .val (.int p2), .val (.int p3), .val (.int il1), .val (.int fl3), .val (.int el5), .val (.int es7), .val (.int v10), .val (.int v13), .val (.int v28), .val (.int d19), .val (.int d22), .val (.int d31), .val (.int d34), .val (.int d37), .val (.int d40), .val (.int d43), .val (.ref x123), .val (.ref x127), .val (.ref x166), .val (.int v168), .val (.ref x189), .unset, .unset, .unset, .unset, .unset, .unset, .unset, .unset, .unset, .unset] [(.int d40)])) _
          refine st191 _ ?_
          show Steps p.tables e below (T191.setTop (mkF m 287 #[.val (.int p0), .val (.int p1), .val (.int p2), .val (.int p3), .val (.int il1), .val (.int fl3), .val (.int el5), .val (.int es7), .val (.int v10), .val (.int v13), .val (.int v28), .val (.int d19), .val (.int d22), .val (.int d31), .val (.int d34), .val (.int d37), .val (.int d40), .val (.int d43), .val (.ref x123), .val (.ref x127), .val (.ref x166), .val (.int v168), .val (.ref x189), .unset, .unset, .unset, .unset, .unset, .unset, .unset, .unset, .unset, .unset] [(.int ((48 : Int32) + d40))])) _
          refine XS.iload X191.here hx rfl (hb hby at_287) rfl ?_
          show Steps p.tables e below (T191.setTop (mkF m 289 #[.val (.int p0), .val (.int p1), .val (.int p2), .val (.int p3), .val (.int il1), .val (.int fl3), .val (.int el5), .val (.int es7), .val (.int v10), .val (.int v13), .val (.int v28), .val (.int d19), .val (.int d22), .val (.int d31), .val (.int d34), .val (.int d37), .val (.int d40), .val (.int d43), .val (.ref x123), .val (.ref x127), .val (.ref x166), .val (.int v168), .val (.ref x189), .unset, .unset, .unset, .unset, .unset, .unset, .unset, .unset, .unset, .unset] [(.int d43), (.int ((48 : Int32) + d40))])) _
          refine st192 _ ?_
          show Steps p.tables e below (T192.setTop (mkF m 292 #[.val (.int p0), .val (.int p1), .val (.int p2), .val (.int p3), .val (.int il1), .val (.int fl3), .val (.int el5), .val (.int es7), .val (.int v10), .val (.int v13), .val (.int v28), .val (.int d19), .val (.int d22), .val (.int d31), .val (.int d34), .val (.int d37), .val (.int d40), .val (.int d43), .val (.ref x123), .val (.ref x127), .val (.ref x166), .val (.int v168), .val (.ref x189), .unset, .unset, .unset, .unset, .unset, .unset, .unset, .unset, .unset, .unset] [(.int ((48 : Int32) + d43)), (.int ((48 : Int32) + d40))])) _
          refine XS.bipush X192.here hx rfl (hb hby at_292) ?_
          refine XS.bipush X192.here hx rfl (hb hby at_294) ?_
          refine XS.iload X192.here hx rfl (hb hby at_296) rfl ?_
          show Steps p.tables e below (T192.setTop (mkF m 298 #[.val (.int p0), .val (.int p1), .val (.int p2), .val (.int p3), .val (.int il1), .val (.int fl3), .val (.int el5), .val (.int es7), .val (.int v10), .val (.int v13), .val (.int v28), .val (.int d19), .val (.int d22), .val (.int d31), .val (.int d34), .val (.int d37), .val (.int d40), .val (.int d43), .val (.ref x123), .val (.ref x127), .val (.ref x166), .val (.int v168), .val (.ref x189), .unset, .unset, .unset, .unset, .unset, .unset, .unset, .unset, .unset, .unset] [(.int el5), (.int (48 : Int32)), (.int (48 : Int32)), (.int ((48 : Int32) + d43)), (.int ((48 : Int32) + d40))])) _
          refine st193 _ ?_
          show Steps p.tables e below (T193.setTop (mkF m 301 #[.val (.int p0), .val (.int p1), .val (.int p2), .val (.int p3), .val (.int il1), .val (.int fl3), .val (.int el5), .val (.int es7), .val (.int v10), .val (.int v13), .val (.int v28), .val (.int d19), .val (.int d22), .val (.int d31), .val (.int d34), .val (.int d37), .val (.int d40), .val (.int d43), .val (.ref x123), .val (.ref x127), .val (.ref x166), .val (.int v168), .val (.ref x189), .unset, .unset, .unset, .unset, .unset, .unset, .unset, .unset, .unset, .unset] [(.ref x193)])) _
          refine XS.astore X193.here hx rfl (hb hby at_301) rfl rfl (l' := #[.val (.int p0), .val (.int p1), .val (.int p2), .val (.int p3), .val (.int il1), .val (.int fl3), .val (.int el5), .val (.int es7), .val (.int v10), .val (.int v13), .val (.int v28), .val (.int d19), .val (.int d22), .val (.int d31), .val (.int d34), .val (.int d37), .val (.int d40), .val (.int d43), .val (.ref x123), .val (.ref x127), .val (.ref x166), .val (.int v168), .val (.ref x189), .val (.ref x193), .unset, .unset, .unset, .unset, .unset, .unset, .unset, .unset, .unset]) rfl ?_
          show Steps p.tables e below (T193.setTop (mkF m 303 #[.val (.int p0), .val (.int p1), .val (.int p2), .val (.int p3), .val (.int il1), .val (.int fl3), .val (.int el5), .val (.int es7), .val (.int v10), .val (.int v13), .val (.int v28), .val (.int d19), .val (.int d22), .val (.int d31), .val (.int d34), .val (.int d37), .val (.int d40), .val (.int d43), .val (.ref x123), .val (.ref x127), .val (.ref x166), .val (.int v168), .val (.ref x189), .val (.ref x193), .unset, .unset, .unset, .unset, .unset, .unset, .unset, .unset, .unset] [])) _
          exact kt
        have HL := own_main kil kfl kel kes d9v28 d9d19 d9d22 d9d31 d9d34 d9d37 d9d40 d9d43 (up := v183) (sc := v168) kup hv168 (cs1 := [45]) (cs3 := (own_take ((1 : Int32) + fl3) (46 : Int32) ((48 : Int32) + d31) ((48 : Int32) + d34) ((48 : Int32) + d37))) (cs4 := (own_take v187 v183 v168 (48 : Int32) (48 : Int32))) (cs5 := (own_take el5 ((48 : Int32) + d40) ((48 : Int32) + d43) (48 : Int32) (48 : Int32))) (Or.inr rfl) (by rw [if_neg hc180]) (by rw [if_neg hc231, hv187]) (by rw [if_neg hc231])
        have OLDz : Old Z n0 T193.heap := OLD0.keep K193 all0
        obtain ⟨Lh, Xh, Nh⟩ := own_hide X193 N193 (C := 30) (S := 2000) (Nat.le_of_ble_eq_true rfl) (Nat.le_of_ble_eq_true rfl)
        obtain ⟨T2, Ls, L2, X2, N2, hz2, st2⟩ := own_tail Xh hx hZ hw hby hml hown rfl Nh (Nat.le_trans Z0 K193.1) OLDz SCS P5 SSI rfm c194 c195 c196 c197 xs193 own_lm45 (own_takeC (own_c48 d9v28) (own_c48 d9d19) (own_c48 d9d22) own_l48) (own_takeC own_l46 (own_c48 d9d31) (own_c48 d9d34) (own_c48 d9d37)) (own_takeC kuc ksc own_l48 own_l48) (own_takeC (own_c48 d9d40) (own_c48 d9d43) own_l48 own_l48) (by decide) (own_takeL _ _ _ _ _) (own_takeL _ _ _ _ _) (own_takeL _ _ _ _ _) (own_takeL _ _ _ _ _) HL (p0 := p0) (p1 := p1) (p2 := p2) (p3 := p3) (up := v10) (ng := v13) (sc := v168)
        obtain ⟨fs, hr, hrun, hended, hW⟩ := X2.leaveW hS123 (Nat.le_trans (Nat.le_trans (Nat.le_trans (Nat.le_trans (Nat.le_trans (Nat.le_trans (Nat.le_trans (Nat.le_trans (Nat.le_trans (Nat.le_trans (Nat.le_trans (Nat.le_trans (Nat.le_trans hk123 E124.1) E125.1) E126.1) kq127.1) E163.1) E164.1) E165.1) kq166.1) kq189.1) E191.1) E192.1) kq193.1) hz2) (v := some (.int (1 : Int32))) (fun h => by rw [Bd.returns] at h; cases h)
        exact ⟨_, _, pre198 _ (st2 _ (retN X2 hx (t := .boolean) Bd.returns (by simp) (hb hby at_564) hr)), hrun, hended, _, _, rfl, ⟨rfl, N2⟩, hW⟩
set_option maxRecDepth 65536 in
set_option maxHeartbeats 40000000 in
theorem comes_1 {Post : Tables → Env → Array Value → State → Outcome → State → Prop} (hpost : ∀ tb e args s v u, (limb_1_1.after args s (.returned v) u = true ∧ limb_1_2.after args s (.returned v) u = true ∧ True) → FramedW s (.returned v) u (Jvm.fieldLocs frame_1_writes args s ++ Jvm.arrayLocs frame_1_arrays args s ++ Jvm.staticLocs frame_1_statics s) 40 2240 → Post tb e args s (.returned v) u) :
    ArmFor flags0 classFile x code maxLocals ret World_1 tables_1 room_1 Calls_1 rest_1 Pre_1 Post := by
  intro l hfl _ _ p e ha hc hk s m args below hf hA hF happ hP
  obtain ⟨hcalls, hrest, hpre⟩ := hP
  obtain ⟨-, -, -, hnamed, -, -, -, hat⟩ := (Spec.applies_iff hf).mp happ
  obtain ⟨hg, hn⟩ := and_e (Cond.before_iff.mp (show (Jvm.Cond.and given_1 narrow_1).before args s = true from hpre))
  obtain ⟨g1, g2⟩ := and_e hg
  obtain ⟨g3, g4⟩ := and_e g2
  obtain ⟨g5, g6⟩ := and_e g4
  obtain ⟨g7, g8⟩ := and_e g6
  obtain ⟨w0, w1, w2, w3, rfl⟩ : ∃ w0 w1 w2 w3 : Value, args = #[w0, w1, w2, w3] := by
    have hs : args.size = 4 := by simpa [Cond.value, given_1] using g1
    obtain ⟨L⟩ := args
    match L, hs with
    | [w0, w1, w2, w3], _ => exact ⟨w0, w1, w2, w3, rfl⟩
  have hw := fun d (hd : d ∈ tables_1) => atoms_spec (ws := Jvm.Cond.code x code maxLocals ret :: tables_1) hat d (List.mem_cons_of_mem _ hd)
  have hfit : Fit s := fun {y c} hc i hi => by
    obtain ⟨ha, rfl⟩ := Array.getElem?_eq_some_iff.mp hc
    have q := List.all_eq_true.mp ((Array.all_eq_true_iff_forall_mem.mp hF) _ (Array.getElem_mem ha)) i (List.mem_range.mpr hi)
    simpa [Array.getElem?_eq_getElem hi] using q
  obtain ⟨hsets, hown0⟩ := atoms_of _ (rest_1_c_eq ▸ (show rest_1_c.before _ s = true from hrest))
  have hr0 := Cond.before_iff.mp hown0
  obtain ⟨i0, ei0⟩ := is_v g3
  obtain rfl : w0 = (.int i0) := Option.some.inj ei0
  obtain ⟨i1, ei1⟩ := is_v g5
  obtain rfl : w1 = (.int i1) := Option.some.inj ei1
  obtain ⟨i2, ei2⟩ := is_v g7
  obtain rfl : w2 = (.int i2) := Option.some.inj ei2
  obtain ⟨i3, ei3⟩ := is_v g8
  obtain rfl : w3 = (.int i3) := Option.some.inj ei3
  have n5 := not_v (Cond.before_iff.mp (hsets _ (List.mem_of_getElem? (i := 2) rfl)))
  obtain ⟨G1, e10⟩ := is_v (Cond.before_iff.mp (hsets _ (List.mem_of_getElem? (i := 1) rfl)))
  have SCS : Sta s s.heap "java/lang/String" "COMPACT_STRINGS" "Z" (.int G1) := Sta.start e10 (Or.inl (hsets _ (List.mem_of_getElem? (i := 0) rfl)))
  have P5 : ¬ (G1 = (0 : Int32)) := gotF (Cond.eq_ints e10 (Term.int_eval (0))) n5
  obtain ⟨fm, e14, rfm⟩ := isR_v (Cond.before_iff.mp (hsets _ (List.mem_of_getElem? (i := 8) rfl)))
  have SSI : Sta s s.heap "jdk/internal/util/Preconditions" "SIOOBE_FORMATTER" "Ljava/util/function/BiFunction;" fm := Sta.start e14 (Or.inl (hsets _ (List.mem_of_getElem? (i := 7) rfl)))
  have HC13 : Jvm.Lit.constHeld s "com/example/reed/reed/engine/IntegralityIsIntegerPinLaw" 13 := hcalls.1 _ (List.mem_of_getElem? (i := 0) rfl)
  have HC15 : Jvm.Lit.constHeld s "com/example/reed/reed/engine/IntegralityIsIntegerPinLaw" 15 := hcalls.1 _ (List.mem_of_getElem? (i := 1) rfl)
  obtain ⟨n, o, h1, h2, h3, _, L, rfl, ⟨rfl, N⟩, hq⟩ := rm0 l s _ hw tables_1 i0 i1 i2 i3 G1 fm s.heap s.heap.size (Nat.le_refl _) (Old.start s) SCS P5 SSI rfm rfl HC13 HC15 (hsets _ (List.mem_of_getElem? (i := 2) rfl)) p e ha hc hk s m _ below hf ((Spec.applies_iff_loose hf).mp happ).1 ⟨rfl, State.Warmed39.refl s, rfl, rfl⟩ trivial
  refine ⟨n, _, h1, h2, h3, hpost _ _ _ _ _ _ ⟨Cond.after_iff.mpr rfl, Cond.after_iff.mpr (eq_i res_at (Term.int_eval (1)) rfl), trivial⟩ ⟨hq.1, hq.2.1, hq.2.2.1, (hq.2.2.2.sift fun y hy => Or.inr (N y hy)).mono (by decide) (by decide)⟩⟩
theorem main_1_1 : Claimed_1_1 := comes_1 fun _ _ _ _ _ _ h hF => ⟨h.1, hF⟩
theorem main_1_2 : Claimed_1_2 := comes_1 fun _ _ _ _ _ _ h hF => ⟨h.2.1, hF⟩
end Jvm.Pilot.@@N@@
namespace Jvm.Pilot.@@N@@
open Jvm Jvm.ClassFile Sem Op Lib Jvm.Free Jvm.Stand Jvm.Pilot.@@N@@.Jvm.D
/-! MADE BY PROGRAM (witnessworld.py) out of the Statement's table words and the real class files: 20 classes; the members and pool entries that the words name. The judged class is class 1, her method 1. -/
namespace start1
open Jvm.ClassFile
def u (s : String) : CpInfo := .utf8 (stringToUtf16 s)
/-- a pool by its gaps: so many unusable entries, then the entry; so many at the end -/
def gap : Nat → List CpInfo → List CpInfo
  | 0, r => r
  | n + 1, r => .unusable :: gap n r
def poolList (es : List (Nat × CpInfo)) (last : Nat) : List CpInfo := es.foldr (fun e r => gap e.1 (e.2 :: r)) (gap last [])
def pool (es : List (Nat × CpInfo)) (last : Nat) : Array CpInfo := ⟨poolList es last⟩
def fileOf (pool : Array CpInfo) (this : Nat) (attrs : Array Attribute := #[]) (ms : Array MethodInfo := #[]) (fl : Nat := 33) (sup : Nat := 0) (ifs : Array Nat := #[]) (fds : Array FieldInfo := #[]) : ClassFile where
  minorVersion := 0
  majorVersion := 65
  constantPool := pool
  accessFlags := fl
  thisClass := this
  superClass := sup
  interfaces := ifs
  fields := fds
  methods := ms
  attributes := attrs
def plain (name : String) (sup : Option ClassId) : Class where
  name := name
  kind := .ordinary
  loader := none
  accessFlags := 33
  super := sup
  interfaces := #[]
  cf := none
  fields := #[]
  methods := #[]
  instanceTypes := #[]
  staticTypes := #[]
  resolved := #[]
  callSites := []
  init := .initialized
  statics := none
  mirror := none

def pool0 : Array CpInfo := pool [(5, u "<init>"), (0, u "()V"), (1, .class_ 10), (1, u "java/lang/Object")] 113

def k0c0 : Code := { maxStack := 0, maxLocals := 1, code := object_method_1_code, exceptionTable := #[], attributes := #[] }
def k0m0 : Method := { name := "<init>", desc := "()V", sig := { parameters := [], returnType := none }, accessFlags := 1, code := some k0c0 }
/-- java/lang/Object -/
def k0 : Class := { plain "java/lang/Object" none with
  accessFlags := 33
  interfaces := #[]
  cf := some (fileOf pool0 8 #[] #[{ accessFlags := 1, nameIndex := 5, descriptorIndex := 6, attributes := #[] }] 33 0 #[] #[])
  fields := #[]
  methods := #[k0m0]
  instanceTypes := #[]
  staticTypes := #[]
  resolved := Array.replicate 124 none
  statics := none }

def pool1 : Array CpInfo := pool [(2, .class_ 4), (0, .nameAndType 5 6), (0, u "java/lang/Object"), (0, u "<init>"), (0, u "()V"), (0, .methodref 8 9), (0, .class_ 10), (0, .nameAndType 11 12), (0, u "com/example/reed/reed/engine/IntegralityIsIntegerPinLaw"), (0, u "digit"), (0, u "(II)I"), (0, .string 14), (0, u "-"), (0, .string 16), (0, u ""), (0, .methodref 8 18), (0, .nameAndType 19 20), (0, u "ch"), (0, u "(I)C"), (0, .methodref 8 22), (0, .nameAndType 23 24), (0, u "text"), (0, u "(CCCCI)Ljava/lang/String;"), (0, .class_ 26), (0, u "com/example/reed/reed/engine/Integrality"), (0, .methodref 25 3), (0, .methodref 25 29), (0, .nameAndType 30 31), (0, u "add"), (0, u "(Ljava/lang/CharSequence;)V"), (0, .methodref 25 33), (0, .nameAndType 34 35), (0, u "isInteger"), (0, u "()Z"), (0, .methodref 8 37), (0, .nameAndType 38 39), (0, u "pow10"), (0, u "(I)I"), (0, .methodref 41 42), (0, .class_ 43), (0, .nameAndType 44 45), (0, u "java/lang/String"), (0, u "valueOf"), (0, u "(C)Ljava/lang/String;"), (0, .methodref 41 47), (0, .nameAndType 5 48), (0, u "([C)V"), (0, .integer 100000), (0, .integer 1000000), (2, u "law"), (0, u "(IIII)Z")] 3

def k1m0 : Method := { name := "<init>", desc := "()V", sig := { parameters := [], returnType := none }, accessFlags := 1, code := none }
def k1c1 : Code := { maxStack := 6, maxLocals := 33, code := code, exceptionTable := #[], attributes := #[] }
def k1m1 : Method := { name := "law", desc := "(IIII)Z", sig := { parameters := [.int, .int, .int, .int], returnType := some .boolean }, accessFlags := 9, code := some k1c1 }
def k1c2 : Code := { maxStack := 2, maxLocals := 2, code := method_3_code, exceptionTable := #[], attributes := #[] }
def k1m2 : Method := { name := "digit", desc := "(II)I", sig := { parameters := [.int, .int], returnType := some .int }, accessFlags := 10, code := some k1c2 }
def k1c3 : Code := { maxStack := 2, maxLocals := 1, code := method_4_code, exceptionTable := #[], attributes := #[] }
def k1m3 : Method := { name := "ch", desc := "(I)C", sig := { parameters := [.int], returnType := some .char }, accessFlags := 10, code := some k1c3 }
def k1c4 : Code := { maxStack := 6, maxLocals := 5, code := method_5_code, exceptionTable := #[], attributes := #[] }
def k1m4 : Method := { name := "text", desc := "(CCCCI)Ljava/lang/String;", sig := { parameters := [.char, .char, .char, .char, .int], returnType := some (.object "java/lang/String") }, accessFlags := 10, code := some k1c4 }
def k1c5 : Code := { maxStack := 2, maxLocals := 1, code := method_6_code, exceptionTable := #[], attributes := #[] }
def k1m5 : Method := { name := "pow10", desc := "(I)I", sig := { parameters := [.int], returnType := some .int }, accessFlags := 10, code := some k1c5 }
/-- com/example/reed/reed/engine/IntegralityIsIntegerPinLaw -/
def k1 : Class := { plain "com/example/reed/reed/engine/IntegralityIsIntegerPinLaw" (some 0) with
  accessFlags := 49
  interfaces := #[]
  cf := some (fileOf pool1 8 #[] #[{ accessFlags := 1, nameIndex := 5, descriptorIndex := 6, attributes := #[] }, { accessFlags := 9, nameIndex := 53, descriptorIndex := 54, attributes := #[] }, { accessFlags := 10, nameIndex := 11, descriptorIndex := 12, attributes := #[] }, { accessFlags := 10, nameIndex := 19, descriptorIndex := 20, attributes := #[] }, { accessFlags := 10, nameIndex := 23, descriptorIndex := 24, attributes := #[] }, { accessFlags := 10, nameIndex := 38, descriptorIndex := 39, attributes := #[] }] 49 2 #[] #[])
  fields := #[]
  methods := #[k1m0, k1m1, k1m2, k1m3, k1m4, k1m5]
  instanceTypes := #[]
  staticTypes := #[]
  resolved := Array.replicate 58 none
  statics := none }

def pool2 : Array CpInfo := pool [(1, .class_ 2), (0, u "java/io/Serializable"), (0, .class_ 4), (0, u "java/lang/Object")] 2

/-- java/io/Serializable -/
def k2 : Class := { plain "java/io/Serializable" (some 0) with
  accessFlags := 1537
  interfaces := #[]
  cf := some (fileOf pool2 1 #[] #[] 1537 3 #[] #[])
  fields := #[]
  methods := #[]
  instanceTypes := #[]
  staticTypes := #[]
  resolved := Array.replicate 7 none
  statics := none }

def pool3 : Array CpInfo := pool [(1, .class_ 2), (0, u "java/lang/Comparable"), (0, .class_ 4), (0, u "java/lang/Object")] 7

/-- java/lang/Comparable -/
def k3 : Class := { plain "java/lang/Comparable" (some 0) with
  accessFlags := 1537
  interfaces := #[]
  cf := some (fileOf pool3 1 #[] #[] 1537 3 #[] #[])
  fields := #[]
  methods := #[]
  instanceTypes := #[]
  staticTypes := #[]
  resolved := Array.replicate 12 none
  statics := none }

def pool4 : Array CpInfo := pool [(2, .class_ 4), (1, u "java/lang/CharSequence"), (0, u "length"), (0, u "()I"), (38, u "charAt"), (0, u "(I)C"), (0, .class_ 48), (0, u "java/lang/CharSequence$1CodePointIterator"), (10, .class_ 60), (0, u "java/lang/CharSequence$1CharIterator"), (5, .class_ 67), (0, u "java/lang/Object")] 63

def k4m0 : Method := { name := "length", desc := "()I", sig := { parameters := [], returnType := some .int }, accessFlags := 1025, code := none }
def k4m1 : Method := { name := "charAt", desc := "(I)C", sig := { parameters := [.int], returnType := some .char }, accessFlags := 1025, code := none }
/-- java/lang/CharSequence -/
def k4 : Class := { plain "java/lang/CharSequence" (some 0) with
  accessFlags := 1537
  interfaces := #[]
  cf := some (fileOf pool4 2 #[.nestMembers #[47, 59]] #[{ accessFlags := 1025, nameIndex := 5, descriptorIndex := 6, attributes := #[] }, { accessFlags := 1025, nameIndex := 45, descriptorIndex := 46, attributes := #[] }] 1537 66 #[] #[])
  fields := #[]
  methods := #[k4m0, k4m1]
  instanceTypes := #[]
  staticTypes := #[]
  resolved := Array.replicate 131 none
  statics := none }

def pool5 : Array CpInfo := pool [(1, .class_ 2), (0, u "java/lang/constant/Constable"), (0, .class_ 4), (0, u "java/lang/Object")] 6

/-- java/lang/constant/Constable -/
def k5 : Class := { plain "java/lang/constant/Constable" (some 0) with
  accessFlags := 1537
  interfaces := #[]
  cf := some (fileOf pool5 1 #[] #[] 1537 3 #[] #[])
  fields := #[]
  methods := #[]
  instanceTypes := #[]
  staticTypes := #[]
  resolved := Array.replicate 11 none
  statics := none }

def pool6 : Array CpInfo := pool [(1, .class_ 2), (0, u "java/lang/constant/ConstantDesc"), (0, .class_ 4), (0, u "java/lang/Object")] 32

/-- java/lang/constant/ConstantDesc -/
def k6 : Class := { plain "java/lang/constant/ConstantDesc" (some 0) with
  accessFlags := 1537
  interfaces := #[]
  cf := some (fileOf pool6 1 #[] #[] 1537 3 #[] #[])
  fields := #[]
  methods := #[]
  instanceTypes := #[]
  staticTypes := #[]
  resolved := Array.replicate 37 none
  statics := none }

def pool7 : Array CpInfo := pool [(1, .methodref 2 3), (0, .class_ 4), (0, .nameAndType 5 6), (0, u "java/lang/Object"), (0, u "<init>"), (0, u "()V"), (2, .fieldref 10 11), (0, .class_ 12), (0, .nameAndType 13 14), (0, u "java/lang/String"), (0, u "value"), (0, u "[B"), (0, .fieldref 10 16), (0, .nameAndType 17 18), (0, u "coder"), (0, u "B"), (2, u "hash"), (0, u "I"), (2, u "hashIsZero"), (0, u "Z"), (0, .methodref 10 28), (0, .nameAndType 5 29), (0, u "([CIILjava/lang/Void;)V"), (8, .fieldref 10 39), (0, .nameAndType 40 26), (0, u "COMPACT_STRINGS"), (1, .class_ 44), (1, u "java/lang/StringUTF16"), (0, u "compress"), (1, .methodref 42 48), (0, .nameAndType 49 50), (0, u "coderFromArrayLen"), (0, u "([BI)B"), (2, u "toBytes"), (53, .class_ 109), (1, u "java/lang/StringLatin1"), (32, u "()Z"), (34, .methodref 42 178), (0, .nameAndType 45 179), (0, u "([CII)[B"), (29, .methodref 10 210), (0, .nameAndType 5 211), (0, u "([BB)V"), (122, u "()I"), (0, .methodref 10 336), (0, .nameAndType 17 337), (0, u "()B"), (25, u "([BI)C"), (5, u "(C)Z"), (21, u "(II)V"), (35, u "(I)C"), (64, .methodref 10 493), (0, .nameAndType 494 142), (0, u "isLatin1"), (0, .methodref 107 496), (0, .nameAndType 497 363), (0, u "charAt"), (3, u "checkIndex"), (5, u "length"), (67, .class_ 576), (0, u "java/lang/CharSequence"), (22, u "CASE_INSENSITIVE_ORDER"), (0, u "Ljava/util/Comparator;"), (181, u "valueOf"), (0, u "(C)Ljava/lang/String;"), (226, u "([C)V"), (4, .methodref 107 1016), (0, .nameAndType 1017 369), (0, u "canEncode"), (0, .methodref 107 1019), (0, .nameAndType 53 1020), (0, u "(C)[B"), (32, .fieldref 1054 1055), (0, .class_ 1056), (0, .nameAndType 1057 1058), (0, u "jdk/internal/util/Preconditions"), (0, u "SIOOBE_FORMATTER"), (0, u "Ljava/util/function/BiFunction;"), (0, .methodref 1054 1060), (0, .nameAndType 501 1061), (0, u "(IILjava/util/function/BiFunction;)I"), (39, u "serialPersistentFields"), (0, u "[Ljava/io/ObjectStreamField;"), (0, .class_ 1104), (0, u "java/lang/String$CaseInsensitiveComparator"), (1, .class_ 1107), (0, u "java/io/Serializable"), (0, .class_ 1109), (0, u "java/lang/Comparable"), (0, .class_ 1111), (0, u "java/lang/constant/Constable"), (0, .class_ 1113), (0, u "java/lang/constant/ConstantDesc"), (2, u "serialVersionUID"), (0, u "J"), (3, u "REPL"), (0, u "C"), (2, u "LATIN1"), (1, u "UTF16")] 323

def k7m0 : Method := { name := "<init>", desc := "()V", sig := { parameters := [], returnType := none }, accessFlags := 1, code := none }
def k7c1 : Code := { maxStack := 5, maxLocals := 2, code := jdk_42_method_3_code, exceptionTable := #[], attributes := #[] }
def k7m1 : Method := { name := "<init>", desc := "([C)V", sig := { parameters := [(.array .char)], returnType := none }, accessFlags := 1, code := some k7c1 }
def k7c2 : Code := { maxStack := 2, maxLocals := 1, code := jdk_42_method_54_code, exceptionTable := #[], attributes := #[] }
def k7m2 : Method := { name := "length", desc := "()I", sig := { parameters := [], returnType := some .int }, accessFlags := 1, code := some k7c2 }
def k7c3 : Code := { maxStack := 2, maxLocals := 2, code := jdk_42_method_56_code, exceptionTable := #[], attributes := #[] }
def k7m3 : Method := { name := "charAt", desc := "(I)C", sig := { parameters := [.int], returnType := some .char }, accessFlags := 1, code := some k7c3 }
def k7c4 : Code := { maxStack := 4, maxLocals := 1, code := jdk_42_method_139_code, exceptionTable := #[], attributes := #[] }
def k7m4 : Method := { name := "valueOf", desc := "(C)Ljava/lang/String;", sig := { parameters := [.char], returnType := some (.object "java/lang/String") }, accessFlags := 9, code := some k7c4 }
def k7c5 : Code := { maxStack := 4, maxLocals := 6, code := jdk_42_method_149_code, exceptionTable := #[], attributes := #[] }
def k7m5 : Method := { name := "<init>", desc := "([CIILjava/lang/Void;)V", sig := { parameters := [(.array .char), .int, .int, (.object "java/lang/Void")], returnType := none }, accessFlags := 2, code := some k7c5 }
def k7c6 : Code := { maxStack := 2, maxLocals := 3, code := jdk_42_method_151_code, exceptionTable := #[], attributes := #[] }
def k7m6 : Method := { name := "<init>", desc := "([BB)V", sig := { parameters := [(.array .byte), .byte], returnType := none }, accessFlags := 0, code := some k7c6 }
def k7c7 : Code := { maxStack := 1, maxLocals := 1, code := jdk_42_method_152_code, exceptionTable := #[], attributes := #[] }
def k7m7 : Method := { name := "coder", desc := "()B", sig := { parameters := [], returnType := some .byte }, accessFlags := 0, code := some k7c7 }
def k7c8 : Code := { maxStack := 1, maxLocals := 1, code := jdk_42_method_154_code, exceptionTable := #[], attributes := #[] }
def k7m8 : Method := { name := "isLatin1", desc := "()Z", sig := { parameters := [], returnType := some .boolean }, accessFlags := 0, code := some k7c8 }
def k7c9 : Code := { maxStack := 3, maxLocals := 2, code := jdk_42_method_155_code, exceptionTable := #[], attributes := #[] }
def k7m9 : Method := { name := "checkIndex", desc := "(II)V", sig := { parameters := [.int, .int], returnType := none }, accessFlags := 8, code := some k7c9 }
/-- java/lang/String -/
def k7 : Class := { plain "java/lang/String" (some 0) with
  accessFlags := 49
  interfaces := #[2, 3, 4, 5, 6]
  cf := some (fileOf pool7 10 #[.nestMembers #[1103]] #[{ accessFlags := 1, nameIndex := 5, descriptorIndex := 6, attributes := #[] }, { accessFlags := 1, nameIndex := 5, descriptorIndex := 1010, attributes := #[] }, { accessFlags := 1, nameIndex := 507, descriptorIndex := 334, attributes := #[] }, { accessFlags := 1, nameIndex := 497, descriptorIndex := 427, attributes := #[] }, { accessFlags := 9, nameIndex := 782, descriptorIndex := 783, attributes := #[] }, { accessFlags := 2, nameIndex := 5, descriptorIndex := 29, attributes := #[] }, { accessFlags := 0, nameIndex := 5, descriptorIndex := 211, attributes := #[] }, { accessFlags := 0, nameIndex := 17, descriptorIndex := 337, attributes := #[] }, { accessFlags := 0, nameIndex := 494, descriptorIndex := 142, attributes := #[] }, { accessFlags := 8, nameIndex := 501, descriptorIndex := 391, attributes := #[] }] 49 2 #[1106, 1108, 575, 1110, 1112] #[{ accessFlags := 18, nameIndex := 13, descriptorIndex := 14, attributes := #[] }, { accessFlags := 18, nameIndex := 17, descriptorIndex := 18, attributes := #[] }, { accessFlags := 2, nameIndex := 21, descriptorIndex := 22, attributes := #[] }, { accessFlags := 2, nameIndex := 25, descriptorIndex := 26, attributes := #[] }, { accessFlags := 26, nameIndex := 1116, descriptorIndex := 1117, attributes := #[] }, { accessFlags := 24, nameIndex := 40, descriptorIndex := 26, attributes := #[] }, { accessFlags := 26, nameIndex := 1101, descriptorIndex := 1102, attributes := #[] }, { accessFlags := 26, nameIndex := 1121, descriptorIndex := 1122, attributes := #[] }, { accessFlags := 25, nameIndex := 599, descriptorIndex := 600, attributes := #[] }, { accessFlags := 24, nameIndex := 1125, descriptorIndex := 18, attributes := #[] }, { accessFlags := 24, nameIndex := 1127, descriptorIndex := 18, attributes := #[] }])
  fields := #[{ name := "value", type := (.array .byte), accessFlags := 18, slot := 0, constantValue := 0 }, { name := "coder", type := .byte, accessFlags := 18, slot := 1, constantValue := 0 }, { name := "hash", type := .int, accessFlags := 2, slot := 2, constantValue := 0 }, { name := "hashIsZero", type := .boolean, accessFlags := 2, slot := 3, constantValue := 0 }, { name := "serialVersionUID", type := .long, accessFlags := 26, slot := 0, constantValue := 0 }, { name := "COMPACT_STRINGS", type := .boolean, accessFlags := 24, slot := 1, constantValue := 0 }, { name := "serialPersistentFields", type := (.array (.object "java/io/ObjectStreamField")), accessFlags := 26, slot := 2, constantValue := 0 }, { name := "REPL", type := .char, accessFlags := 26, slot := 3, constantValue := 0 }, { name := "CASE_INSENSITIVE_ORDER", type := (.object "java/util/Comparator"), accessFlags := 25, slot := 4, constantValue := 0 }, { name := "LATIN1", type := .byte, accessFlags := 24, slot := 5, constantValue := 0 }, { name := "UTF16", type := .byte, accessFlags := 24, slot := 6, constantValue := 0 }]
  methods := #[k7m0, k7m1, k7m2, k7m3, k7m4, k7m5, k7m6, k7m7, k7m8, k7m9]
  instanceTypes := #[(.array .byte), .byte, .int, .boolean]
  staticTypes := #[.long, .boolean, (.array (.object "java/io/ObjectStreamField")), .char, (.object "java/util/Comparator"), .byte, .byte]
  resolved := Array.replicate 1451 none
  statics := some 0 }

def pool8 : Array CpInfo := pool [(6, .class_ 8), (1, u "java/lang/Object"), (0, u "<init>"), (0, u "()V"), (1, .class_ 14), (1, u "java/lang/StringUTF16"), (31, u "$assertionsDisabled"), (0, u "Z"), (13, u "HI_BYTE_SHIFT"), (0, u "I"), (2, u "LO_BYTE_SHIFT"), (49, .methodref 12 116), (0, .nameAndType 117 118), (0, u "compress"), (0, u "([CI[BII)I"), (3, u "([CII)[B"), (138, u "coderFromArrayLen"), (0, u "([BI)B"), (106, .class_ 371), (1, u "java/lang/StringUTF16$LinesSpliterator"), (58, u "MAX_LENGTH"), (196, .class_ 628), (0, u "java/lang/StringUTF16$CodePointsSpliterator"), (0, .class_ 630), (0, u "java/lang/StringUTF16$CharsSpliterator")] 4

def k8m0 : Method := { name := "<init>", desc := "()V", sig := { parameters := [], returnType := none }, accessFlags := 0, code := none }
def k8c1 : Code := { maxStack := 2, maxLocals := 2, code := jdk_52_method_15_code, exceptionTable := #[], attributes := #[] }
def k8m1 : Method := { name := "coderFromArrayLen", desc := "([BI)B", sig := { parameters := [(.array .byte), .int], returnType := some .byte }, accessFlags := 8, code := some k8c1 }
def k8c2 : Code := { maxStack := 5, maxLocals := 6, code := jdk_52_method_16_code, exceptionTable := #[], attributes := #[] }
def k8m2 : Method := { name := "compress", desc := "([CII)[B", sig := { parameters := [(.array .char), .int, .int], returnType := some (.array .byte) }, accessFlags := 9, code := some k8c2 }
def k8c3 : Code := { maxStack := 3, maxLocals := 7, code := jdk_52_method_21_code, exceptionTable := #[], attributes := #[] }
def k8m3 : Method := { name := "compress", desc := "([CI[BII)I", sig := { parameters := [(.array .char), .int, (.array .byte), .int, .int], returnType := some .int }, accessFlags := 9, code := some k8c3 }
/-- java/lang/StringUTF16 -/
def k8 : Class := { plain "java/lang/StringUTF16" (some 0) with
  accessFlags := 48
  interfaces := #[]
  cf := some (fileOf pool8 12 #[.nestMembers #[627, 629, 369]] #[{ accessFlags := 0, nameIndex := 9, descriptorIndex := 10, attributes := #[] }, { accessFlags := 8, nameIndex := 261, descriptorIndex := 262, attributes := #[] }, { accessFlags := 9, nameIndex := 117, descriptorIndex := 122, attributes := #[] }, { accessFlags := 9, nameIndex := 117, descriptorIndex := 118, attributes := #[] }] 48 6 #[] #[{ accessFlags := 26, nameIndex := 61, descriptorIndex := 62, attributes := #[] }, { accessFlags := 26, nameIndex := 65, descriptorIndex := 62, attributes := #[] }, { accessFlags := 24, nameIndex := 430, descriptorIndex := 62, attributes := #[] }, { accessFlags := 4120, nameIndex := 46, descriptorIndex := 47, attributes := #[] }])
  fields := #[{ name := "HI_BYTE_SHIFT", type := .int, accessFlags := 26, slot := 0, constantValue := 0 }, { name := "LO_BYTE_SHIFT", type := .int, accessFlags := 26, slot := 1, constantValue := 0 }, { name := "MAX_LENGTH", type := .int, accessFlags := 24, slot := 2, constantValue := 0 }, { name := "$assertionsDisabled", type := .boolean, accessFlags := 4120, slot := 3, constantValue := 0 }]
  methods := #[k8m0, k8m1, k8m2, k8m3]
  instanceTypes := #[]
  staticTypes := #[.int, .int, .int, .boolean]
  resolved := Array.replicate 635 none
  statics := none }

def pool9 : Array CpInfo := pool [(1, .methodref 2 3), (0, .class_ 4), (0, .nameAndType 5 6), (0, u "java/lang/Object"), (0, u "<init>"), (0, u "()V"), (0, .fieldref 8 9), (0, .class_ 10), (0, .nameAndType 11 12), (0, u "com/example/reed/reed/engine/Integrality"), (0, u "significand"), (0, u "Lcom/example/reed/reed/engine/Digits;"), (0, .fieldref 8 14), (0, .nameAndType 15 12), (0, u "exponentDigits"), (5, .fieldref 8 22), (0, .nameAndType 23 24), (0, u "inFraction"), (0, u "Z"), (0, .fieldref 8 26), (0, .nameAndType 27 24), (0, u "inExponent"), (0, .fieldref 8 29), (0, .nameAndType 30 24), (0, u "negative"), (0, .fieldref 8 32), (0, .nameAndType 33 24), (0, u "negativeExponent"), (0, .fieldref 8 35), (0, .nameAndType 36 24), (0, u "nonZero"), (0, .fieldref 8 38), (0, .nameAndType 39 40), (0, u "trailingZeros"), (0, u "J"), (0, .fieldref 8 42), (0, .nameAndType 43 40), (0, u "fractionDigits"), (0, .fieldref 8 45), (0, .nameAndType 46 40), (0, u "exponent"), (3, .interfaceMethodref 51 52), (0, .class_ 53), (0, .nameAndType 54 55), (0, u "java/lang/CharSequence"), (0, u "length"), (0, u "()I"), (0, .interfaceMethodref 51 57), (0, .nameAndType 58 59), (0, u "charAt"), (0, u "(I)C"), (0, .long 115292150460684697), (1, .long 10), (1, .long 1152921504606846976), (3, u "add"), (6, u "isInteger"), (0, u "()Z"), (15, u "TENS"), (0, u "[J"), (28, u "EXPONENT_CAP"), (4, u "(Ljava/lang/CharSequence;)V")] 5

def k9c0 : Code := { maxStack := 2, maxLocals := 1, code := prog_64_method_1_code, exceptionTable := #[], attributes := #[] }
def k9m0 : Method := { name := "<init>", desc := "()V", sig := { parameters := [], returnType := none }, accessFlags := 1, code := some k9c0 }
def k9c1 : Code := { maxStack := 5, maxLocals := 4, code := prog_64_method_4_code, exceptionTable := #[], attributes := #[] }
def k9m1 : Method := { name := "add", desc := "(Ljava/lang/CharSequence;)V", sig := { parameters := [(.object "java/lang/CharSequence")], returnType := none }, accessFlags := 1, code := some k9c1 }
def k9c2 : Code := { maxStack := 4, maxLocals := 3, code := prog_64_method_5_code, exceptionTable := #[], attributes := #[] }
def k9m2 : Method := { name := "isInteger", desc := "()Z", sig := { parameters := [], returnType := some .boolean }, accessFlags := 1, code := some k9c2 }
/-- com/example/reed/reed/engine/Integrality -/
def k9 : Class := { plain "com/example/reed/reed/engine/Integrality" (some 0) with
  accessFlags := 49
  interfaces := #[]
  cf := some (fileOf pool9 8 #[] #[{ accessFlags := 1, nameIndex := 5, descriptorIndex := 6, attributes := #[] }, { accessFlags := 1, nameIndex := 68, descriptorIndex := 127, attributes := #[] }, { accessFlags := 1, nameIndex := 75, descriptorIndex := 76, attributes := #[] }] 49 2 #[] #[{ accessFlags := 26, nameIndex := 122, descriptorIndex := 40, attributes := #[] }, { accessFlags := 26, nameIndex := 92, descriptorIndex := 93, attributes := #[] }, { accessFlags := 2, nameIndex := 23, descriptorIndex := 24, attributes := #[] }, { accessFlags := 2, nameIndex := 27, descriptorIndex := 24, attributes := #[] }, { accessFlags := 2, nameIndex := 30, descriptorIndex := 24, attributes := #[] }, { accessFlags := 2, nameIndex := 33, descriptorIndex := 24, attributes := #[] }, { accessFlags := 2, nameIndex := 36, descriptorIndex := 24, attributes := #[] }, { accessFlags := 2, nameIndex := 39, descriptorIndex := 40, attributes := #[] }, { accessFlags := 2, nameIndex := 43, descriptorIndex := 40, attributes := #[] }, { accessFlags := 2, nameIndex := 46, descriptorIndex := 40, attributes := #[] }, { accessFlags := 18, nameIndex := 11, descriptorIndex := 12, attributes := #[] }, { accessFlags := 18, nameIndex := 15, descriptorIndex := 12, attributes := #[] }])
  fields := #[{ name := "EXPONENT_CAP", type := .long, accessFlags := 26, slot := 0, constantValue := 0 }, { name := "TENS", type := (.array .long), accessFlags := 26, slot := 1, constantValue := 0 }, { name := "inFraction", type := .boolean, accessFlags := 2, slot := 0, constantValue := 0 }, { name := "inExponent", type := .boolean, accessFlags := 2, slot := 1, constantValue := 0 }, { name := "negative", type := .boolean, accessFlags := 2, slot := 2, constantValue := 0 }, { name := "negativeExponent", type := .boolean, accessFlags := 2, slot := 3, constantValue := 0 }, { name := "nonZero", type := .boolean, accessFlags := 2, slot := 4, constantValue := 0 }, { name := "trailingZeros", type := .long, accessFlags := 2, slot := 5, constantValue := 0 }, { name := "fractionDigits", type := .long, accessFlags := 2, slot := 6, constantValue := 0 }, { name := "exponent", type := .long, accessFlags := 2, slot := 7, constantValue := 0 }, { name := "significand", type := (.object "com/example/reed/reed/engine/Digits"), accessFlags := 18, slot := 8, constantValue := 0 }, { name := "exponentDigits", type := (.object "com/example/reed/reed/engine/Digits"), accessFlags := 18, slot := 9, constantValue := 0 }]
  methods := #[k9m0, k9m1, k9m2]
  instanceTypes := #[.boolean, .boolean, .boolean, .boolean, .boolean, .long, .long, .long, (.object "com/example/reed/reed/engine/Digits"), (.object "com/example/reed/reed/engine/Digits")]
  staticTypes := #[.long, (.array .long)]
  resolved := Array.replicate 133 none
  statics := none }

def pool10 : Array CpInfo := pool [(1, .class_ 2), (0, u "java/lang/String"), (1, .class_ 6), (1, u "java/lang/Object"), (0, u "<init>"), (0, u "()V"), (0, .methodref 1 10), (0, .nameAndType 11 12), (0, u "checkIndex"), (0, u "(II)V"), (1, .class_ 16), (1, u "java/lang/StringLatin1"), (36, u "([BI)C"), (36, u "canEncode"), (14, u "(C)Z"), (15, u "$assertionsDisabled"), (0, u "Z"), (98, .class_ 223), (1, u "java/lang/StringLatin1$LinesSpliterator"), (28, u "charAt"), (127, u "toBytes"), (1, u "(C)[B"), (7, .class_ 391), (0, u "java/lang/StringLatin1$CharsSpliterator")] 3

def k10m0 : Method := { name := "<init>", desc := "()V", sig := { parameters := [], returnType := none }, accessFlags := 0, code := none }
def k10c1 : Code := { maxStack := 2, maxLocals := 2, code := jdk_43_method_2_code, exceptionTable := #[], attributes := #[] }
def k10m1 : Method := { name := "charAt", desc := "([BI)C", sig := { parameters := [(.array .byte), .int], returnType := some .char }, accessFlags := 9, code := some k10c1 }
def k10c2 : Code := { maxStack := 2, maxLocals := 1, code := jdk_43_method_3_code, exceptionTable := #[], attributes := #[] }
def k10m2 : Method := { name := "canEncode", desc := "(C)Z", sig := { parameters := [.char], returnType := some .boolean }, accessFlags := 9, code := some k10c2 }
def k10c3 : Code := { maxStack := 4, maxLocals := 1, code := jdk_43_method_46_code, exceptionTable := #[], attributes := #[] }
def k10m3 : Method := { name := "toBytes", desc := "(C)[B", sig := { parameters := [.char], returnType := some (.array .byte) }, accessFlags := 9, code := some k10c3 }
/-- java/lang/StringLatin1 -/
def k10 : Class := { plain "java/lang/StringLatin1" (some 0) with
  accessFlags := 48
  interfaces := #[]
  cf := some (fileOf pool10 14 #[.nestMembers #[390, 221]] #[{ accessFlags := 0, nameIndex := 7, descriptorIndex := 8, attributes := #[] }, { accessFlags := 9, nameIndex := 252, descriptorIndex := 53, attributes := #[] }, { accessFlags := 9, nameIndex := 90, descriptorIndex := 105, attributes := #[] }, { accessFlags := 9, nameIndex := 380, descriptorIndex := 382, attributes := #[] }] 48 4 #[] #[{ accessFlags := 4120, nameIndex := 121, descriptorIndex := 122, attributes := #[] }])
  fields := #[{ name := "$assertionsDisabled", type := .boolean, accessFlags := 4120, slot := 0, constantValue := 0 }]
  methods := #[k10m0, k10m1, k10m2, k10m3]
  instanceTypes := #[]
  staticTypes := #[.boolean]
  resolved := Array.replicate 395 none
  statics := none }

def pool11 : Array CpInfo := pool [(2, .class_ 4), (1, u "java/lang/Object"), (0, u "<init>"), (0, u "()V"), (17, .class_ 26), (1, u "jdk/internal/util/Preconditions"), (6, u "checkIndex"), (21, .class_ 56), (0, u "jdk/internal/util/Preconditions$4"), (57, .class_ 115), (0, u "jdk/internal/util/Preconditions$1"), (7, u "SIOOBE_FORMATTER"), (0, u "Ljava/util/function/BiFunction;"), (0, .class_ 126), (0, u "jdk/internal/util/Preconditions$2"), (3, u "AIOOBE_FORMATTER"), (0, .class_ 132), (0, u "jdk/internal/util/Preconditions$3"), (3, u "IOOBE_FORMATTER"), (41, u "(IILjava/util/function/BiFunction;)I")] 15

def k11m0 : Method := { name := "<init>", desc := "()V", sig := { parameters := [], returnType := none }, accessFlags := 1, code := none }
def k11c1 : Code := { maxStack := 3, maxLocals := 3, code := jdk_41_method_11_code, exceptionTable := #[], attributes := #[] }
def k11m1 : Method := { name := "checkIndex", desc := "(IILjava/util/function/BiFunction;)I", sig := { parameters := [.int, .int, (.object "java/util/function/BiFunction")], returnType := some .int }, accessFlags := 9, code := some k11c1 }
/-- jdk/internal/util/Preconditions -/
def k11 : Class := { plain "jdk/internal/util/Preconditions" (some 0) with
  accessFlags := 33
  interfaces := #[]
  cf := some (fileOf pool11 24 #[.nestMembers #[55, 131, 125, 114]] #[{ accessFlags := 1, nameIndex := 5, descriptorIndex := 6, attributes := #[] }, { accessFlags := 9, nameIndex := 33, descriptorIndex := 178, attributes := #[] }] 33 2 #[] #[{ accessFlags := 25, nameIndex := 123, descriptorIndex := 124, attributes := #[] }, { accessFlags := 25, nameIndex := 130, descriptorIndex := 124, attributes := #[] }, { accessFlags := 25, nameIndex := 136, descriptorIndex := 124, attributes := #[] }])
  fields := #[{ name := "SIOOBE_FORMATTER", type := (.object "java/util/function/BiFunction"), accessFlags := 25, slot := 0, constantValue := 0 }, { name := "AIOOBE_FORMATTER", type := (.object "java/util/function/BiFunction"), accessFlags := 25, slot := 1, constantValue := 0 }, { name := "IOOBE_FORMATTER", type := (.object "java/util/function/BiFunction"), accessFlags := 25, slot := 2, constantValue := 0 }]
  methods := #[k11m0, k11m1]
  instanceTypes := #[]
  staticTypes := #[(.object "java/util/function/BiFunction"), (.object "java/util/function/BiFunction"), (.object "java/util/function/BiFunction")]
  resolved := Array.replicate 194 none
  statics := some 1 }

def pool12 : Array CpInfo := pool [(9, u "<init>"), (6, .class_ 18), (1, u "java/lang/Object"), (0, u "()V"), (1, .class_ 23), (1, u "jdk/internal/util/ArraysSupport"), (0, u "LOG2_ARRAY_LONG_INDEX_SCALE"), (0, u "I"), (2, u "U"), (0, u "Ljdk/internal/misc/Unsafe;"), (8, u "BIG_ENDIAN"), (0, u "Z"), (8, u "LOG2_BYTE_BIT_SIZE"), (4, u "LOG2_ARRAY_INT_INDEX_SCALE"), (54, u "JLA"), (0, u "Ljdk/internal/access/JavaLangAccess;"), (11, u "LOG2_ARRAY_BOOLEAN_INDEX_SCALE"), (9, u "LOG2_ARRAY_BYTE_INDEX_SCALE"), (5, u "LOG2_ARRAY_CHAR_INDEX_SCALE"), (5, u "LOG2_ARRAY_SHORT_INDEX_SCALE"), (18, u "LOG2_ARRAY_FLOAT_INDEX_SCALE"), (24, u "LOG2_ARRAY_DOUBLE_INDEX_SCALE"), (89, u "T_BOOLEAN"), (2, u "T_CHAR"), (1, u "T_FLOAT"), (1, u "T_DOUBLE"), (1, u "T_BYTE"), (1, u "T_SHORT"), (1, u "T_INT"), (1, u "T_LONG"), (1, u "SOFT_MAX_ARRAY_LENGTH")] 83

def k12m0 : Method := { name := "<init>", desc := "()V", sig := { parameters := [], returnType := none }, accessFlags := 2, code := none }
/-- jdk/internal/util/ArraysSupport -/
def k12 : Class := { plain "jdk/internal/util/ArraysSupport" (some 0) with
  accessFlags := 33
  interfaces := #[]
  cf := some (fileOf pool12 21 #[] #[{ accessFlags := 2, nameIndex := 9, descriptorIndex := 19, attributes := #[] }] 33 16 #[] #[{ accessFlags := 24, nameIndex := 28, descriptorIndex := 29, attributes := #[] }, { accessFlags := 26, nameIndex := 38, descriptorIndex := 39, attributes := #[] }, { accessFlags := 25, nameIndex := 121, descriptorIndex := 25, attributes := #[] }, { accessFlags := 25, nameIndex := 131, descriptorIndex := 25, attributes := #[] }, { accessFlags := 25, nameIndex := 137, descriptorIndex := 25, attributes := #[] }, { accessFlags := 25, nameIndex := 143, descriptorIndex := 25, attributes := #[] }, { accessFlags := 25, nameIndex := 53, descriptorIndex := 25, attributes := #[] }, { accessFlags := 25, nameIndex := 24, descriptorIndex := 25, attributes := #[] }, { accessFlags := 25, nameIndex := 162, descriptorIndex := 25, attributes := #[] }, { accessFlags := 25, nameIndex := 187, descriptorIndex := 25, attributes := #[] }, { accessFlags := 26, nameIndex := 48, descriptorIndex := 25, attributes := #[] }, { accessFlags := 25, nameIndex := 277, descriptorIndex := 25, attributes := #[] }, { accessFlags := 25, nameIndex := 280, descriptorIndex := 25, attributes := #[] }, { accessFlags := 25, nameIndex := 282, descriptorIndex := 25, attributes := #[] }, { accessFlags := 25, nameIndex := 284, descriptorIndex := 25, attributes := #[] }, { accessFlags := 25, nameIndex := 286, descriptorIndex := 25, attributes := #[] }, { accessFlags := 25, nameIndex := 288, descriptorIndex := 25, attributes := #[] }, { accessFlags := 25, nameIndex := 290, descriptorIndex := 25, attributes := #[] }, { accessFlags := 25, nameIndex := 292, descriptorIndex := 25, attributes := #[] }, { accessFlags := 26, nameIndex := 108, descriptorIndex := 109, attributes := #[] }, { accessFlags := 25, nameIndex := 294, descriptorIndex := 25, attributes := #[] }])
  fields := #[{ name := "U", type := (.object "jdk/internal/misc/Unsafe"), accessFlags := 24, slot := 0, constantValue := 0 }, { name := "BIG_ENDIAN", type := .boolean, accessFlags := 26, slot := 1, constantValue := 0 }, { name := "LOG2_ARRAY_BOOLEAN_INDEX_SCALE", type := .int, accessFlags := 25, slot := 2, constantValue := 0 }, { name := "LOG2_ARRAY_BYTE_INDEX_SCALE", type := .int, accessFlags := 25, slot := 3, constantValue := 0 }, { name := "LOG2_ARRAY_CHAR_INDEX_SCALE", type := .int, accessFlags := 25, slot := 4, constantValue := 0 }, { name := "LOG2_ARRAY_SHORT_INDEX_SCALE", type := .int, accessFlags := 25, slot := 5, constantValue := 0 }, { name := "LOG2_ARRAY_INT_INDEX_SCALE", type := .int, accessFlags := 25, slot := 6, constantValue := 0 }, { name := "LOG2_ARRAY_LONG_INDEX_SCALE", type := .int, accessFlags := 25, slot := 7, constantValue := 0 }, { name := "LOG2_ARRAY_FLOAT_INDEX_SCALE", type := .int, accessFlags := 25, slot := 8, constantValue := 0 }, { name := "LOG2_ARRAY_DOUBLE_INDEX_SCALE", type := .int, accessFlags := 25, slot := 9, constantValue := 0 }, { name := "LOG2_BYTE_BIT_SIZE", type := .int, accessFlags := 26, slot := 10, constantValue := 0 }, { name := "T_BOOLEAN", type := .int, accessFlags := 25, slot := 11, constantValue := 0 }, { name := "T_CHAR", type := .int, accessFlags := 25, slot := 12, constantValue := 0 }, { name := "T_FLOAT", type := .int, accessFlags := 25, slot := 13, constantValue := 0 }, { name := "T_DOUBLE", type := .int, accessFlags := 25, slot := 14, constantValue := 0 }, { name := "T_BYTE", type := .int, accessFlags := 25, slot := 15, constantValue := 0 }, { name := "T_SHORT", type := .int, accessFlags := 25, slot := 16, constantValue := 0 }, { name := "T_INT", type := .int, accessFlags := 25, slot := 17, constantValue := 0 }, { name := "T_LONG", type := .int, accessFlags := 25, slot := 18, constantValue := 0 }, { name := "JLA", type := (.object "jdk/internal/access/JavaLangAccess"), accessFlags := 26, slot := 19, constantValue := 0 }, { name := "SOFT_MAX_ARRAY_LENGTH", type := .int, accessFlags := 25, slot := 20, constantValue := 0 }]
  methods := #[k12m0]
  instanceTypes := #[]
  staticTypes := #[(.object "jdk/internal/misc/Unsafe"), .boolean, .int, .int, .int, .int, .int, .int, .int, .int, .int, .int, .int, .int, .int, .int, .int, .int, .int, (.object "jdk/internal/access/JavaLangAccess"), .int]
  resolved := Array.replicate 378 none
  statics := none }

def pool13 : Array CpInfo := pool [(1, u "java/lang/Cloneable"), (0, .class_ 1), (0, u "java/lang/Object"), (0, .class_ 3)] 3

/-- java/lang/Cloneable -/
def k13 : Class := { plain "java/lang/Cloneable" (some 0) with
  accessFlags := 1537
  interfaces := #[]
  cf := some (fileOf pool13 2 #[] #[] 1537 4 #[] #[])
  fields := #[]
  methods := #[]
  instanceTypes := #[]
  staticTypes := #[]
  resolved := Array.replicate 8 none
  statics := none }

/-- the primitive byte -/
def k14 : Class := { plain "byte" none with kind := .primitive 'B', accessFlags := 0x411 }
/-- [B -/
def k15 : Class := { plain "[B" (some 0) with kind := .array 14 .byte, interfaces := #[13, 2], accessFlags := 1041 }

/-- the primitive char -/
def k16 : Class := { plain "char" none with kind := .primitive 'C', accessFlags := 0x411 }
/-- [C -/
def k17 : Class := { plain "[C" (some 0) with kind := .array 16 .char, interfaces := #[13, 2], accessFlags := 1041 }

/-- the primitive int -/
def k18 : Class := { plain "int" none with kind := .primitive 'I', accessFlags := 0x411 }
/-- [I -/
def k19 : Class := { plain "[I" (some 0) with kind := .array 18 .int, interfaces := #[13, 2], accessFlags := 1041 }

def heap : Heap := #[{ cls := 7, slots := #[.long 0, .int 1, .null, .int 0, .null, .int 0, .int 0], vm := .statics 7 },
  { cls := 11, slots := #[.null, .null, .null], vm := .statics 11 }]
def classes : Array Class := #[k0, k1, k2, k3, k4, k5, k6, k7, k8, k9, k10, k11, k12, k13, k14, k15, k16, k17, k18, k19]
def interned : List (Array UInt16 × Addr) := []
def slotsUsed : Nat := 10
def theMethod : MethodId := ⟨1, 1⟩
def args0 : Array Value := #[.int 5, .int 3, .int 1, .int 0]
def aboutOver (below : List Frame) : State where
  vm := { classes := classes, interned := interned.toArray }
  heap := heap
  slotsUsed := slotsUsed
  threads := #[{ frames := .invoking theMethod args0 :: below }]
def below0 : List Frame := [.native { method := ⟨0, 0⟩, args := #[] }]
def about1 : State := aboutOver below0
def p0 : Program := .bare "" "" ""
def e0 : Env := launch0.env 0 0 0
theorem w_frames : about1.frames = Frame.invoking theMethod args0 :: below0 := rfl
set_option maxRecDepth 65536 in
theorem w_args : argsFit about1.vm theMethod args0 = true := by decide +kernel
set_option maxRecDepth 65536 in
theorem w_heap : heapFits about1 = true := by decide +kernel
set_option maxRecDepth 65536 in
theorem w_runnable : about1.curStatus? = some .runnable := by decide +kernel
set_option maxRecDepth 65536 in
theorem w_alone : about1.alone = true := by decide +kernel
set_option maxRecDepth 65536 in
theorem w_named : about1.methodNamed? x = some theMethod := by decide +kernel
set_option maxRecDepth 65536 in
theorem w_hears : about1.hears theMethod below0 = true := by decide +kernel
set_option maxRecDepth 65536 in
theorem w_ripe : about1.ripe theMethod args0 below0 = true := by decide +kernel
theorem w_running : about1.status = .running := rfl
set_option maxRecDepth 65536 in
theorem w_room : about1.hasRoom e0.platform room_1 = true :=
  launch0.hasRoom_least _ room_1 (by decide +kernel) (by decide +kernel) (by decide +kernel) (by decide +kernel) (by decide +kernel) (by decide +kernel)
theorem allAtoms_all (ts : List Jvm.Cond) (a : Array Jvm.Value) (st : Jvm.State) : (allAtoms ts).before a st = ts.all (fun c => c.before a st) := by
  induction ts with
  | nil => rfl
  | cons c t ih =>
    show (Jvm.Cond.and c (allAtoms t)).before a st = _
    rw [Jvm.Cond.before_and, ih, List.all_cons]
def words1 : List Jvm.Cond := Jvm.Cond.code x code maxLocals ret :: tables_1
/-- a 'code' word, met by the world's own term for the bytes: nothing is compared byte by byte -/
theorem code_word {y : MethodName} {bytes : ByteArray} {mx : Nat} {rt : Option FieldType} {a : Array Value} {s : State} {m : MethodId} {meth : Method} {c : Code} (h1 : s.methodNamed? y = some m) (h2 : s.vm.method? m = some meth) (h3 : meth.code = some c) (h4 : c.code = bytes)
    (h5 : (c.maxLocals == mx && c.exceptionTable.isEmpty && decide (c.maxStack ≤ mostOperands) && decide (meth.sig.returnType = rt) && !meth.locks && decide (parseMethodDescriptor y.desc = some meth.sig)) = true) : (Jvm.Cond.code y bytes mx rt).before a s = true := by
  simp only [Bool.and_eq_true, beq_iff_eq, Bool.not_eq_true', decide_eq_true_eq] at h5
  obtain ⟨⟨⟨⟨⟨g1, g2⟩, g3⟩, g4⟩, g5⟩, g6⟩ := h5
  simp [Cond.before, Cond.holds, Cond.value, h1, h2, h3, h4, g1, g2, g3, g4, g5, g6]
def isCode : Jvm.Cond → Bool
  | .code _ _ _ _ => true
  | _ => false
theorem all_split {L : List Jvm.Cond} {P : Jvm.Cond → Bool} (h1 : L.all (fun c => isCode c || P c) = true) (h2 : ∀ c ∈ L.filter isCode, P c = true) : L.all P = true := by
  refine List.all_eq_true.mpr fun c hc => ?_
  have h := List.all_eq_true.mp h1 c hc
  rcases Bool.eq_false_or_eq_true (isCode c) with hi | hi
  · exact h2 c (List.mem_filter.mpr ⟨hc, hi⟩)
  · simpa [hi] using h
set_option maxRecDepth 65536 in
theorem w_c0 : (Jvm.Cond.code x code maxLocals ret).before args0 about1 = true := code_word (m := ⟨1, 1⟩) (meth := k1m1) (c := k1c1) (by decide +kernel) rfl rfl rfl (by decide +kernel)
set_option maxRecDepth 65536 in
theorem w_c1 : (Jvm.Cond.code ({ cls := "com/example/reed/reed/engine/IntegralityIsIntegerPinLaw", name := "digit", desc := "(II)I" } : Jvm.MethodName) method_3_code (2 : Nat) (Option.some Jvm.ClassFile.FieldType.int)).before args0 about1 = true := code_word (m := ⟨1, 2⟩) (meth := k1m2) (c := k1c2) (by decide +kernel) rfl rfl rfl (by decide +kernel)
set_option maxRecDepth 65536 in
theorem w_c2 : (Jvm.Cond.code ({ cls := "com/example/reed/reed/engine/IntegralityIsIntegerPinLaw", name := "ch", desc := "(I)C" } : Jvm.MethodName) method_4_code (1 : Nat) (Option.some Jvm.ClassFile.FieldType.char)).before args0 about1 = true := code_word (m := ⟨1, 3⟩) (meth := k1m3) (c := k1c3) (by decide +kernel) rfl rfl rfl (by decide +kernel)
set_option maxRecDepth 65536 in
theorem w_c3 : (Jvm.Cond.code ({ cls := "com/example/reed/reed/engine/IntegralityIsIntegerPinLaw", name := "text", desc := "(CCCCI)Ljava/lang/String;" } : Jvm.MethodName) method_5_code (5 : Nat) (Option.some (Jvm.ClassFile.FieldType.object "java/lang/String"))).before args0 about1 = true := code_word (m := ⟨1, 4⟩) (meth := k1m4) (c := k1c4) (by decide +kernel) rfl rfl rfl (by decide +kernel)
set_option maxRecDepth 65536 in
theorem w_c4 : (Jvm.Cond.code ({ cls := "java/lang/String", name := "<init>", desc := "([C)V" } : Jvm.MethodName) jdk_42_method_3_code (2 : Nat) (Option.none : Option Jvm.ClassFile.FieldType)).before args0 about1 = true := code_word (m := ⟨7, 1⟩) (meth := k7m1) (c := k7c1) (by decide +kernel) rfl rfl rfl (by decide +kernel)
set_option maxRecDepth 65536 in
theorem w_c5 : (Jvm.Cond.code ({ cls := "java/lang/String", name := "<init>", desc := "([CIILjava/lang/Void;)V" } : Jvm.MethodName) jdk_42_method_149_code (6 : Nat) (Option.none : Option Jvm.ClassFile.FieldType)).before args0 about1 = true := code_word (m := ⟨7, 5⟩) (meth := k7m5) (c := k7c5) (by decide +kernel) rfl rfl rfl (by decide +kernel)
set_option maxRecDepth 65536 in
theorem w_c6 : (Jvm.Cond.code ({ cls := "java/lang/Object", name := "<init>", desc := "()V" } : Jvm.MethodName) object_method_1_code (1 : Nat) (Option.none : Option Jvm.ClassFile.FieldType)).before args0 about1 = true := code_word (m := ⟨0, 0⟩) (meth := k0m0) (c := k0c0) (by decide +kernel) rfl rfl rfl (by decide +kernel)
set_option maxRecDepth 65536 in
theorem w_c7 : (Jvm.Cond.code ({ cls := "java/lang/StringUTF16", name := "compress", desc := "([CII)[B" } : Jvm.MethodName) jdk_52_method_16_code (6 : Nat) (Option.some (Jvm.ClassFile.FieldType.array Jvm.ClassFile.FieldType.byte))).before args0 about1 = true := code_word (m := ⟨8, 2⟩) (meth := k8m2) (c := k8c2) (by decide +kernel) rfl rfl rfl (by decide +kernel)
set_option maxRecDepth 65536 in
theorem w_c8 : (Jvm.Cond.code ({ cls := "java/lang/StringUTF16", name := "compress", desc := "([CI[BII)I" } : Jvm.MethodName) jdk_52_method_21_code (7 : Nat) (Option.some Jvm.ClassFile.FieldType.int)).before args0 about1 = true := code_word (m := ⟨8, 3⟩) (meth := k8m3) (c := k8c3) (by decide +kernel) rfl rfl rfl (by decide +kernel)
set_option maxRecDepth 65536 in
theorem w_c9 : (Jvm.Cond.code ({ cls := "java/lang/StringUTF16", name := "coderFromArrayLen", desc := "([BI)B" } : Jvm.MethodName) jdk_52_method_15_code (2 : Nat) (Option.some Jvm.ClassFile.FieldType.byte)).before args0 about1 = true := code_word (m := ⟨8, 1⟩) (meth := k8m1) (c := k8c1) (by decide +kernel) rfl rfl rfl (by decide +kernel)
set_option maxRecDepth 65536 in
theorem w_c10 : (Jvm.Cond.code ({ cls := "com/example/reed/reed/engine/Integrality", name := "<init>", desc := "()V" } : Jvm.MethodName) prog_64_method_1_code (1 : Nat) (Option.none : Option Jvm.ClassFile.FieldType)).before args0 about1 = true := code_word (m := ⟨9, 0⟩) (meth := k9m0) (c := k9c0) (by decide +kernel) rfl rfl rfl (by decide +kernel)
set_option maxRecDepth 65536 in
theorem w_c11 : (Jvm.Cond.code ({ cls := "com/example/reed/reed/engine/Integrality", name := "add", desc := "(Ljava/lang/CharSequence;)V" } : Jvm.MethodName) prog_64_method_4_code (4 : Nat) (Option.none : Option Jvm.ClassFile.FieldType)).before args0 about1 = true := code_word (m := ⟨9, 1⟩) (meth := k9m1) (c := k9c1) (by decide +kernel) rfl rfl rfl (by decide +kernel)
set_option maxRecDepth 65536 in
theorem w_c12 : (Jvm.Cond.code ({ cls := "java/lang/String", name := "length", desc := "()I" } : Jvm.MethodName) jdk_42_method_54_code (1 : Nat) (Option.some Jvm.ClassFile.FieldType.int)).before args0 about1 = true := code_word (m := ⟨7, 2⟩) (meth := k7m2) (c := k7c2) (by decide +kernel) rfl rfl rfl (by decide +kernel)
set_option maxRecDepth 65536 in
theorem w_c13 : (Jvm.Cond.code ({ cls := "java/lang/String", name := "coder", desc := "()B" } : Jvm.MethodName) jdk_42_method_152_code (1 : Nat) (Option.some Jvm.ClassFile.FieldType.byte)).before args0 about1 = true := code_word (m := ⟨7, 7⟩) (meth := k7m7) (c := k7c7) (by decide +kernel) rfl rfl rfl (by decide +kernel)
set_option maxRecDepth 65536 in
theorem w_c14 : (Jvm.Cond.code ({ cls := "java/lang/String", name := "charAt", desc := "(I)C" } : Jvm.MethodName) jdk_42_method_56_code (2 : Nat) (Option.some Jvm.ClassFile.FieldType.char)).before args0 about1 = true := code_word (m := ⟨7, 3⟩) (meth := k7m3) (c := k7c3) (by decide +kernel) rfl rfl rfl (by decide +kernel)
set_option maxRecDepth 65536 in
theorem w_c15 : (Jvm.Cond.code ({ cls := "java/lang/String", name := "isLatin1", desc := "()Z" } : Jvm.MethodName) jdk_42_method_154_code (1 : Nat) (Option.some Jvm.ClassFile.FieldType.boolean)).before args0 about1 = true := code_word (m := ⟨7, 8⟩) (meth := k7m8) (c := k7c8) (by decide +kernel) rfl rfl rfl (by decide +kernel)
set_option maxRecDepth 65536 in
theorem w_c16 : (Jvm.Cond.code ({ cls := "java/lang/StringLatin1", name := "charAt", desc := "([BI)C" } : Jvm.MethodName) jdk_43_method_2_code (2 : Nat) (Option.some Jvm.ClassFile.FieldType.char)).before args0 about1 = true := code_word (m := ⟨10, 1⟩) (meth := k10m1) (c := k10c1) (by decide +kernel) rfl rfl rfl (by decide +kernel)
set_option maxRecDepth 65536 in
theorem w_c17 : (Jvm.Cond.code ({ cls := "java/lang/String", name := "checkIndex", desc := "(II)V" } : Jvm.MethodName) jdk_42_method_155_code (2 : Nat) (Option.none : Option Jvm.ClassFile.FieldType)).before args0 about1 = true := code_word (m := ⟨7, 9⟩) (meth := k7m9) (c := k7c9) (by decide +kernel) rfl rfl rfl (by decide +kernel)
set_option maxRecDepth 65536 in
theorem w_c18 : (Jvm.Cond.code ({ cls := "jdk/internal/util/Preconditions", name := "checkIndex", desc := "(IILjava/util/function/BiFunction;)I" } : Jvm.MethodName) jdk_41_method_11_code (3 : Nat) (Option.some Jvm.ClassFile.FieldType.int)).before args0 about1 = true := code_word (m := ⟨11, 1⟩) (meth := k11m1) (c := k11c1) (by decide +kernel) rfl rfl rfl (by decide +kernel)
set_option maxRecDepth 65536 in
theorem w_c19 : (Jvm.Cond.code ({ cls := "com/example/reed/reed/engine/Integrality", name := "isInteger", desc := "()Z" } : Jvm.MethodName) prog_64_method_5_code (3 : Nat) (Option.some Jvm.ClassFile.FieldType.boolean)).before args0 about1 = true := code_word (m := ⟨9, 2⟩) (meth := k9m2) (c := k9c2) (by decide +kernel) rfl rfl rfl (by decide +kernel)
set_option maxRecDepth 65536 in
theorem w_c20 : (Jvm.Cond.code ({ cls := "com/example/reed/reed/engine/IntegralityIsIntegerPinLaw", name := "pow10", desc := "(I)I" } : Jvm.MethodName) method_6_code (1 : Nat) (Option.some Jvm.ClassFile.FieldType.int)).before args0 about1 = true := code_word (m := ⟨1, 5⟩) (meth := k1m5) (c := k1c5) (by decide +kernel) rfl rfl rfl (by decide +kernel)
set_option maxRecDepth 65536 in
theorem w_c21 : (Jvm.Cond.code ({ cls := "java/lang/String", name := "valueOf", desc := "(C)Ljava/lang/String;" } : Jvm.MethodName) jdk_42_method_139_code (1 : Nat) (Option.some (Jvm.ClassFile.FieldType.object "java/lang/String"))).before args0 about1 = true := code_word (m := ⟨7, 4⟩) (meth := k7m4) (c := k7c4) (by decide +kernel) rfl rfl rfl (by decide +kernel)
set_option maxRecDepth 65536 in
theorem w_c22 : (Jvm.Cond.code ({ cls := "java/lang/StringLatin1", name := "canEncode", desc := "(C)Z" } : Jvm.MethodName) jdk_43_method_3_code (1 : Nat) (Option.some Jvm.ClassFile.FieldType.boolean)).before args0 about1 = true := code_word (m := ⟨10, 2⟩) (meth := k10m2) (c := k10c2) (by decide +kernel) rfl rfl rfl (by decide +kernel)
set_option maxRecDepth 65536 in
theorem w_c23 : (Jvm.Cond.code ({ cls := "java/lang/StringLatin1", name := "toBytes", desc := "(C)[B" } : Jvm.MethodName) jdk_43_method_46_code (1 : Nat) (Option.some (Jvm.ClassFile.FieldType.array Jvm.ClassFile.FieldType.byte))).before args0 about1 = true := code_word (m := ⟨10, 3⟩) (meth := k10m3) (c := k10c3) (by decide +kernel) rfl rfl rfl (by decide +kernel)
set_option maxRecDepth 65536 in
theorem w_c24 : (Jvm.Cond.code ({ cls := "java/lang/String", name := "<init>", desc := "([BB)V" } : Jvm.MethodName) jdk_42_method_151_code (3 : Nat) (Option.none : Option Jvm.ClassFile.FieldType)).before args0 about1 = true := code_word (m := ⟨7, 6⟩) (meth := k7m6) (c := k7c6) (by decide +kernel) rfl rfl rfl (by decide +kernel)
def codes1 : List Jvm.Cond := [Jvm.Cond.code x code maxLocals ret, Jvm.Cond.code ({ cls := "com/example/reed/reed/engine/IntegralityIsIntegerPinLaw", name := "digit", desc := "(II)I" } : Jvm.MethodName) method_3_code (2 : Nat) (Option.some Jvm.ClassFile.FieldType.int), Jvm.Cond.code ({ cls := "com/example/reed/reed/engine/IntegralityIsIntegerPinLaw", name := "ch", desc := "(I)C" } : Jvm.MethodName) method_4_code (1 : Nat) (Option.some Jvm.ClassFile.FieldType.char), Jvm.Cond.code ({ cls := "com/example/reed/reed/engine/IntegralityIsIntegerPinLaw", name := "text", desc := "(CCCCI)Ljava/lang/String;" } : Jvm.MethodName) method_5_code (5 : Nat) (Option.some (Jvm.ClassFile.FieldType.object "java/lang/String")), Jvm.Cond.code ({ cls := "java/lang/String", name := "<init>", desc := "([C)V" } : Jvm.MethodName) jdk_42_method_3_code (2 : Nat) (Option.none : Option Jvm.ClassFile.FieldType), Jvm.Cond.code ({ cls := "java/lang/String", name := "<init>", desc := "([CIILjava/lang/Void;)V" } : Jvm.MethodName) jdk_42_method_149_code (6 : Nat) (Option.none : Option Jvm.ClassFile.FieldType), Jvm.Cond.code ({ cls := "java/lang/Object", name := "<init>", desc := "()V" } : Jvm.MethodName) object_method_1_code (1 : Nat) (Option.none : Option Jvm.ClassFile.FieldType), Jvm.Cond.code ({ cls := "java/lang/StringUTF16", name := "compress", desc := "([CII)[B" } : Jvm.MethodName) jdk_52_method_16_code (6 : Nat) (Option.some (Jvm.ClassFile.FieldType.array Jvm.ClassFile.FieldType.byte)), Jvm.Cond.code ({ cls := "java/lang/StringUTF16", name := "compress", desc := "([CI[BII)I" } : Jvm.MethodName) jdk_52_method_21_code (7 : Nat) (Option.some Jvm.ClassFile.FieldType.int), Jvm.Cond.code ({ cls := "java/lang/StringUTF16", name := "coderFromArrayLen", desc := "([BI)B" } : Jvm.MethodName) jdk_52_method_15_code (2 : Nat) (Option.some Jvm.ClassFile.FieldType.byte), Jvm.Cond.code ({ cls := "com/example/reed/reed/engine/Integrality", name := "<init>", desc := "()V" } : Jvm.MethodName) prog_64_method_1_code (1 : Nat) (Option.none : Option Jvm.ClassFile.FieldType), Jvm.Cond.code ({ cls := "com/example/reed/reed/engine/Integrality", name := "add", desc := "(Ljava/lang/CharSequence;)V" } : Jvm.MethodName) prog_64_method_4_code (4 : Nat) (Option.none : Option Jvm.ClassFile.FieldType), Jvm.Cond.code ({ cls := "java/lang/String", name := "length", desc := "()I" } : Jvm.MethodName) jdk_42_method_54_code (1 : Nat) (Option.some Jvm.ClassFile.FieldType.int), Jvm.Cond.code ({ cls := "java/lang/String", name := "coder", desc := "()B" } : Jvm.MethodName) jdk_42_method_152_code (1 : Nat) (Option.some Jvm.ClassFile.FieldType.byte), Jvm.Cond.code ({ cls := "java/lang/String", name := "charAt", desc := "(I)C" } : Jvm.MethodName) jdk_42_method_56_code (2 : Nat) (Option.some Jvm.ClassFile.FieldType.char), Jvm.Cond.code ({ cls := "java/lang/String", name := "isLatin1", desc := "()Z" } : Jvm.MethodName) jdk_42_method_154_code (1 : Nat) (Option.some Jvm.ClassFile.FieldType.boolean), Jvm.Cond.code ({ cls := "java/lang/StringLatin1", name := "charAt", desc := "([BI)C" } : Jvm.MethodName) jdk_43_method_2_code (2 : Nat) (Option.some Jvm.ClassFile.FieldType.char), Jvm.Cond.code ({ cls := "java/lang/String", name := "checkIndex", desc := "(II)V" } : Jvm.MethodName) jdk_42_method_155_code (2 : Nat) (Option.none : Option Jvm.ClassFile.FieldType), Jvm.Cond.code ({ cls := "jdk/internal/util/Preconditions", name := "checkIndex", desc := "(IILjava/util/function/BiFunction;)I" } : Jvm.MethodName) jdk_41_method_11_code (3 : Nat) (Option.some Jvm.ClassFile.FieldType.int), Jvm.Cond.code ({ cls := "com/example/reed/reed/engine/Integrality", name := "isInteger", desc := "()Z" } : Jvm.MethodName) prog_64_method_5_code (3 : Nat) (Option.some Jvm.ClassFile.FieldType.boolean), Jvm.Cond.code ({ cls := "com/example/reed/reed/engine/IntegralityIsIntegerPinLaw", name := "pow10", desc := "(I)I" } : Jvm.MethodName) method_6_code (1 : Nat) (Option.some Jvm.ClassFile.FieldType.int), Jvm.Cond.code ({ cls := "java/lang/String", name := "valueOf", desc := "(C)Ljava/lang/String;" } : Jvm.MethodName) jdk_42_method_139_code (1 : Nat) (Option.some (Jvm.ClassFile.FieldType.object "java/lang/String")), Jvm.Cond.code ({ cls := "java/lang/StringLatin1", name := "canEncode", desc := "(C)Z" } : Jvm.MethodName) jdk_43_method_3_code (1 : Nat) (Option.some Jvm.ClassFile.FieldType.boolean), Jvm.Cond.code ({ cls := "java/lang/StringLatin1", name := "toBytes", desc := "(C)[B" } : Jvm.MethodName) jdk_43_method_46_code (1 : Nat) (Option.some (Jvm.ClassFile.FieldType.array Jvm.ClassFile.FieldType.byte)), Jvm.Cond.code ({ cls := "java/lang/String", name := "<init>", desc := "([BB)V" } : Jvm.MethodName) jdk_42_method_151_code (3 : Nat) (Option.none : Option Jvm.ClassFile.FieldType)]
set_option maxRecDepth 65536 in
theorem codes_eq : words1.filter isCode = codes1 := rfl
theorem w_codes : ∀ c ∈ words1.filter isCode, c.before args0 about1 = true := by
  rw [codes_eq]
  intro c hc
  simp only [codes1, List.mem_cons, List.not_mem_nil, or_false] at hc
  rcases hc with rfl | rfl | rfl | rfl | rfl | rfl | rfl | rfl | rfl | rfl | rfl | rfl | rfl | rfl | rfl | rfl | rfl | rfl | rfl | rfl | rfl | rfl | rfl | rfl | rfl
  · exact w_c0
  · exact w_c1
  · exact w_c2
  · exact w_c3
  · exact w_c4
  · exact w_c5
  · exact w_c6
  · exact w_c7
  · exact w_c8
  · exact w_c9
  · exact w_c10
  · exact w_c11
  · exact w_c12
  · exact w_c13
  · exact w_c14
  · exact w_c15
  · exact w_c16
  · exact w_c17
  · exact w_c18
  · exact w_c19
  · exact w_c20
  · exact w_c21
  · exact w_c22
  · exact w_c23
  · exact w_c24
set_option maxRecDepth 65536 in
theorem w_t1 : (words1.take 24).all (fun c => isCode c || c.before args0 about1) = true := by decide +kernel
set_option maxRecDepth 65536 in
theorem w_t2 : ((words1.drop 24).take 24).all (fun c => isCode c || c.before args0 about1) = true := by decide +kernel
set_option maxRecDepth 65536 in
theorem w_t3 : (((words1.drop 24).drop 24).take 24).all (fun c => isCode c || c.before args0 about1) = true := by decide +kernel
set_option maxRecDepth 65536 in
theorem w_t4 : ((((words1.drop 24).drop 24).drop 24).take 24).all (fun c => isCode c || c.before args0 about1) = true := by decide +kernel
set_option maxRecDepth 65536 in
theorem w_t5 : (((((words1.drop 24).drop 24).drop 24).drop 24).take 24).all (fun c => isCode c || c.before args0 about1) = true := by decide +kernel
set_option maxRecDepth 65536 in
theorem w_t6 : (((((words1.drop 24).drop 24).drop 24).drop 24).drop 24).all (fun c => isCode c || c.before args0 about1) = true := by decide +kernel
theorem w_tables : (allAtoms (Jvm.Cond.code x code maxLocals ret :: tables_1)).before args0 about1 = true := by
  rw [allAtoms_all]
  show words1.all (fun c => c.before args0 about1) = true
  refine all_split ?_ w_codes
  rw [← List.take_append_drop 24 words1, List.all_append, w_t1, ← List.take_append_drop 24 (words1.drop 24), List.all_append, w_t2, ← List.take_append_drop 24 ((words1.drop 24).drop 24), List.all_append, w_t3, ← List.take_append_drop 24 (((words1.drop 24).drop 24).drop 24), List.all_append, w_t4, ← List.take_append_drop 24 ((((words1.drop 24).drop 24).drop 24).drop 24), List.all_append, w_t5, w_t6]
  rfl
set_option maxRecDepth 65536 in
theorem w_rest : rest_1_c.before args0 about1 = true := by decide +kernel
set_option maxRecDepth 65536 in
theorem w_case : (Jvm.Cond.and given_1 narrow_1).before args0 about1 = true := by decide +kernel
set_option maxRecDepth 65536 in
theorem w_consts : constsHeld consts_1 about1 := Jvm.Lit.constsHeldB_iff.mp (by decide +kernel)
theorem w_applies : (headSpec (Jvm.Cond.code x code maxLocals ret :: tables_1) room_1).applies x e0.platform about1 = true :=
  (Spec.applies_iff w_frames).mpr ⟨w_running, w_runnable, w_alone, w_named, w_hears, w_ripe, w_room, w_tables⟩
theorem atStart : AtStart classFile x code maxLocals ret World_1 tables_1 room_1 Calls_1 rest_1 Pre_1 launch0 p0 e0 about1 theMethod args0 below0 :=
  ⟨lists_1, trivial, launch0.admits_env _ _ _, launch0.least_env, fairChoices_fair.cas, fairChoices_fair.clock, w_frames, w_args, w_heap, w_applies, ⟨w_consts, trivial⟩, w_rest, w_case⟩
end start1
theorem witness_1 : WitnessClaimed_1 := ⟨start1.p0, start1.e0, start1.about1, start1.theMethod, start1.args0, start1.below0, start1.atStart⟩
end Jvm.Pilot.@@N@@
