import JvmDerived
import JvmDerived.Pilot.@@N@@Statement
import JvmDerived.Pilot.@@N@@Code
set_option linter.unusedVariables false
set_option linter.unusedSimpArgs false
@@BLOCK:TracedD.lean.txt@@
namespace Jvm.RoadKit
open Sem ClassFile Op Lib Jvm.Stand Jvm.Free Jvm.LawKit
section New
variable {p : Program} {l : Launch} {e : Env} {R : Room} {s : State} {m : MethodId} {args : Array Value} {below : List Frame} {meth : Method} {c : Code} {T : State} {locs : List Loc} {cells slots : Nat}
theorem retI (X : Stand p l e R s m args below meth c T locs cells slots) (hx : p.tables.exec = Jvm.exec) {pc : Nat} {Ls : Array Slot} {z : Int32} {rest : List Value} (hret : meth.sig.returnType = some .int) (hd : decode c.code pc = .ok (.ireturn, 1)) {fs : List Frame}
    (hl : ∀ (f : JFrame) (acts : List Action), f.method = m → f.locked = none → f.entered = [] → (doReturn e (T.setTop f) acts (some (.int z))).1 = T.setFrames fs) : Steps p.tables e below (T.setTop (mkF m pc Ls (.int z :: rest))) (T.setFrames fs) := by
  have hm' : T.vm.method? m = some meth := X.method'
  have hn : narrow .int (.int z) = .int z := rfl
  show Steps p.tables e below (T.setTop { method := m, pc := pc, locals := Ls, stack := _ :: rest, locked := none }) _
  jvm_step X.here [X.here.top, hx, hd, hm', hret, hn]
  first | (intro acts; rw [hl _ acts rfl rfl rfl]) | rw [hl _ _ rfl rfl rfl]
  exact Steps.refl _
end New
end Jvm.RoadKit
/- laws to paste: Road.backV, Road.lenW, Road.eqW, Road.codOf (cut by pick.py; bodies as the Statement names them) -/
namespace Jvm.Pilot.@@N@@
namespace StrChars
open Jvm Sem ClassFile Op Lib Jvm.Stand Jvm.Free.XT Jvm.Free.ALB Jvm.Free.JM Jvm.Free
open Jvm.Lib.Cold (StaticIs)
/-- a char array whose places are chars -/
def Ch (a : Addr) (A : Cell) (U : State) : Prop := Arr .char a A U ∧ Typed .char A
theorem Ch.mv {a : Addr} {A : Cell} {U U' : State} (h : Ch a A U) (hal : U.vm.Alike U'.vm) (hh : U'.heap = U.heap) : Ch a A U' := ⟨h.1.mv hal hh, h.2⟩
theorem Ch.keep {a : Addr} {A : Cell} {U U' : State} (h : Ch a A U) (hal : U.vm.Alike U'.vm) (hk : U'.heap[a]? = some A) : Ch a A U' := ⟨h.1.keep hal hk, h.2⟩
/-- what place i of a char[]'s cell holds -/
def cv (A : Cell) (i : Nat) : Int32 := match A.slots[i]? with | some (.int x) => x | _ => 0
theorem Ch.get {a : Addr} {A : Cell} {U : State} (h : Ch a A U) {i : Nat} (hi : i < A.slots.size) : A.slots[i]? = some (.int (cv A i)) := by
  have e := Array.getElem?_eq_getElem hi
  have f := h.2 i _ e
  unfold cv; rw [e]
  generalize A.slots[i] = v at f
  cases v <;> simp [fits] at f ⊢
/-- the byte that i2b leaves of a char -/
def lo8 (x : Int32) : Int32 := x.toInt8.toInt32
theorem fits_lo8 (y : Int32) : fits .byte (.int (lo8 y)) = true := by
  have h1 := y.toInt8.le_toInt
  have h2 := y.toInt8.toInt_lt
  simp only [lo8, fits, Bool.and_eq_true, decide_eq_true_eq, Int32.le_iff_toInt_le, Int8.toInt_toInt32, show (-128 : Int32).toInt = -128 from by decide, show (127 : Int32).toInt = 127 from by decide]
  omega
/-- A' is A but that each place j of lo .. hi - 1 holds f j -/
def Laid (A A' : Cell) (lo hi : Nat) (f : Nat → Value) : Prop := A'.cls = A.cls ∧ A'.vm = A.vm ∧ A'.slots.size = A.slots.size ∧ ∀ i, A'.slots[i]? = if lo ≤ i ∧ i < hi then some (f i) else A.slots[i]?
theorem Laid.zero (A : Cell) (lo : Nat) (f : Nat → Value) : Laid A A lo (lo + 0) f := ⟨rfl, rfl, rfl, fun i => by rw [if_neg (by omega)]⟩
theorem Laid.step {A Ak : Cell} {lo k : Nat} {f : Nat → Value} {v : Value} (h : Laid A Ak lo k f) (hlo : lo ≤ k) (hk : k < Ak.slots.size) (hv : v = f k) : Laid A (Ak.setSlot k v) lo (k + 1) f := by
  refine ⟨h.1, h.2.1, by simpa [Cell.setSlot] using h.2.2.1, fun i => ?_⟩
  by_cases e : k = i
  · subst e; rw [Cell.slots_setSlot_self v hk, if_pos (by omega), hv]
  · rw [Cell.slots_setSlot_ne v e, h.2.2.2 i]
    by_cases q : lo ≤ i ∧ i < k
    · rw [if_pos q, if_pos (by omega)]
    · rw [if_neg q, if_neg (by omega)]
def U16 : String := "java/lang/StringUTF16"
namespace Cmp5
def yN : MethodName := ⟨"java/lang/StringUTF16", "compress", "([CI[BII)I"⟩
abbrev yB : ByteArray := jdk_52_method_21_code
theorem d0 : decode yB 0 = .ok (.iconst 0, 1) := by decide +kernel
theorem d1 : decode yB 1 = .ok (.istore 5, 2) := by decide +kernel
theorem d3 : decode yB 3 = .ok (.iload 5, 2) := by decide +kernel
theorem d5 : decode yB 5 = .ok (.iload 4, 2) := by decide +kernel
theorem d7 : decode yB 7 = .ok (.if_icmp (.ge) 37, 3) := by decide +kernel
theorem d10 : decode yB 10 = .ok (.aload_n 0, 1) := by decide +kernel
theorem d11 : decode yB 11 = .ok (.iload_n 1, 1) := by decide +kernel
theorem d12 : decode yB 12 = .ok (.caload, 1) := by decide +kernel
theorem d13 : decode yB 13 = .ok (.istore 6, 2) := by decide +kernel
theorem d15 : decode yB 15 = .ok (.iload 6, 2) := by decide +kernel
theorem d17 : decode yB 17 = .ok (.sipush 255, 3) := by decide +kernel
theorem d20 : decode yB 20 = .ok (.if_icmp (.le) 6, 3) := by decide +kernel
theorem d26 : decode yB 26 = .ok (.aload_n 2, 1) := by decide +kernel
theorem d27 : decode yB 27 = .ok (.iload_n 3, 1) := by decide +kernel
theorem d28 : decode yB 28 = .ok (.iload 6, 2) := by decide +kernel
theorem d30 : decode yB 30 = .ok (.i2b, 1) := by decide +kernel
theorem d31 : decode yB 31 = .ok (.bastore, 1) := by decide +kernel
theorem d32 : decode yB 32 = .ok (.iinc 1 1, 3) := by decide +kernel
theorem d35 : decode yB 35 = .ok (.iinc 3 1, 3) := by decide +kernel
theorem d38 : decode yB 38 = .ok (.iinc 5 1, 3) := by decide +kernel
theorem d41 : decode yB 41 = .ok (.goto (-38), 3) := by decide +kernel
theorem d44 : decode yB 44 = .ok (.iload 4, 2) := by decide +kernel
theorem d46 : decode yB 46 = .ok (.ireturn, 1) := by decide +kernel
def site : List Cond := []
def tab : Cond := tabOf yN yB 7 (some .int) site
def P (b : Addr) (A : Cell) (d : Addr) (B : Cell) (o q len : Nat) (args : Array Value) (s : State) : Prop := args = #[.ref b, .int (Int32.ofNat o), .ref d, .int (Int32.ofNat q), .int (Int32.ofNat len)] ∧ Ch b A s ∧ Arr .byte d B s ∧ b ≠ d ∧ o + len ≤ A.slots.size ∧ q + len ≤ B.slots.size ∧ ∀ i, i < len → ¬ 255 < cv A (o + i)
def E (b : Addr) (A : Cell) (d : Addr) (B : Cell) (o q len : Nat) (r : Option Value) (s u : State) : Prop := r = some (.int (Int32.ofNat len)) ∧ ∃ B', Put d B' s u ∧ Laid B B' q (q + len) (fun j => Value.int (lo8 (cv A (o + (j - q)))))
/-- no char of the range above 255: len; the places written hold each char's low byte -/
theorem law (l : Launch) (b : Addr) (A : Cell) (d : Addr) (B : Cell) (o q len : Nat) : Law l yN 5 5 0 0 yB 7 (some .int) site (P b A d B o q len) (E b A d B o q len) (copyLocs d q len) 0 0 := by
  refine Law.of_walk (plainFor_of_name (by decide +kernel)) (by decide +kernel) (by decide +kernel) (by decide) (fun _ _ h => by rw [h.1]; rfl) (fun _ U U' hal hh h => ⟨h.1, h.2.1.mv hal hh, h.2.2.1.mv hal hh, h.2.2.2⟩) (fun r U U' V V' h1 hal h2 h => ⟨h.1, h.2.elim fun B' q => ⟨B', q.1.mv h1 h2, q.2⟩⟩) ?_
  intro p e s m args below meth c s₁ X0 hexec hbytes hml hret hlk hnm hown hh0 W hP
  obtain ⟨rfl, hA, hB, hne, l1, l2, hp⟩ := hP
  have c1 : Steps p.tables e below (s₁.setTop (entryFrame m #[.ref b, .int (Int32.ofNat o), .ref d, .int (Int32.ofNat q), .int (Int32.ofNat len)] 7)) (s₁.setTop (mkF m 0 #[.val (.ref b), .val (.int (Int32.ofNat o)), .val (.ref d), .val (.int (Int32.ofNat q)), .val (.int (Int32.ofNat len)), .unset, .unset] [])) := entry rfl
  have hA0 := hA.1.mv X0.warmed.alike hh0
  have hB0 := hB.mv X0.warmed.alike hh0
  have a31 := hA.1.2.2.2
  have c2 : Steps p.tables e below (s₁.setTop (entryFrame m #[.ref b, .int (Int32.ofNat o), .ref d, .int (Int32.ofNat q), .int (Int32.ofNat len)] 7)) (s₁.setTop (mkF m 3 #[.val (.ref b), .val (.int (Int32.ofNat o)), .val (.ref d), .val (.int (Int32.ofNat q)), .val (.int (Int32.ofNat len)), .val (.int 0), .unset] [])) := c1.trans (by
    refine iconstV X0.here hexec rfl 0 (hb hbytes d0) (by decide) ?_
    refine XS.istore X0.here hexec rfl (hb hbytes d1) rfl rfl ?_
    exact Steps.refl _)
  have loop : ∀ (r i : Nat), i + r = len → ∀ (z : Slot), (z = .unset ∨ ∃ w, z = .val w ∧ w.category = 1) → ∀ (Tl : State) (Bk : Cell), Stand p l e { frames := 0, locals := 0, cells := 0, slots := 0 } s m #[.ref b, .int (Int32.ofNat o), .ref d, .int (Int32.ofNat q), .int (Int32.ofNat len)] below meth c Tl ([] ++ copyLocs d q i) 0 0 → Put d Bk s₁ Tl → Laid B Bk q (q + i) (fun j => Value.int (lo8 (cv A (o + (j - q))))) →
      Steps p.tables e below (s₁.setTop (entryFrame m #[.ref b, .int (Int32.ofNat o), .ref d, .int (Int32.ofNat q), .int (Int32.ofNat len)] 7)) (Tl.setTop (mkF m 3 #[.val (.ref b), .val (.int (Int32.ofNat (o + i))), .val (.ref d), .val (.int (Int32.ofNat (q + i))), .val (.int (Int32.ofNat len)), .val (.int (Int32.ofNat i)), z] [])) → ∃ (T' : State) (B' : Cell) (z' : Slot), Stand p l e { frames := 0, locals := 0, cells := 0, slots := 0 } s m #[.ref b, .int (Int32.ofNat o), .ref d, .int (Int32.ofNat q), .int (Int32.ofNat len)] below meth c T' ([] ++ copyLocs d q len) 0 0 ∧ Put d B' s₁ T' ∧ Laid B B' q (q + len) (fun j => Value.int (lo8 (cv A (o + (j - q))))) ∧
      Steps p.tables e below (s₁.setTop (entryFrame m #[.ref b, .int (Int32.ofNat o), .ref d, .int (Int32.ofNat q), .int (Int32.ofNat len)] 7)) (T'.setTop (mkF m 3 #[.val (.ref b), .val (.int (Int32.ofNat (o + len))), .val (.ref d), .val (.int (Int32.ofNat (q + len))), .val (.int (Int32.ofNat len)), .val (.int (Int32.ofNat len)), z'] [])) := by
    intro r
    induction r with
    | zero =>
      intro i hi z hz Tl Bk Xl pl fl cl
      have hil : i = len := by omega
      rw [hil] at Xl fl cl
      exact ⟨Tl, Bk, z, Xl, pl, fl, cl⟩
    | succ r ih =>
      intro i hi z hz Tl Bk Xl pl fl cl
      have all := X0.warmed.alike.symm.trans Xl.warmed.alike
      have hAl := hA0.keep all (pl.other hne hA0.1)
      have hBk := hB0.like all pl.1 fl.1 fl.2.1 fl.2.2.1
      have hlt : q + i < Bk.slots.size := by rw [fl.2.2.1]; omega
      have c3 : Steps p.tables e below (s₁.setTop (entryFrame m #[.ref b, .int (Int32.ofNat o), .ref d, .int (Int32.ofNat q), .int (Int32.ofNat len)] 7)) (Tl.setTop (mkF m 12 #[.val (.ref b), .val (.int (Int32.ofNat (o + i))), .val (.ref d), .val (.int (Int32.ofNat (q + i))), .val (.int (Int32.ofNat len)), .val (.int (Int32.ofNat i)), z] [.int (Int32.ofNat (o + i)), .ref b])) := cl.trans (by
        refine XS.iload Xl.here hexec rfl (hb hbytes d3) rfl ?_
        refine XS.iload Xl.here hexec rfl (hb hbytes d5) rfl ?_
        refine XS.icmpNo Xl.here hexec rfl (hb hbytes d7) rfl (ii_ge_f (lt32 (by omega) (by omega))) ?_
        refine XS.aloadN Xl.here hexec rfl (hb hbytes d10) rfl rfl ?_
        refine XS.iloadN Xl.here hexec rfl (hb hbytes d11) rfl ?_
        exact Steps.refl _)
      have c4 : Steps p.tables e below (s₁.setTop (entryFrame m #[.ref b, .int (Int32.ofNat o), .ref d, .int (Int32.ofNat q), .int (Int32.ofNat len)] 7)) (Tl.setTop (mkF m 13 #[.val (.ref b), .val (.int (Int32.ofNat (o + i))), .val (.ref d), .val (.int (Int32.ofNat (q + i))), .val (.int (Int32.ofNat len)), .val (.int (Int32.ofNat i)), z] [.int (cv A (o + i))])) := c3.trans (by
        refine Xl.aget hexec hAl rfl (hA.get (i := o + i) (by omega)) rfl rfl (hb hbytes d12) ?_
        exact Steps.refl _)
      have c5 : Steps p.tables e below (s₁.setTop (entryFrame m #[.ref b, .int (Int32.ofNat o), .ref d, .int (Int32.ofNat q), .int (Int32.ofNat len)] 7)) (Tl.setTop (mkF m 15 #[.val (.ref b), .val (.int (Int32.ofNat (o + i))), .val (.ref d), .val (.int (Int32.ofNat (q + i))), .val (.int (Int32.ofNat len)), .val (.int (Int32.ofNat i)), .val (.int (cv A (o + i)))] [])) := c4.trans (by
        refine XS.istoreS Xl.here hexec rfl (hb hbytes d13) rfl rfl hz ?_
        exact Steps.refl _)
      have c6 : Steps p.tables e below (s₁.setTop (entryFrame m #[.ref b, .int (Int32.ofNat o), .ref d, .int (Int32.ofNat q), .int (Int32.ofNat len)] 7)) (Tl.setTop (mkF m 31 #[.val (.ref b), .val (.int (Int32.ofNat (o + i))), .val (.ref d), .val (.int (Int32.ofNat (q + i))), .val (.int (Int32.ofNat len)), .val (.int (Int32.ofNat i)), .val (.int (cv A (o + i)))] [.int (lo8 (cv A (o + i))), .int (Int32.ofNat (q + i)), .ref d])) := c5.trans (by
        refine XS.iload Xl.here hexec rfl (hb hbytes d15) rfl ?_
        refine sipushV Xl.here hexec rfl 255 (hb hbytes d17) (by decide) ?_
        refine XS.icmpYes Xl.here hexec rfl (pc0 := 20) rfl (hb hbytes d20) rfl (ii_le_t (hp i (by omega))) (by decide) rfl ?_
        refine XS.aloadN Xl.here hexec rfl (hb hbytes d26) rfl rfl ?_
        refine XS.iloadN Xl.here hexec rfl (hb hbytes d27) rfl ?_
        refine XS.iload Xl.here hexec rfl (hb hbytes d28) rfl ?_
        refine i2b Xl.here hexec rfl (hb hbytes d30) rfl ?_
        exact Steps.refl _)
      obtain ⟨T7, X7, p7, st7⟩ := Xl.aput hexec hBk rfl hlt rfl (fits_lo8 (cv A (o + i))) (g := (mkF m 31 #[.val (.ref b), .val (.int (Int32.ofNat (o + i))), .val (.ref d), .val (.int (Int32.ofNat (q + i))), .val (.int (Int32.ofNat len)), .val (.int (Int32.ofNat i)), .val (.int (cv A (o + i)))] [.int (lo8 (cv A (o + i))), .int (Int32.ofNat (q + i)), .ref d])) rfl (rest := []) rfl (hb hbytes d31)
      have c8 : Steps p.tables e below (s₁.setTop (entryFrame m #[.ref b, .int (Int32.ofNat o), .ref d, .int (Int32.ofNat q), .int (Int32.ofNat len)] 7)) (T7.setTop (mkF m 32 #[.val (.ref b), .val (.int (Int32.ofNat (o + i))), .val (.ref d), .val (.int (Int32.ofNat (q + i))), .val (.int (Int32.ofNat len)), .val (.int (Int32.ofNat i)), .val (.int (cv A (o + i)))] [])) := c6.trans (st7 _ (Steps.refl _))
      have c9 : Steps p.tables e below (s₁.setTop (entryFrame m #[.ref b, .int (Int32.ofNat o), .ref d, .int (Int32.ofNat q), .int (Int32.ofNat len)] 7)) (T7.setTop (mkF m 3 #[.val (.ref b), .val (.int (Int32.ofNat (o + i) + 1)), .val (.ref d), .val (.int (Int32.ofNat (q + i) + 1)), .val (.int (Int32.ofNat len)), .val (.int (Int32.ofNat i + 1)), .val (.int (cv A (o + i)))] [])) := c8.trans (by
        refine iincV X7.here hexec rfl 1 (hb hbytes d32) (by decide) rfl rfl ?_
        refine iincV X7.here hexec rfl 1 (hb hbytes d35) (by decide) rfl rfl ?_
        refine iincV X7.here hexec rfl 1 (hb hbytes d38) (by decide) rfl rfl ?_
        refine XS.goto X7.here hexec rfl (pc0 := 41) rfl (hb hbytes d41) (by decide) rfl ?_
        exact Steps.refl _)
      have c10 : Steps p.tables e below (s₁.setTop (entryFrame m #[.ref b, .int (Int32.ofNat o), .ref d, .int (Int32.ofNat q), .int (Int32.ofNat len)] 7)) (T7.setTop (mkF m 3 #[.val (.ref b), .val (.int (Int32.ofNat (o + (i + 1)))), .val (.ref d), .val (.int (Int32.ofNat (q + (i + 1)))), .val (.int (Int32.ofNat len)), .val (.int (Int32.ofNat (i + 1))), .val (.int (cv A (o + i)))] [])) := by
        have := c9
        rw [succ32, succ32, succ32] at this
        exact this
      exact ih (i + 1) (by omega) _ (Or.inr ⟨_, rfl, rfl⟩) T7 _ (by rw [copyLocs_step, ← List.append_assoc]; exact X7) (pl.trans p7) (fl.step (by omega) hlt (by simp)) c10
  obtain ⟨T9, B9, z9, X9, p9, f9, g9⟩ := loop len 0 (by omega) .unset (Or.inl rfl) s₁ B (by simpa [copyLocs] using X0) ⟨hB0.1, fun _ _ => rfl, rfl⟩ (Laid.zero _ _ _) c2
  have c11 : Steps p.tables e below (s₁.setTop (entryFrame m #[.ref b, .int (Int32.ofNat o), .ref d, .int (Int32.ofNat q), .int (Int32.ofNat len)] 7)) (T9.setTop (mkF m 46 #[.val (.ref b), .val (.int (Int32.ofNat (o + len))), .val (.ref d), .val (.int (Int32.ofNat (q + len))), .val (.int (Int32.ofNat len)), .val (.int (Int32.ofNat len)), z9] [.int (Int32.ofNat len)])) := g9.trans (by
    refine XS.iload X9.here hexec rfl (hb hbytes d3) rfl ?_
    refine XS.iload X9.here hexec rfl (hb hbytes d5) rfl ?_
    refine XS.icmpYes X9.here hexec rfl (pc0 := 7) rfl (hb hbytes d7) rfl (ii_ge_t (nlt32 (by omega) (Nat.le_refl _))) (by decide) rfl ?_
    refine XS.iload X9.here hexec rfl (hb hbytes d44) rfl ?_
    exact Steps.refl _)
  exact ⟨T9, some (.int (Int32.ofNat len)), _, _, _, X9, by simp, rfl, rfl, (fun h => by cases h), ⟨rfl, B9, p9.from hh0, f9⟩, fun fs hl => c11.trans (X9.ireturnOut hexec hret rfl (Or.inl rfl) (hb hbytes d46) hl)⟩
end Cmp5
namespace Cmp3
def yN : MethodName := ⟨"java/lang/StringUTF16", "compress", "([CII)[B"⟩
abbrev yB : ByteArray := jdk_52_method_16_code
theorem d0 : decode yB 0 = .ok (.iload_n 2, 1) := by decide +kernel
theorem d1 : decode yB 1 = .ok (.newarray .byte, 2) := by decide +kernel
theorem d3 : decode yB 3 = .ok (.astore_n 3, 1) := by decide +kernel
theorem d4 : decode yB 4 = .ok (.aload_n 0, 1) := by decide +kernel
theorem d5 : decode yB 5 = .ok (.iload_n 1, 1) := by decide +kernel
theorem d6 : decode yB 6 = .ok (.aload_n 3, 1) := by decide +kernel
theorem d7 : decode yB 7 = .ok (.iconst 0, 1) := by decide +kernel
theorem d8 : decode yB 8 = .ok (.iload_n 2, 1) := by decide +kernel
theorem d9 : decode yB 9 = .ok (.invokestatic 115, 3) := by decide +kernel
theorem d12 : decode yB 12 = .ok (.istore 4, 2) := by decide +kernel
theorem d14 : decode yB 14 = .ok (.iload 4, 2) := by decide +kernel
theorem d16 : decode yB 16 = .ok (.iload_n 2, 1) := by decide +kernel
theorem d17 : decode yB 17 = .ok (.if_icmp (.eq) 40, 3) := by decide +kernel
theorem d57 : decode yB 57 = .ok (.aload_n 3, 1) := by decide +kernel
theorem d58 : decode yB 58 = .ok (.areturn, 1) := by decide +kernel
def site : List Cond := [.arrayClass .byte, Cmp5.tab] ++ staticW U16 115 Cmp5.yN
def tab : Cond := tabOf yN yB 6 (some (.array .byte)) site
def P (b : Addr) (A : Cell) (o len : Nat) (args : Array Value) (s : State) : Prop := args = #[.ref b, .int (Int32.ofNat o), .int (Int32.ofNat len)] ∧ Ch b A s ∧ o + len ≤ A.slots.size ∧ len ≤ 536870912 ∧ ∀ i, i < len → ¬ 255 < cv A (o + i)
def E (b : Addr) (A : Cell) (o len : Nat) (r : Option Value) (s u : State) : Prop := NewArr .byte "[B" len (fun j => .int (lo8 (cv A (o + j)))) r s u ∧ u.heap.size = s.heap.size + 1
/-- no char of the range above 255: a new byte[] of their low bytes -/
theorem law (l : Launch) (b : Addr) (A : Cell) (o len : Nat) : Law l yN 3 3 1 18 yB 6 (some (.array .byte)) site (P b A o len) (E b A o len) [] 1 len := by
  refine Law.of_walk (plainFor_of_name (by decide +kernel)) (by decide +kernel) (by decide +kernel) (by decide) (fun _ _ h => by rw [h.1]; rfl) (fun _ U U' hal hh h => ⟨h.1, h.2.1.mv hal hh, h.2.2⟩) (fun r U U' V V' h1 hal h2 h => ⟨NewArr.mv r U U' V V' h1 hal h2 h.1, by rw [h1, h2]; exact h.2⟩) ?_
  intro p e s m args below meth c s₁ X0 hexec hbytes hml hret hlk hnm hown hh0 W hP
  obtain ⟨rfl, hA, l1, l2, hp⟩ := hP
  have a31 := hA.1.2.2.2
  have c1 : Steps p.tables e below (s₁.setTop (entryFrame m #[.ref b, .int (Int32.ofNat o), .int (Int32.ofNat len)] 6)) (s₁.setTop (mkF m 0 #[.val (.ref b), .val (.int (Int32.ofNat o)), .val (.int (Int32.ofNat len)), .unset, .unset, .unset] [])) := entry rfl
  have c2 : Steps p.tables e below (s₁.setTop (entryFrame m #[.ref b, .int (Int32.ofNat o), .int (Int32.ofNat len)] 6)) (s₁.setTop (mkF m 1 #[.val (.ref b), .val (.int (Int32.ofNat o)), .val (.int (Int32.ofNat len)), .unset, .unset, .unset] [.int (Int32.ofNat len)])) := c1.trans (by
    refine XS.iloadN X0.here hexec rfl (hb hbytes d0) rfl ?_
    exact Steps.refl _)
  obtain ⟨T3, B3, X3, ba3, bs3, bv3, bh3, bf3, st3⟩ := X0.anew hexec (atype := .byte) (wk W (.arrayClass .byte)) rfl (by show len * 1 ≤ _; omega) (by omega) (g := (mkF m 1 #[.val (.ref b), .val (.int (Int32.ofNat o)), .val (.int (Int32.ofNat len)), .unset, .unset, .unset] [.int (Int32.ofNat len)])) rfl (hb hbytes d1) (rest := []) rfl (Nat.le_refl _) (by show 0 + len ≤ len; omega)
  rw [hh0] at ba3 st3
  have kp3 : XT.Kept s T3 := (XT.Kept.of_eq hh0).push bh3
  have hA3 := hA.keep X3.warmed.alike (kp3 _ _ hA.1.1)
  have hne : b ≠ s.heap.size := hA.1.ne
  have c4 : Steps p.tables e below (s₁.setTop (entryFrame m #[.ref b, .int (Int32.ofNat o), .int (Int32.ofNat len)] 6)) (T3.setTop (mkF m 3 #[.val (.ref b), .val (.int (Int32.ofNat o)), .val (.int (Int32.ofNat len)), .unset, .unset, .unset] [.ref s.heap.size])) := c2.trans (st3 _ (Steps.refl _))
  have c5 : Steps p.tables e below (s₁.setTop (entryFrame m #[.ref b, .int (Int32.ofNat o), .int (Int32.ofNat len)] 6)) (T3.setTop (mkF m 9 #[.val (.ref b), .val (.int (Int32.ofNat o)), .val (.int (Int32.ofNat len)), .val (.ref s.heap.size), .unset, .unset] [.int (Int32.ofNat len), .int 0, .ref s.heap.size, .int (Int32.ofNat o), .ref b])) := c4.trans (by
    refine XS.astoreN X3.here hexec rfl (hb hbytes d3) rfl rfl rfl ?_
    refine XS.aloadN X3.here hexec rfl (hb hbytes d4) rfl rfl ?_
    refine XS.iloadN X3.here hexec rfl (hb hbytes d5) rfl ?_
    refine XS.aloadN X3.here hexec rfl (hb hbytes d6) rfl rfl ?_
    refine iconstV X3.here hexec rfl 0 (hb hbytes d7) (by decide) ?_
    refine XS.iloadN X3.here hexec rfl (hb hbytes d8) rfl ?_
    exact Steps.refl _)
  obtain ⟨v6, T6, X6, E6, g6⟩ := X3.callS hexec (Cmp5.law l b A s.heap.size B3 o 0 len) hown (wks W (staticW U16 115 Cmp5.yN)) (wk W Cmp5.tab) (W := 0) (Nat.le_of_ble_eq_true rfl) (Nat.le_of_ble_eq_true rfl) (Nat.le_refl _) (by show 0 + len + 0 ≤ len; omega) (g := (mkF m 9 #[.val (.ref b), .val (.int (Int32.ofNat o)), .val (.int (Int32.ofNat len)), .val (.ref s.heap.size), .unset, .unset] [.int (Int32.ofNat len), .int (Int32.ofNat 0), .ref s.heap.size, .int (Int32.ofNat o), .ref b])) rfl (by rw [hml]; rfl) c5 (argsL := [.ref b, .int (Int32.ofNat o), .ref s.heap.size, .int (Int32.ofNat 0), .int (Int32.ofNat len)]) (rest := []) rfl rfl (by show 2 * 0 + 0 ≤ _; decide) (hb hbytes d9) (⟨rfl, hA3, ba3, hne, l1, by rw [bs3]; simp, hp⟩)
  obtain ⟨rfl, B6, p6, f6⟩ := E6
  have c7 : Steps p.tables e below (s₁.setTop (entryFrame m #[.ref b, .int (Int32.ofNat o), .int (Int32.ofNat len)] 6)) (T6.setTop (mkF m 12 #[.val (.ref b), .val (.int (Int32.ofNat o)), .val (.int (Int32.ofNat len)), .val (.ref s.heap.size), .unset, .unset] [.int (Int32.ofNat len)])) := g6
  have c8 : Steps p.tables e below (s₁.setTop (entryFrame m #[.ref b, .int (Int32.ofNat o), .int (Int32.ofNat len)] 6)) (T6.setTop (mkF m 58 #[.val (.ref b), .val (.int (Int32.ofNat o)), .val (.int (Int32.ofNat len)), .val (.ref s.heap.size), .val (.int (Int32.ofNat len)), .unset] [.ref s.heap.size])) := c7.trans (by
    refine XS.istore X6.here hexec rfl (hb hbytes d12) rfl rfl ?_
    refine XS.iload X6.here hexec rfl (hb hbytes d14) rfl ?_
    refine XS.iloadN X6.here hexec rfl (hb hbytes d16) rfl ?_
    refine XS.icmpYes X6.here hexec rfl (pc0 := 17) rfl (hb hbytes d17) rfl (ii_eq_t rfl) (by decide) rfl ?_
    refine XS.aloadN X6.here hexec rfl (hb hbytes d57) rfl rfl ?_
    exact Steps.refl _)
  have X8 := X6.wide (L' := []) (cells' := 1) (slots' := len) (fun x hx hlt => by
    simp only [List.nil_append, copyLocs, List.mem_map, List.mem_range] at hx
    obtain ⟨i, -, rfl⟩ := hx
    exact absurd hlt (Nat.lt_irrefl _)) (Nat.le_refl _) (by omega)
  exact ⟨T6, some (.ref s.heap.size), _, _, _, X8, rfl, rfl, rfl, (fun h => by cases h), ⟨⟨rfl, B6, ba3.like (X3.warmed.alike.symm.trans X6.warmed.alike) p6.1 f6.1 f6.2.1 f6.2.2.1, f6.2.1.trans bv3, by rw [X6.warmed.alike.findClass, f6.1]; exact bf3, by rw [f6.2.2.1, bs3]; simp, fun j hj => by rw [f6.2.2.2 j, if_pos (by omega)]; rfl, kp3.put p6 (Nat.le_refl _)⟩, by rw [p6.2.2, bh3, hh0]; simp⟩, fun fs hl => c8.trans (X8.areturnOut hexec rfl hret rfl (hb hbytes d58) hl)⟩
end Cmp3
namespace CodL
def yN : MethodName := ⟨"java/lang/StringUTF16", "coderFromArrayLen", "([BI)B"⟩
abbrev yB : ByteArray := jdk_52_method_15_code
theorem d0 : decode yB 0 = .ok (.iload_n 1, 1) := by decide +kernel
theorem d1 : decode yB 1 = .ok (.aload_n 0, 1) := by decide +kernel
theorem d2 : decode yB 2 = .ok (.arraylength, 1) := by decide +kernel
theorem d3 : decode yB 3 = .ok (.isub, 1) := by decide +kernel
theorem d4 : decode yB 4 = .ok (.bipush 31, 2) := by decide +kernel
theorem d6 : decode yB 6 = .ok (.iushr, 1) := by decide +kernel
theorem d7 : decode yB 7 = .ok (.i2b, 1) := by decide +kernel
theorem d8 : decode yB 8 = .ok (.ireturn, 1) := by decide +kernel
def site : List Cond := []
def tab : Cond := tabOf yN yB 2 (some .byte) site
def P (d : Addr) (B : Cell) (args : Array Value) (s : State) : Prop := args = #[.ref d, .int (Int32.ofNat B.slots.size)] ∧ Arr .byte d B s
def E (r : Option Value) (s u : State) : Prop := XT.PureE (some (.int 0)) r s u
/-- an array as long as the number of chars: LATIN1 -/
theorem law (l : Launch) (d : Addr) (B : Cell) : Law l yN 2 2 0 0 yB 2 (some .byte) site (P d B) E [] 0 0 := by
  refine Law.of_walk (plainFor_of_name (by decide +kernel)) (by decide +kernel) (by decide +kernel) (by decide) (fun _ _ h => by rw [h.1]; rfl) (fun _ U U' hal hh h => ⟨h.1, h.2.mv hal hh⟩) (fun r U U' V V' h1 hal h2 h => XT.PureE.mv r U U' V V' h1 hal h2 h) ?_
  intro p e s m args below meth c s₁ X0 hexec hbytes hml hret hlk hnm hown hh0 W hP
  obtain ⟨rfl, hB⟩ := hP
  have hB0 := hB.mv X0.warmed.alike hh0
  have c1 : Steps p.tables e below (s₁.setTop (entryFrame m #[.ref d, .int (Int32.ofNat B.slots.size)] 2)) (s₁.setTop (mkF m 0 #[.val (.ref d), .val (.int (Int32.ofNat B.slots.size))] [])) := entry rfl
  have c2 : Steps p.tables e below (s₁.setTop (entryFrame m #[.ref d, .int (Int32.ofNat B.slots.size)] 2)) (s₁.setTop (mkF m 2 #[.val (.ref d), .val (.int (Int32.ofNat B.slots.size))] [.ref d, .int (Int32.ofNat B.slots.size)])) := c1.trans (by
    refine XS.iloadN X0.here hexec rfl (hb hbytes d0) rfl ?_
    refine XS.aloadN X0.here hexec rfl (hb hbytes d1) rfl rfl ?_
    exact Steps.refl _)
  have c3 : Steps p.tables e below (s₁.setTop (entryFrame m #[.ref d, .int (Int32.ofNat B.slots.size)] 2)) (s₁.setTop (mkF m 8 #[.val (.ref d), .val (.int (Int32.ofNat B.slots.size))] [.int (lo8 (ushr (Int32.ofNat B.slots.size - Int32.ofNat B.slots.size) 31))])) := c2.trans (by
    refine X0.alen hexec hB0 rfl rfl (hb hbytes d2) ?_
    refine XS.isub X0.here hexec rfl (hb hbytes d3) rfl ?_
    refine bipushV X0.here hexec rfl 31 (hb hbytes d4) (by decide) ?_
    refine iushr X0.here hexec rfl (hb hbytes d6) rfl ?_
    refine i2b X0.here hexec rfl (hb hbytes d7) rfl ?_
    exact Steps.refl _)
  have e0 : lo8 (ushr (Int32.ofNat B.slots.size - Int32.ofNat B.slots.size) 31) = 0 := by rw [Int32.sub_self]; decide
  rw [e0] at c3
  exact ⟨s₁, some (.int 0), _, _, _, X0, rfl, rfl, rfl, (fun h => by cases h), ⟨rfl, hh0⟩, fun fs hl => c3.trans (X0.ireturnOut hexec hret rfl (Or.inr (Or.inr (Or.inl rfl))) (hb hbytes d8) hl)⟩
end CodL
/-- the String at a is Latin-1 over a new byte[] (the heap's one new cell): the low bytes of the len chars of A from o on; every cell but a is kept -/
def Got (a : Addr) (D : Cell) (fV fC : Field) (A : Cell) (o len : Nat) (r : Option Value) (s u : State) : Prop := r = none ∧ ∃ D' V : Cell, Blank "java/lang/String" a D' u ∧ Same D D' [fV.slot, fC.slot] ∧ D'.slots[fV.slot]? = some (.ref s.heap.size) ∧ D'.slots[fC.slot]? = some (.int 0) ∧ Arr .byte s.heap.size V u ∧ V.vm = .none ∧ u.vm.findClass "[B" = some V.cls ∧ V.slots.size = len ∧ (∀ j, j < len → V.slots[j]? = some (.int (lo8 (cv A (o + j))))) ∧ (∀ (y : Addr) (c : Cell), y ≠ a → s.heap[y]? = some c → u.heap[y]? = some c) ∧ u.heap.size = s.heap.size + 1
theorem Got.mv {a : Addr} {D A : Cell} {fV fC : Field} {o len : Nat} : ∀ r (U U' V V' : State), U'.heap = U.heap → V.vm.Alike V'.vm → V'.heap = V.heap → Got a D fV fC A o len r U V → Got a D fV fC A o len r U' V' :=
  fun r U U' V V' h1 hal h2 ⟨e0, D', X, a1, a2, a3, a4, a5, a6, a7, a8, a9, a10, a11⟩ => ⟨e0, D', X, a1.mv hal h2, a2, by rw [h1]; exact a3, a4, by rw [h1]; exact a5.mv hal h2, a6, by rw [hal.findClass]; exact a7, a8, a9, by rw [h1, h2]; exact a10, by rw [h1, h2]; exact a11⟩
namespace New4
def yN : MethodName := ⟨"java/lang/String", "<init>", "([CIILjava/lang/Void;)V"⟩
abbrev yB : ByteArray := jdk_42_method_149_code
theorem d0 : decode yB 0 = .ok (.aload_n 0, 1) := by decide +kernel
theorem d1 : decode yB 1 = .ok (.invokespecial 1, 3) := by decide +kernel
theorem d4 : decode yB 4 = .ok (.iload_n 3, 1) := by decide +kernel
theorem d5 : decode yB 5 = .ok (.ifCond (.ne) 22, 3) := by decide +kernel
theorem d27 : decode yB 27 = .ok (.getstatic 38, 3) := by decide +kernel
theorem d30 : decode yB 30 = .ok (.ifCond (.eq) 28, 3) := by decide +kernel
theorem d33 : decode yB 33 = .ok (.aload_n 1, 1) := by decide +kernel
theorem d34 : decode yB 34 = .ok (.iload_n 2, 1) := by decide +kernel
theorem d35 : decode yB 35 = .ok (.iload_n 3, 1) := by decide +kernel
theorem d36 : decode yB 36 = .ok (.invokestatic 177, 3) := by decide +kernel
theorem d39 : decode yB 39 = .ok (.astore 5, 2) := by decide +kernel
theorem d41 : decode yB 41 = .ok (.aload_n 0, 1) := by decide +kernel
theorem d42 : decode yB 42 = .ok (.aload 5, 2) := by decide +kernel
theorem d44 : decode yB 44 = .ok (.iload_n 3, 1) := by decide +kernel
theorem d45 : decode yB 45 = .ok (.invokestatic 47, 3) := by decide +kernel
theorem d48 : decode yB 48 = .ok (.putfield 15, 3) := by decide +kernel
theorem d51 : decode yB 51 = .ok (.aload_n 0, 1) := by decide +kernel
theorem d52 : decode yB 52 = .ok (.aload 5, 2) := by decide +kernel
theorem d54 : decode yB 54 = .ok (.putfield 9, 3) := by decide +kernel
theorem d57 : decode yB 57 = .ok (.return_, 1) := by decide +kernel
def site : List Cond := [.fieldLink "java/lang/String" 38 "java/lang/String" "COMPACT_STRINGS" "Z", Cmp3.tab, CodL.tab, .laysFinal "java/lang/String" "java/lang/String" "value" "[B", .fieldLink "java/lang/String" 9 "java/lang/String" "value" "[B", .laysFinal "java/lang/String" "java/lang/String" "coder" "B", .fieldLink "java/lang/String" 15 "java/lang/String" "coder" "B"] ++ objW "java/lang/String" 1 ++ staticW "java/lang/String" 177 Cmp3.yN ++ staticW "java/lang/String" 47 CodL.yN
def tab : Cond := tabOf yN yB 6 none site
def P (a : Addr) (D : Cell) (fV fC : Field) (b : Addr) (A : Cell) (z : Int32) (o len : Nat) (args : Array Value) (s : State) : Prop := args = #[.ref a, .ref b, .int (Int32.ofNat o), .int (Int32.ofNat len), .null] ∧ Blank "java/lang/String" a D s ∧ Found "java/lang/String" "value" "[B" fV s ∧ Found "java/lang/String" "coder" "B" fC s ∧ Ch b A s ∧ StaticIs s "java/lang/String" "COMPACT_STRINGS" "Z" (.int z) ∧ ¬ z = 0 ∧ 0 < len ∧ o + len ≤ A.slots.size ∧ len ≤ 536870912 ∧ ∀ i, i < len → ¬ 255 < cv A (o + i)
def E (a : Addr) (D : Cell) (fV fC : Field) (A : Cell) (o len : Nat) (r : Option Value) (s u : State) : Prop := Got a D fV fC A o len r s u
/-- len > 0, no char of the range above 255: a Latin-1 String of their low bytes -/
theorem law (l : Launch) (a : Addr) (D : Cell) (fV fC : Field) (b : Addr) (A : Cell) (z : Int32) (o len : Nat) : Law l yN 5 4 2 35 yB 6 none site (P a D fV fC b A z o len) (E a D fV fC A o len) [⟨a, fC.slot⟩, ⟨a, fV.slot⟩] 1 len := by
  refine Law.of_walk (plainFor_of_name (by decide +kernel)) (by decide +kernel) (by decide +kernel) (by decide) (fun _ _ h => by rw [h.1]; rfl) (fun _ U U' hal hh h => ⟨h.1, h.2.1.mv hal hh, h.2.2.1.al hal, h.2.2.2.1.al hal, h.2.2.2.2.1.mv hal hh, h.2.2.2.2.2.1.there hal hh, h.2.2.2.2.2.2⟩) (fun r U U' V V' h1 hal h2 h => Got.mv r U U' V V' h1 hal h2 h) ?_
  intro p e s m args below meth c s₁ X0 hexec hbytes hml hret hlk hnm hown hh0 W hP
  obtain ⟨rfl, hB, f1, f2, hA, s1, hz, l0, l1, l2, hp⟩ := hP
  have a31 := hA.1.2.2.2
  have c1 : Steps p.tables e below (s₁.setTop (entryFrame m #[.ref a, .ref b, .int (Int32.ofNat o), .int (Int32.ofNat len), .null] 6)) (s₁.setTop (mkF m 0 #[.val (.ref a), .val (.ref b), .val (.int (Int32.ofNat o)), .val (.int (Int32.ofNat len)), .val .null, .unset] [])) := entry rfl
  have c2 : Steps p.tables e below (s₁.setTop (entryFrame m #[.ref a, .ref b, .int (Int32.ofNat o), .int (Int32.ofNat len), .null] 6)) (s₁.setTop (mkF m 1 #[.val (.ref a), .val (.ref b), .val (.int (Int32.ofNat o)), .val (.int (Int32.ofNat len)), .val .null, .unset] [.ref a])) := c1.trans (by
    refine XS.aloadN X0.here hexec rfl (hb hbytes d0) rfl rfl ?_
    exact Steps.refl _)
  obtain ⟨T3, X3, q3, st3⟩ := X0.oinit hexec hown (wks W (objW "java/lang/String" 1)) (g := (mkF m 1 #[.val (.ref a), .val (.ref b), .val (.int (Int32.ofNat o)), .val (.int (Int32.ofNat len)), .val .null, .unset] [.ref a])) rfl (by rw [hml]; rfl) (rest := []) rfl (hb hbytes d1) (W := 0) (by show 2 * 0 + 0 ≤ _; decide) (Nat.le_of_ble_eq_true rfl) (Nat.le_of_ble_eq_true rfl)
  have hh3 := q3.trans hh0
  have c4 : Steps p.tables e below (s₁.setTop (entryFrame m #[.ref a, .ref b, .int (Int32.ofNat o), .int (Int32.ofNat len), .null] 6)) (T3.setTop (mkF m 27 #[.val (.ref a), .val (.ref b), .val (.int (Int32.ofNat o)), .val (.int (Int32.ofNat len)), .val .null, .unset] [])) := (c2.trans (st3 _ (Steps.refl _))).trans (by
    refine XS.iloadN X3.here hexec rfl (hb hbytes d4) rfl ?_
    refine XS.ifYes X3.here hexec rfl (pc0 := 5) rfl (hb hbytes d5) rfl (i0_ne_t (nz32 (by omega) l0)) (by decide) rfl ?_
    exact Steps.refl _)
  obtain ⟨T5, X5, q5, st5⟩ := X3.sget hexec hown (wk W (.fieldLink "java/lang/String" 38 "java/lang/String" "COMPACT_STRINGS" "Z")) s1 (fun _ _ h => by rw [hh3]; exact h) (g := (mkF m 27 #[.val (.ref a), .val (.ref b), .val (.int (Int32.ofNat o)), .val (.int (Int32.ofNat len)), .val .null, .unset] [])) rfl (hb hbytes d27)
  have hh5 := q5.trans hh3
  have c6 : Steps p.tables e below (s₁.setTop (entryFrame m #[.ref a, .ref b, .int (Int32.ofNat o), .int (Int32.ofNat len), .null] 6)) (T5.setTop (mkF m 30 #[.val (.ref a), .val (.ref b), .val (.int (Int32.ofNat o)), .val (.int (Int32.ofNat len)), .val .null, .unset] [.int z])) := c4.trans (st5 _ (Steps.refl _))
  have c7 : Steps p.tables e below (s₁.setTop (entryFrame m #[.ref a, .ref b, .int (Int32.ofNat o), .int (Int32.ofNat len), .null] 6)) (T5.setTop (mkF m 36 #[.val (.ref a), .val (.ref b), .val (.int (Int32.ofNat o)), .val (.int (Int32.ofNat len)), .val .null, .unset] [.int (Int32.ofNat len), .int (Int32.ofNat o), .ref b])) := c6.trans (by
    refine XS.ifNo X5.here hexec rfl (hb hbytes d30) rfl (i0_eq_f hz) ?_
    refine XS.aloadN X5.here hexec rfl (hb hbytes d33) rfl rfl ?_
    refine XS.iloadN X5.here hexec rfl (hb hbytes d34) rfl ?_
    refine XS.iloadN X5.here hexec rfl (hb hbytes d35) rfl ?_
    exact Steps.refl _)
  obtain ⟨v8, T8, X8, E8, g8⟩ := X5.callS hexec (Cmp3.law l b A o len) hown (wks W (staticW "java/lang/String" 177 Cmp3.yN)) (wk W Cmp3.tab) (W := 0) (Nat.le_of_ble_eq_true rfl) (Nat.le_of_ble_eq_true rfl) (Nat.le_refl _) (by show 0 + len ≤ len; omega) (g := (mkF m 36 #[.val (.ref a), .val (.ref b), .val (.int (Int32.ofNat o)), .val (.int (Int32.ofNat len)), .val .null, .unset] [.int (Int32.ofNat len), .int (Int32.ofNat o), .ref b])) rfl (by rw [hml]; rfl) c7 (argsL := [.ref b, .int (Int32.ofNat o), .int (Int32.ofNat len)]) (rest := []) rfl rfl (by show 2 * 0 + 0 ≤ _; decide) (hb hbytes d36) (⟨rfl, hA.mv X5.warmed.alike hh5, l1, l2, hp⟩)
  obtain ⟨e8, z8⟩ := E8
  obtain ⟨rfl, N, n1, n2, n3, n4, n5, n6⟩ := NewArr.mv _ T5 s _ _ hh5.symm (Vm.Alike.refl _) rfl e8
  rw [hh5] at z8
  have hB1 := hB.keep X8.warmed.alike (n6 _ _ hB.1)
  have hne : s.heap.size ≠ a := (Nat.ne_of_lt (Array.getElem?_eq_some_iff.mp hB.1).1).symm
  have c9 : Steps p.tables e below (s₁.setTop (entryFrame m #[.ref a, .ref b, .int (Int32.ofNat o), .int (Int32.ofNat len), .null] 6)) (T8.setTop (mkF m 39 #[.val (.ref a), .val (.ref b), .val (.int (Int32.ofNat o)), .val (.int (Int32.ofNat len)), .val .null, .unset] [.ref s.heap.size])) := g8
  have c10 : Steps p.tables e below (s₁.setTop (entryFrame m #[.ref a, .ref b, .int (Int32.ofNat o), .int (Int32.ofNat len), .null] 6)) (T8.setTop (mkF m 45 #[.val (.ref a), .val (.ref b), .val (.int (Int32.ofNat o)), .val (.int (Int32.ofNat len)), .val .null, .val (.ref s.heap.size)] [.int (Int32.ofNat N.slots.size), .ref s.heap.size, .ref a])) := by
    have hc : Steps p.tables e below (s₁.setTop (entryFrame m #[.ref a, .ref b, .int (Int32.ofNat o), .int (Int32.ofNat len), .null] 6)) (T8.setTop (mkF m 45 #[.val (.ref a), .val (.ref b), .val (.int (Int32.ofNat o)), .val (.int (Int32.ofNat len)), .val .null, .val (.ref s.heap.size)] [.int (Int32.ofNat len), .ref s.heap.size, .ref a])) := c9.trans (by
      refine XS.astore X8.here hexec rfl (hb hbytes d39) rfl rfl rfl ?_
      refine XS.aloadN X8.here hexec rfl (hb hbytes d41) rfl rfl ?_
      refine XS.aload X8.here hexec rfl (hb hbytes d42) rfl rfl ?_
      refine XS.iloadN X8.here hexec rfl (hb hbytes d44) rfl ?_
      exact Steps.refl _)
    rw [n4]; exact hc
  obtain ⟨v11, T11, X11, E11, g11⟩ := X8.callS hexec (CodL.law l s.heap.size N) hown (wks W (staticW "java/lang/String" 47 CodL.yN)) (wk W CodL.tab) (W := 1) (Nat.le_of_ble_eq_true rfl) (Nat.le_of_ble_eq_true rfl) (Nat.le_refl _) (by show 0 + len + 0 ≤ len; omega) (g := (mkF m 45 #[.val (.ref a), .val (.ref b), .val (.int (Int32.ofNat o)), .val (.int (Int32.ofNat len)), .val .null, .val (.ref s.heap.size)] [.int (Int32.ofNat N.slots.size), .ref s.heap.size, .ref a])) rfl (by rw [hml]; rfl) c10 (argsL := [.ref s.heap.size, .int (Int32.ofNat N.slots.size)]) (rest := [.ref a]) rfl rfl (by show 2 * 0 + (1 + 0) ≤ _; decide) (hb hbytes d45) (⟨rfl, n1⟩)
  obtain ⟨rfl, q11⟩ := E11
  have hB11 := hB1.mv (X8.warmed.alike.symm.trans X11.warmed.alike) q11
  have c12 : Steps p.tables e below (s₁.setTop (entryFrame m #[.ref a, .ref b, .int (Int32.ofNat o), .int (Int32.ofNat len), .null] 6)) (T11.setTop (mkF m 48 #[.val (.ref a), .val (.ref b), .val (.int (Int32.ofNat o)), .val (.int (Int32.ofNat len)), .val .null, .val (.ref s.heap.size)] [.int 0, .ref a])) := g11
  obtain ⟨T13, X13, p13, bl13, sl13, st13⟩ := X11.finit hexec hown (wk W (.fieldLink "java/lang/String" 15 "java/lang/String" "coder" "B")) (Or.inr ⟨_, (wk W (.laysFinal "java/lang/String" "java/lang/String" "coder" "B"))⟩) (Or.inl ⟨rfl, hnm⟩) f2 (Or.inl rfl) hB11 (t := .byte) (by decide +kernel) rfl (g := (mkF m 48 #[.val (.ref a), .val (.ref b), .val (.int (Int32.ofNat o)), .val (.int (Int32.ofNat len)), .val .null, .val (.ref s.heap.size)] [.int 0, .ref a])) rfl (rest := []) rfl (hb hbytes d48)
  have c14 : Steps p.tables e below (s₁.setTop (entryFrame m #[.ref a, .ref b, .int (Int32.ofNat o), .int (Int32.ofNat len), .null] 6)) (T13.setTop (mkF m 54 #[.val (.ref a), .val (.ref b), .val (.int (Int32.ofNat o)), .val (.int (Int32.ofNat len)), .val .null, .val (.ref s.heap.size)] [.ref s.heap.size, .ref a])) := (c12.trans (st13 _ (Steps.refl _))).trans (by
    refine XS.aloadN X13.here hexec rfl (hb hbytes d51) rfl rfl ?_
    refine XS.aload X13.here hexec rfl (hb hbytes d52) rfl rfl ?_
    exact Steps.refl _)
  obtain ⟨T15, X15, p15, bl15, sl15, st15⟩ := X13.finit hexec hown (wk W (.fieldLink "java/lang/String" 9 "java/lang/String" "value" "[B")) (Or.inr ⟨_, (wk W (.laysFinal "java/lang/String" "java/lang/String" "value" "[B"))⟩) (Or.inl ⟨rfl, hnm⟩) f1 (Or.inl rfl) bl13 (t := (.array .byte)) (by decide +kernel) rfl (g := (mkF m 54 #[.val (.ref a), .val (.ref b), .val (.int (Int32.ofNat o)), .val (.int (Int32.ofNat len)), .val .null, .val (.ref s.heap.size)] [.ref s.heap.size, .ref a])) rfl (rest := []) rfl (hb hbytes d54)
  have c16 : Steps p.tables e below (s₁.setTop (entryFrame m #[.ref a, .ref b, .int (Int32.ofNat o), .int (Int32.ofNat len), .null] 6)) (T15.setTop (mkF m 57 #[.val (.ref a), .val (.ref b), .val (.int (Int32.ofNat o)), .val (.int (Int32.ofNat len)), .val .null, .val (.ref s.heap.size)] [])) := c14.trans (st15 _ (Steps.refl _))
  have ap := apart (Or.inr ⟨_, (wk W (.laysFinal "java/lang/String" "java/lang/String" "value" "[B"))⟩) (Or.inr ⟨_, (wk W (.laysFinal "java/lang/String" "java/lang/String" "coder" "B"))⟩) f1 f2 (t₁ := .array .byte) (t₂ := .byte) (by decide +kernel) (by decide +kernel) (by decide)
  have al := X8.warmed.alike.symm.trans X15.warmed.alike
  have n7 : T11.heap[s.heap.size]? = some N := by rw [q11]; exact n1.1
  exact ⟨T15, none, _, _, _, X15, by simp, rfl, by omega, (fun _ => rfl), ⟨rfl, _, N, bl15, ((Same.refl D _).set _ (by simp)).set _ (by simp), sl15, (Cell.slots_setSlot_ne _ ap).trans sl13, n1.keep al (p15.other hne (p13.other hne n7)), n2, by rw [al.findClass]; exact n3, n4, n5, fun y c h1 h2 => p15.other h1 (p13.other h1 (by rw [q11]; exact n6 y c h2)), by rw [p15.2.2, p13.2.2, q11]; exact z8⟩, fun fs hl => c16.trans (X15.returnOut hexec hret (hb hbytes d57) hl)⟩
end New4
namespace New1
def yN : MethodName := ⟨"java/lang/String", "<init>", "([C)V"⟩
abbrev yB : ByteArray := jdk_42_method_3_code
theorem d0 : decode yB 0 = .ok (.aload_n 0, 1) := by decide +kernel
theorem d1 : decode yB 1 = .ok (.aload_n 1, 1) := by decide +kernel
theorem d2 : decode yB 2 = .ok (.iconst 0, 1) := by decide +kernel
theorem d3 : decode yB 3 = .ok (.aload_n 1, 1) := by decide +kernel
theorem d4 : decode yB 4 = .ok (.arraylength, 1) := by decide +kernel
theorem d5 : decode yB 5 = .ok (.aconst_null, 1) := by decide +kernel
theorem d6 : decode yB 6 = .ok (.invokespecial 27, 3) := by decide +kernel
theorem d9 : decode yB 9 = .ok (.return_, 1) := by decide +kernel
def site : List Cond := [New4.tab] ++ initW "java/lang/String" 27 New4.yN
def tab : Cond := tabOf yN yB 2 none site
def P (a : Addr) (D : Cell) (fV fC : Field) (b : Addr) (A : Cell) (z : Int32) (args : Array Value) (s : State) : Prop := args = #[.ref a, .ref b] ∧ Blank "java/lang/String" a D s ∧ Found "java/lang/String" "value" "[B" fV s ∧ Found "java/lang/String" "coder" "B" fC s ∧ Ch b A s ∧ StaticIs s "java/lang/String" "COMPACT_STRINGS" "Z" (.int z) ∧ ¬ z = 0 ∧ 0 < A.slots.size ∧ A.slots.size ≤ 536870912 ∧ ∀ i, i < A.slots.size → ¬ 255 < cv A i
def E (a : Addr) (D : Cell) (fV fC : Field) (A : Cell) (r : Option Value) (s u : State) : Prop := Got a D fV fC A 0 A.slots.size r s u
/-- new String(chars), not empty, no char above 255: a Latin-1 String of their low bytes -/
theorem law (l : Launch) (a : Addr) (D : Cell) (fV fC : Field) (b : Addr) (A : Cell) (z : Int32) : Law l yN 2 1 3 52 yB 2 none site (P a D fV fC b A z) (E a D fV fC A) [⟨a, fC.slot⟩, ⟨a, fV.slot⟩] 1 A.slots.size := by
  refine Law.of_walk (plainFor_of_name (by decide +kernel)) (by decide +kernel) (by decide +kernel) (by decide) (fun _ _ h => by rw [h.1]; rfl) (fun _ U U' hal hh h => ⟨h.1, h.2.1.mv hal hh, h.2.2.1.al hal, h.2.2.2.1.al hal, h.2.2.2.2.1.mv hal hh, h.2.2.2.2.2.1.there hal hh, h.2.2.2.2.2.2⟩) (fun r U U' V V' h1 hal h2 h => Got.mv r U U' V V' h1 hal h2 h) ?_
  intro p e s m args below meth c s₁ X0 hexec hbytes hml hret hlk hnm hown hh0 W hP
  obtain ⟨rfl, hB, f1, f2, hA, s1, hz, l0, l2, hp⟩ := hP
  have c1 : Steps p.tables e below (s₁.setTop (entryFrame m #[.ref a, .ref b] 2)) (s₁.setTop (mkF m 0 #[.val (.ref a), .val (.ref b)] [])) := entry rfl
  have c2 : Steps p.tables e below (s₁.setTop (entryFrame m #[.ref a, .ref b] 2)) (s₁.setTop (mkF m 6 #[.val (.ref a), .val (.ref b)] [.null, .int (Int32.ofNat A.slots.size), .int 0, .ref b, .ref a])) := c1.trans (by
    refine XS.aloadN X0.here hexec rfl (hb hbytes d0) rfl rfl ?_
    refine XS.aloadN X0.here hexec rfl (hb hbytes d1) rfl rfl ?_
    refine iconstV X0.here hexec rfl 0 (hb hbytes d2) (by decide) ?_
    refine XS.aloadN X0.here hexec rfl (hb hbytes d3) rfl rfl ?_
    refine X0.alen hexec (hA.1.mv X0.warmed.alike hh0) rfl rfl (hb hbytes d4) ?_
    refine XS.aconstNull X0.here hexec rfl (hb hbytes d5) ?_
    exact Steps.refl _)
  obtain ⟨v3, T3, X3, E3, g3⟩ := X0.callN hexec (New4.law l a D fV fC b A z 0 A.slots.size) rfl hown (wks W (initW "java/lang/String" 27 New4.yN)) (W New4.tab (by simp only [site, List.mem_cons, List.mem_append, true_or, or_true])) (W := 0) (Nat.le_of_ble_eq_true rfl) (Nat.le_of_ble_eq_true rfl) (Nat.le_refl _) (by show 0 + A.slots.size ≤ A.slots.size; omega) (g := (mkF m 6 #[.val (.ref a), .val (.ref b)] [.null, .int (Int32.ofNat A.slots.size), .int (Int32.ofNat 0), .ref b, .ref a])) rfl (by rw [hml]; rfl) c2 (argsL := [.ref b, .int (Int32.ofNat 0), .int (Int32.ofNat A.slots.size), .null]) (rest := []) rfl rfl (by show 2 * 0 + 0 ≤ _; decide) (hb hbytes d6) (⟨rfl, hB.mv X0.warmed.alike hh0, f1.al X0.warmed.alike, f2.al X0.warmed.alike, hA.mv X0.warmed.alike hh0, s1.there X0.warmed.alike hh0, hz, l0, by omega, l2, fun i hi => by rw [Nat.zero_add]; exact hp i hi⟩)
  have e0 := Got.mv _ s₁ s _ _ hh0.symm (Vm.Alike.refl _) rfl E3
  obtain rfl := e0.1
  have c4 : Steps p.tables e below (s₁.setTop (entryFrame m #[.ref a, .ref b] 2)) (T3.setTop (mkF m 9 #[.val (.ref a), .val (.ref b)] [])) := g3
  exact ⟨T3, none, _, _, _, X3, by simp, rfl, by omega, (fun _ => rfl), e0, fun fs hl => c4.trans (X3.returnOut hexec hret (hb hbytes d9) hl)⟩
theorem pays {l : Launch} {R : Room} {p : Program} {e : Env} {below : List Frame} {s : State} {sargs : Array Value} {len W : Nat} (a : Addr) (D : Cell) (fV fC : Field) (b : Addr) (A : Cell) (z : Int32) (htab : tab.before sargs s = true) (hfr : 4 ≤ R.frames) (hlo : W + 65 ≤ R.locals) :
    Back l R p e below s sargs yN len W (fun A₁ a₁ => A₁.cells + 1 ≤ R.cells ∧ A₁.slots + A.slots.size ≤ R.slots ∧ P a D fV fC b A z a₁ A₁.U) (fun A₁ _ v₁ B₁ => E a D fV fC A v₁ A₁.U B₁.U ∧ B₁.locs = A₁.locs ++ [⟨a, fC.slot⟩, ⟨a, fV.slot⟩] ∧ B₁.cells = A₁.cells + 1 ∧ B₁.slots = A₁.slots + A.slots.size) :=
  (law l a D fV fC b A z).pays htab hfr (by omega)
end New1
/-- the byte, read back as charAt reads it, is the char -/
theorem lo8_mask {x : Int32} (h0 : ¬ x < 0) (h1 : ¬ 255 < x) : lo8 x &&& 255 = x := by
  have t : ∀ k : Fin 256, lo8 (Int32.ofNat k.val) &&& 255 = Int32.ofNat k.val := by decide +kernel
  rw [Int32.lt_iff_toInt_lt] at h0 h1
  have e0 : (0 : Int32).toInt = 0 := rfl
  have e1 : (255 : Int32).toInt = 255 := rfl
  obtain ⟨k, hk⟩ : ∃ k : Nat, x.toInt = k := ⟨x.toInt.toNat, by omega⟩
  have hx : x = Int32.ofNat k := Int32.toInt_inj.mp (by rw [hk, Int32.toInt_ofNat_small (by omega)])
  rw [hx]
  exact t ⟨k, by omega⟩
end StrChars
namespace StrChars.Road
open Jvm Sem ClassFile Op Lib Jvm.Stand Jvm.Free Jvm.Free.XT
open Jvm.Lib.Cold (StaticIs)
abbrev ST : String := "java/lang/String"
/-- every table word that New1's law asks, flat -/
abbrev words : List Jvm.Cond := [.code New1.yN New1.yB 2 none, .initialized ST, .methodLink ST 27 New4.yN, .instanceMethod New4.yN,
  .code New4.yN New4.yB 6 none, .fieldLink ST 38 ST "COMPACT_STRINGS" "Z", .laysFinal ST ST "value" "[B", .fieldLink ST 9 ST "value" "[B", .laysFinal ST ST "coder" "B", .fieldLink ST 15 ST "coder" "B",
  .methodLink ST 1 Lib.objectInit, .instanceMethod Lib.objectInit, .code Lib.objectInit ⟨#[0xb1]⟩ 1 none, .methodLink ST 177 Cmp3.yN, .static Cmp3.yN, .methodLink ST 47 CodL.yN, .static CodL.yN,
  .code Cmp3.yN Cmp3.yB 6 (some (.array .byte)), .initialized U16, .arrayClass .byte, .methodLink U16 115 Cmp5.yN, .static Cmp5.yN, .code Cmp5.yN Cmp5.yB 7 (some .int), .code CodL.yN CodL.yB 2 (some .byte)]
theorem tab_of {a : Array Value} {s : State} (h : ∀ w ∈ words, w.before a s = true) : New1.tab.before a s = true := by
  have h5 : Cmp5.tab.before a s = true := unparts (wk h (.code Cmp5.yN Cmp5.yB 7 (some .int))) (wks h (.initialized Cmp5.yN.cls :: Cmp5.site))
  have hc : CodL.tab.before a s = true := unparts (wk h (.code CodL.yN CodL.yB 2 (some .byte))) (wks h (.initialized CodL.yN.cls :: CodL.site))
  have q5 : ∀ w ∈ Cmp5.tab :: words, w.before a s = true := fun w hw => (List.mem_cons.mp hw).elim (fun e => e ▸ h5) (h w)
  have h3 : Cmp3.tab.before a s = true := unparts (wk q5 (.code Cmp3.yN Cmp3.yB 6 (some (.array .byte)))) (wks q5 (.initialized Cmp3.yN.cls :: Cmp3.site))
  have q3 : ∀ w ∈ Cmp3.tab :: CodL.tab :: words, w.before a s = true := fun w hw => (List.mem_cons.mp hw).elim (fun e => e ▸ h3) fun hw => (List.mem_cons.mp hw).elim (fun e => e ▸ hc) (h w)
  have h4 : New4.tab.before a s = true := unparts (wk q3 (.code New4.yN New4.yB 6 none)) (wks q3 (.initialized New4.yN.cls :: New4.site))
  have q4 : ∀ w ∈ New4.tab :: words, w.before a s = true := fun w hw => (List.mem_cons.mp hw).elim (fun e => e ▸ h4) (h w)
  exact unparts (wk q4 (.code New1.yN New1.yB 2 none)) (wks q4 (.initialized New1.yN.cls :: New1.site))
/-- the words ride from the start Z to the walk's own state -/
theorem moved {Z s : State} {a0 args : Array Value} (hZ : Z.Warmed39 s.vm) (hw : ∀ d ∈ words, d.before a0 Z = true) : ∀ d ∈ words, d.before args s = true := fun d hd => by
  have q := hw d hd
  have t : ∀ d ∈ words, d = .arrayClass .byte ∨ (d.onTables && d.keepsFace) = true := by decide +kernel
  rcases t d hd with rfl | t
  · exact RoadKit.mvA hZ q
  · exact RoadKit.mv hZ q t
/-- WHAT COMES BACK, over the tables of the start Z: h the heap at the call, h' behind it -/
def Q (Z : State) (x : Addr) (A : Cell) (h : Heap) (v : Option Value) (h' : Heap) (L : List Loc) : Prop := v = none ∧ (∀ y ∈ L, y.base = x) ∧ RoadKit.Keep h h' [x] ∧ h'.size = h.size + 1 ∧ RoadKit.Exa Z h' x ST ∧ RoadKit.Fld Z h' x ST "value" "[B" (.ref h.size) ∧ RoadKit.Fld Z h' x ST "coder" "B" (.int 0) ∧
  (∃ V : Cell, RoadKit.Arr Z h' h.size V .byte ∧ V.vm = .none ∧ Z.vm.findClass "[B" = some V.cls ∧ V.slots.size = A.slots.size ∧ ∀ j, j < A.slots.size → V.slots[j]? = some (.int (lo8 (cv A j)))) ∧
  ∀ (O n d : String) (w : Value), RoadKit.Fld Z h x O n d w → RoadKit.slotOf Z O n d ≠ RoadKit.slotOf Z ST "value" "[B" → RoadKit.slotOf Z O n d ≠ RoadKit.slotOf Z ST "coder" "B" → RoadKit.Fld Z h' x O n d w
/-- **new String(chars) AT A CALL, IN THE ROAD'S FORM**: for specialBack behind newO: x the fresh String, b the char[] with the cell A -/
theorem back {p : Program} {l : Launch} {e : Env} {R : Room} {s : State} {args : Array Value} {below : List Frame} {len W : Nat} {Z : State} {a0 : Array Value} {h : Heap} (hZ : Z.Warmed39 s.vm) (hw : ∀ d ∈ words, d.before a0 Z = true) {kI : Nat} (wi : (Jvm.Cond.instantiable ST kI).before a0 Z = true)
    {x b : Addr} {A : Cell} {z : Int32} {v0 c0 : Value} (E : RoadKit.Exa Z h x ST) (V : RoadKit.Fld Z h x ST "value" "[B" v0) (C : RoadKit.Fld Z h x ST "coder" "B" c0) (K : RoadKit.Arr Z h b A .char) (hty : Typed .char A) (S : RoadKit.Sta Z h ST "COMPACT_STRINGS" "Z" (.int z)) (hz : ¬ z = 0)
    (l0 : 0 < A.slots.size) (l2 : A.slots.size ≤ 536870912) (hp : ∀ i, i < A.slots.size → ¬ 255 < cv A i) (hfr : 4 ≤ R.frames) (hlo : W + 65 ≤ R.locals) :
    Back l R p e below s args New1.yN len W (fun P a => a = #[.ref x, .ref b] ∧ P.U.heap = h ∧ P.cells + 1 ≤ R.cells ∧ P.slots + A.slots.size ≤ R.slots)
      (fun P _ v B => ∃ L, Q Z x A h v B.U.heap L ∧ B.locs = P.locs ++ L ∧ B.cells = P.cells + 1 ∧ B.slots = P.slots + A.slots.size) := by
  intro m meth c P g ig mk a X hg hsize hdg hW hn hp'
  obtain ⟨rfl, rfl, r1, r2⟩ := hp'
  have al : Z.vm.Alike P.U.vm := hZ.alike.trans X.warmed.alike
  obtain ⟨D, cfV, kV, iV, fV, hD, gV, stV, knV, obV, asV, slV⟩ := id V
  obtain ⟨D', cfC, kC, iC, fC, hD', gC, stC, -, -, asC, slC⟩ := id C
  cases hD.symm.trans hD'
  obtain ⟨D2, kD, e1, e2, e3, e4, e5⟩ := id E
  cases hD.symm.trans e1
  obtain ⟨c2, k2, i1, i2, i3, -⟩ := Cond.instantiable_spec wi
  cases e2.symm.trans i1
  cases e3.symm.trans i2
  obtain ⟨kU, u1, u2⟩ := al.2.2 _ _ e3
  have hB : Blank ST x D P.U := ⟨hD, ⟨knV, fun q hq => by rw [hq] at obV; cases obV⟩, by rw [al.findClass]; exact e2, kU, u1, by rw [u2]; exact i3, by rw [u2]; exact e5 i3⟩
  have F1 : Found ST "value" "[B" fV P.U := ⟨SBG.found_only al ⟨cfV, kV, iV, gV⟩, stV⟩
  have F2 : Found ST "coder" "B" fC P.U := ⟨SBG.found_only al ⟨cfC, kC, iC, gC⟩, stC⟩
  have hA : Ch b A P.U := ⟨⟨K.1, State.isArrayOf_alike al K.2.1, K.2.2, by omega⟩, hty⟩
  have hS : StaticIs P.U ST "COMPACT_STRINGS" "Z" (.int z) := by
    obtain ⟨cfS, iS, kS, fS, st, cS, t1, t2, t3, t4, t5, t6, t7⟩ := S
    exact StaticIs.there (s := { Z with heap := P.U.heap }) ⟨cfS, iS, kS, fS, st, cS, t1, t2, t3, t4, t5, (fun q => by rw [q] at t6; cases t6), t7⟩ al rfl
  obtain ⟨v, B, X', ⟨⟨hv, E', V', q1, q2, q3, q4, q5, q6, q7, q8, q9, q10, q11⟩, hl, hc, hs⟩, st⟩ := New1.pays x D fV fC b A z (tab_of (moved hZ hw)) hfr hlo m meth c P g ig mk _ X hg hsize hdg hW hn ⟨r1, r2, rfl, hB, F1, F2, hA, hS, hz, l0, l2, hp⟩
  have al' : Z.vm.Alike B.U.vm := hZ.alike.trans X'.warmed.alike
  have hsz : E'.slots.size = D.slots.size := by
    obtain ⟨-, -, -, kB, w1, w2, w3⟩ := q1
    obtain ⟨kB', y1, y2⟩ := al'.2.2 _ _ e3
    rw [q2.2.1] at w1
    cases w1.symm.trans y1
    rw [w3, e5 i3, y2]
  refine ⟨v, B, X', ⟨_, ⟨hv, ?_, ⟨by omega, fun y cy hy hn' => q10 y cy (by simpa using hn') hy, fun y cy hy => ?_⟩, q11, ⟨E', _, q1.1, by rw [q2.2.1]; exact e2, by rw [q2.2.1]; exact e3, by rw [q2.1]; exact obV, fun _ => by rw [hsz]; exact e5 i3⟩,
    ⟨E', cfV, kV, iV, fV, q1.1, gV, stV, by rw [q2.1]; exact knV, by rw [q2.1]; exact obV, by rw [q2.2.1]; exact asV, q3⟩, ⟨E', cfC, kC, iC, fC, q1.1, gC, stC, by rw [q2.1]; exact knV, by rw [q2.1]; exact obV, by rw [q2.2.1]; exact asC, q4⟩,
    ⟨V', ⟨q5.1, State.isArrayOf_alike al'.symm q5.2.1, q5.2.2.1⟩, q6, by rw [← al'.findClass]; exact q7, q8, fun j hj => by have := q9 j hj; rwa [Nat.zero_add] at this⟩, fun O n d w F n1 n2 => ?_⟩, hl, hc, hs⟩, st⟩
  · intro y hy
    simp only [List.mem_cons, List.not_mem_nil, or_false] at hy
    rcases hy with rfl | rfl <;> rfl
  · by_cases q : y = x
    · subst q
      cases hD.symm.trans hy
      exact ⟨E', q1.1, q2.2.1, q2.1, hsz⟩
    · exact ⟨cy, q10 y cy q hy, rfl, rfl, rfl⟩
  · obtain ⟨D3, cf, k, i, f, g1, g2, g3, g4, g5, g6, g7⟩ := F
    cases hD.symm.trans g1
    simp only [RoadKit.slotOf, g2, gV, gC, Option.map_some, Option.getD_some] at n1 n2
    exact ⟨E', cf, k, i, f, q1.1, g2, g3, by rw [q2.1]; exact g4, by rw [q2.1]; exact g5, by rw [q2.2.1]; exact g6, by rw [q2.2.2 f.slot (by simp [n1, n2])]; exact g7⟩
end StrChars.Road
namespace StrChars.Road
open Jvm Sem ClassFile Op Lib Jvm.Stand Jvm.Free Jvm.Free.XT
/-- WHAT COMES BACK, the byte[] as a list of values -/
def QA (Z : State) (x : Addr) (zn : Int32) (cs : List Int32) (h : Heap) (v : Option Value) (h' : Heap) (L : List Loc) : Prop := v = none ∧ (∀ y ∈ L, y.base = x) ∧ RoadKit.Keep h h' [x] ∧ h'.size = h.size + 1 ∧ RoadKit.Exa Z h' x ST ∧ RoadKit.Fld Z h' x ST "value" "[B" (.ref h.size) ∧ RoadKit.Fld Z h' x ST "coder" "B" (.int 0) ∧
  (∃ kb, Z.vm.findClass "[B" = some kb ∧ RoadKit.Arv Z h' h.size kb .byte zn (cs.map fun c => .int (lo8 c)) (.int 0)) ∧
  ∀ (O n d : String) (w : Value), RoadKit.Fld Z h x O n d w → RoadKit.slotOf Z O n d ≠ RoadKit.slotOf Z ST "value" "[B" → RoadKit.slotOf Z O n d ≠ RoadKit.slotOf Z ST "coder" "B" → RoadKit.Fld Z h' x O n d w
/-- **new String(chars) AT A CALL, THE ARRAYS AS LISTS**: the char[] at b holds cs, not empty, no char above 255 -/
theorem backArv {p : Program} {l : Launch} {e : Env} {R : Room} {s : State} {args : Array Value} {below : List Frame} {len W : Nat} {Z : State} {a0 : Array Value} {h : Heap} (hZ : Z.Warmed39 s.vm) (hw : ∀ d ∈ words, d.before a0 Z = true) {kI : Nat} (wi : (Jvm.Cond.instantiable ST kI).before a0 Z = true)
    {x b : Addr} {k : ClassId} {zn z : Int32} {cs : List Int32} {dv v0 c0 : Value} (E : RoadKit.Exa Z h x ST) (V : RoadKit.Fld Z h x ST "value" "[B" v0) (C : RoadKit.Fld Z h x ST "coder" "B" c0) (K : RoadKit.Arv Z h b k .char zn (cs.map Value.int) dv) (S : RoadKit.Sta Z h ST "COMPACT_STRINGS" "Z" (.int z)) (hz : ¬ z = 0)
    (hlen : zn.toNatClampNeg = cs.length) (h0 : 0 < cs.length) (hbig : cs.length ≤ 536870912) (hall : ∀ c ∈ cs, ¬ 255 < c) (hfr : 4 ≤ R.frames) (hlo : W + 65 ≤ R.locals) :
    Back l R p e below s args New1.yN len W (fun P a => a = #[.ref x, .ref b] ∧ P.U.heap = h ∧ P.cells + 1 ≤ R.cells ∧ P.slots + cs.length ≤ R.slots)
      (fun P _ v B => ∃ L, QA Z x zn cs h v B.U.heap L ∧ B.locs = P.locs ++ L ∧ B.cells = P.cells + 1 ∧ B.slots = P.slots + cs.length) := by
  obtain ⟨A, K1, K2, K3, K4, K5, K6⟩ := K
  have e : A.slots.size = cs.length := K3.trans hlen
  have hat : ∀ (i : Nat) (hi : i < cs.length), A.slots[i]? = some (.int cs[i]) := fun i hi => by rw [K5 i (by omega)]; simp [List.getD_eq_getElem?_getD, hi]
  have hcv : ∀ (i : Nat) (hi : i < cs.length), cv A i = cs[i] := fun i hi => by unfold cv; rw [hat i hi]
  have hty : Typed .char A := fun i v hv => by
    have hi : i < A.slots.size := (Array.getElem?_eq_some_iff.mp hv).1
    have q := K5 i hi
    rw [hv] at q
    rw [Option.some.inj q]
    exact K6 i hi
  refine Back.mono (back hZ hw wi E V C K1 hty S hz (by omega) (by omega) (fun i hi => by rw [hcv i (by omega)]; exact hall _ (List.getElem_mem _)) hfr hlo) (fun P a hp => ⟨hp.1, hp.2.1, hp.2.2.1, by rw [e]; exact hp.2.2.2⟩) (fun P a v B hp hq => ?_)
  obtain ⟨L, ⟨q1, q2, q3, q4, q5, q6, q7, ⟨V', v1, v2, v3, v4, v5⟩, q9⟩, hl, hc, hs⟩ := hq
  refine ⟨L, ⟨q1, q2, q3, q4, q5, q6, q7, ⟨V'.cls, v3, V', v1, rfl, by rw [v4, e, hlen], K4, fun i hi => ?_, fun i hi => ?_⟩, q9⟩, hl, hc, by rw [hs, e]⟩
  · have hi' : i < cs.length := by omega
    rw [v5 i (by omega), hcv i hi']; simp [List.getD_eq_getElem?_getD, hi']
  · have hi' : i < cs.length := by omega
    simp only [List.getD_eq_getElem?_getD, List.getElem?_map, List.getElem?_eq_getElem hi', Option.map_some, Option.getD_some]
    exact fits_lo8 _
end StrChars.Road
namespace StrChars.Road
open Jvm Sem ClassFile Op Lib Jvm.Stand Jvm.Free Jvm.Free.XT
/-- WHAT COMES BACK, in the writer's own shape -/
def QV (Z : State) (x : Addr) (N : Int32) (bs : List Int32) (h : Heap) (n0 : Nat) (v : Option Value) (h' : Heap) (L : List Loc) : Prop := v = none ∧ RoadKit.Fr n0 L ∧ RoadKit.Keep h h' [x] ∧ RoadKit.Exa Z h' x ST ∧ RoadKit.Fld Z h' x ST "coder" "B" (.int 0) ∧
  ∃ (t : Addr) (kb : ClassId), n0 ≤ t ∧ h.size ≤ t ∧ ¬ t = x ∧ RoadKit.Fld Z h' x ST "value" "[B" (.ref t) ∧ RoadKit.Arv Z h' t kb .byte N (bs.map Value.int) (.int 0)
/-- **new String(chars) AT A CALL, FOR THE WRITER**: a char[] of n known ints, each 0 to 255 -/
theorem backV {p : Program} {l : Launch} {e : Env} {R : Room} {s : State} {args : Array Value} {below : List Frame} {len W : Nat} {Z : State} {a0 : Array Value} {h : Heap} (hZ : Z.Warmed39 s.vm) (hw : ∀ d ∈ words, d.before a0 Z = true) {kI : Nat} (wi : (Jvm.Cond.instantiable ST kI).before a0 Z = true)
    {x b : Addr} {kC : ClassId} {cs bs : List Int32} {d v0 c0 : Value} {z N : Int32} {n n0 : Nat} (hx0 : n0 ≤ x) (hh0 : n0 ≤ h.size) (E : RoadKit.Exa Z h x ST) (V : RoadKit.Fld Z h x ST "value" "[B" v0) (C : RoadKit.Fld Z h x ST "coder" "B" c0) (K : RoadKit.Arv Z h b kC .char N (cs.map Value.int) d) (S : RoadKit.Sta Z h ST "COMPACT_STRINGS" "Z" (.int z)) (hz : ¬ z = 0)
    (hn : cs.length = n) (hN : N = Int32.ofNat n) (l0 : 0 < n) (l2 : n ≤ 4000) (hp : ∀ c ∈ cs, ¬ c < 0 ∧ ¬ (255 : Int32) < c) (hb : bs = cs.map (fun c => c.toInt8.toInt32)) (hfr : 4 ≤ R.frames) (hlo : W + 65 ≤ R.locals) :
    Back l R p e below s args (⟨"java/lang/String", "<init>", "([C)V"⟩ : MethodName) len W (fun P a => a = #[.ref x, .ref b] ∧ P.U.heap = h ∧ P.cells + 1 ≤ R.cells ∧ P.slots + n ≤ R.slots)
      (fun P _ v B => ∃ L, QV Z x N bs h n0 v B.U.heap L ∧ B.locs = P.locs ++ L ∧ B.cells = P.cells + 1 ∧ B.slots = P.slots + n) := by
  subst hn hN hb
  refine Back.mono (backArv hZ hw wi E V C K S hz (n32 (by omega)) l0 (by omega) (fun c hc => (hp c hc).2) hfr hlo) (fun P a hp => hp) (fun P a v B hp hq => ?_)
  obtain ⟨L, ⟨q1, q2, q3, q4, q5, q6, q7, ⟨kb, v1, v2⟩, q9⟩, hl, hc, hs⟩ := hq
  exact ⟨L, ⟨q1, fun y hy => by rw [q2 y hy]; exact hx0, q3, q5, q7, h.size, kb, hh0, Nat.le_refl _, Nat.ne_of_gt E.lt, q6, by rw [List.map_map]; exact v2⟩, hl, hc, hs⟩
end StrChars.Road
namespace StrChars
open Jvm Sem ClassFile Op Lib Jvm.Stand Jvm.Free.XT Jvm.Free.ALB Jvm.Free.JM Jvm.Free
open Jvm.Lib.Cold (StaticIs)
def hi8 (x : Int32) : Int32 := lo8 (x >>> ((8 : Int32) &&& 31))
/-- what StringUTF16.getChar makes of two bytes -/
def pairCh (u v : Int32) : Int32 := (((u &&& 255) <<< ((0 : Int32) &&& 31)) ||| ((v &&& 255) <<< ((8 : Int32) &&& 31))).toUInt32.toUInt16.toUInt32.toInt32
theorem shr0 (c : Int32) : c >>> ((0 : Int32) &&& 31) = c := by
  have e : ((0 : Int32) &&& 31) = 0 := by decide
  rw [e]
  apply Int32.toBitVec_inj.mp
  rw [Int32.toBitVec_shiftRight]
  have e1 : ((0 : Int32).toBitVec.smod 32) = 0#32 := by decide
  rw [e1, BitVec.sshiftRight_eq']
  exact BitVec.sshiftRight_zero
theorem lo8_and (x : Int32) : (lo8 x &&& 255).toBitVec.toNat = x.toBitVec.toNat % 256 := by
  have h : (lo8 x).toBitVec = (x.toBitVec.signExtend 8).signExtend 32 := by rw [lo8, Int8.toBitVec_toInt32, Int32.toBitVec_toInt8]
  rw [Int32.toBitVec_and, BitVec.toNat_and, h]
  have e : ((x.toBitVec.signExtend 8).signExtend 32).toNat % 256 = x.toBitVec.toNat % 256 := by
    rw [BitVec.toNat_signExtend]
    have hlt := x.toBitVec.isLt
    simp only [BitVec.toNat_setWidth, BitVec.toNat_signExtend]
    split <;> split <;> omega
  rw [← e]
  exact Nat.and_two_pow_sub_one_eq_mod _ 8
theorem pair_says {c : Int32} (h0 : ¬ c < 0) (h1 : ¬ 65535 < c) : pairCh (lo8 c) (hi8 c) = c := by
  rw [Int32.lt_iff_toInt_lt] at h0 h1
  have e0 : (0 : Int32).toInt = 0 := rfl
  have e1 : (65535 : Int32).toInt = 65535 := rfl
  have hc : c.toInt = c.toBitVec.toNat := by
    have := c.toBitVec.isLt
    have e : c.toInt = c.toBitVec.toInt := rfl
    rw [e] at h0 h1
    rw [e]
    rw [BitVec.toInt_eq_toNat_cond] at h0 h1 ⊢
    split at h0 <;> split <;> omega
  have hn : c.toBitVec.toNat < 65536 := by omega
  have a1 := lo8_and c
  have a2 : (hi8 c &&& 255).toBitVec.toNat = c.toBitVec.toNat / 256 := by
    rw [hi8, lo8_and]
    have e : ((8 : Int32) &&& 31) = 8 := by decide
    rw [e, Int32.toBitVec_shiftRight]
    have e2 : ((8 : Int32).toBitVec.smod 32) = 8#32 := by decide
    rw [e2, BitVec.sshiftRight_eq', BitVec.toNat_sshiftRight_of_msb_false (by rw [BitVec.msb_eq_false_iff_two_mul_lt]; omega)]
    show c.toBitVec.toNat >>> 8 % 256 = _
    rw [Nat.shiftRight_eq_div_pow]
    omega
  unfold pairCh
  apply Int32.toBitVec_inj.mp
  apply BitVec.eq_of_toNat_eq
  have f0 : ((0 : Int32) &&& 31) = 0 := by decide
  have f8 : ((8 : Int32) &&& 31) = 8 := by decide
  rw [f0, f8]
  have g : (((lo8 c &&& 255) <<< (0 : Int32)) ||| ((hi8 c &&& 255) <<< (8 : Int32))).toBitVec.toNat = c.toBitVec.toNat := by
    rw [Int32.toBitVec_or, Int32.toBitVec_shiftLeft, Int32.toBitVec_shiftLeft]
    have s0 : ((0 : Int32).toBitVec.smod 32) = 0#32 := by decide
    have s8 : ((8 : Int32).toBitVec.smod 32) = 8#32 := by decide
    rw [s0, s8, BitVec.toNat_or]
    simp only [BitVec.shiftLeft_eq', BitVec.toNat_shiftLeft, a1, a2]
    show (c.toBitVec.toNat % 256) <<< 0 % 2 ^ 32 ||| (c.toBitVec.toNat / 256) <<< 8 % 2 ^ 32 = _
    rw [Nat.shiftLeft_zero, Nat.mod_eq_of_lt (show c.toBitVec.toNat % 256 < 2 ^ 32 by omega), Nat.mod_eq_of_lt (show (c.toBitVec.toNat / 256) <<< 8 < 2 ^ 32 by rw [Nat.shiftLeft_eq]; omega), Nat.or_comm, ← Nat.shiftLeft_add_eq_or_of_lt (by omega), Nat.shiftLeft_eq]
    omega
  show BitVec.toNat (((((lo8 c &&& 255) <<< (0 : Int32)) ||| ((hi8 c &&& 255) <<< (8 : Int32))).toBitVec.setWidth 16).setWidth 32) = _
  rw [BitVec.toNat_setWidth, BitVec.toNat_setWidth, g]
  omega
end StrChars
namespace StrChars
open Jvm Sem ClassFile Op Lib Jvm.Stand Jvm.Free.XT Jvm.Free.ALB Jvm.Free.JM Jvm.Free
open Jvm.Lib.Cold (StaticIs)
theorem shr1 {n : Nat} (h : 2 * n < 2 ^ 31) : Int32.ofNat (2 * n) >>> ((1 : Int32) &&& 31) = Int32.ofNat n := by
  have e : ((1 : Int32) &&& 31) = 1 := by decide
  rw [e]
  apply Int32.toBitVec_inj.mp
  rw [Int32.toBitVec_shiftRight]
  have e1 : ((1 : Int32).toBitVec.smod 32) = 1#32 := by decide
  have hm : (BitVec.ofNat 32 (2 * n)).toNat = 2 * n := by rw [BitVec.toNat_ofNat, Nat.mod_eq_of_lt (by omega)]
  rw [e1, BitVec.sshiftRight_eq']
  apply BitVec.eq_of_toNat_eq
  show ((BitVec.ofNat 32 (2 * n)).sshiftRight 1).toNat = (BitVec.ofNat 32 n).toNat
  rw [BitVec.toNat_sshiftRight_of_msb_false (by rw [BitVec.msb_eq_false_iff_two_mul_lt, hm]; omega), hm, BitVec.toNat_ofNat, Nat.shiftRight_eq_div_pow]
  omega
/-- the array's cell V codes the n chars f 0 .. f (n - 1) by the coder cd, as the JDK does: coder 1 just where some char is above 255 -/
def Cod (cd : Int32) (n : Nat) (f : Nat → Int32) (V : Cell) : Prop := (cd = 0 ∧ V.slots.size = n ∧ ∀ j, j < n → V.slots[j]? = some (.int (lo8 (f j))) ∧ ¬ 255 < f j) ∨ (cd = 1 ∧ V.slots.size = 2 * n ∧ (∀ j, j < n → V.slots[2 * j]? = some (.int (lo8 (f j))) ∧ V.slots[2 * j + 1]? = some (.int (hi8 (f j)))) ∧ ∃ j, j < n ∧ 255 < f j)
theorem Cod.cd {cd : Int32} {n : Nat} {f : Nat → Int32} {V : Cell} (h : Cod cd n f V) : cd = 0 ∨ cd = 1 := h.imp (fun q => q.1) fun q => q.1
theorem Cod.len {cd : Int32} {n : Nat} {f : Nat → Int32} {V : Cell} (h : Cod cd n f V) (hs : V.slots.size < 2 ^ 31) : Int32.ofNat V.slots.size >>> (cd &&& 31) = Int32.ofNat n := by
  rcases h with ⟨rfl, h, -⟩ | ⟨rfl, h, -⟩
  · rw [shr0, h]
  · rw [h, shr1 (by omega)]
/-- **x is a String of the n chars f 0 .. f (n - 1)**, Latin-1 or UTF-16; its array at t has the cell V -/
def Txt (x t : Addr) (V : Cell) (cd : Int32) (n : Nat) (f : Nat → Int32) (U : State) : Prop := Exact "java/lang/String" x U ∧ Has x "java/lang/String" "value" "[B" (.ref t) U ∧ Has x "java/lang/String" "coder" "B" (.int cd) U ∧ XT.Arr .byte t V U ∧ Cod cd n f V ∧ ∀ j, j < n → ¬ f j < 0 ∧ ¬ 65535 < f j
theorem Txt.mv {x t : Addr} {V : Cell} {cd : Int32} {n : Nat} {f : Nat → Int32} {U U' : State} (h : Txt x t V cd n f U) (hal : U.vm.Alike U'.vm) (hh : U'.heap = U.heap) : Txt x t V cd n f U' := ⟨h.1.mv hal hh, h.2.1.mv hal hh, h.2.2.1.mv hal hh, h.2.2.2.1.mv hal hh, h.2.2.2.2⟩
namespace Cdr
def yN : MethodName := ⟨"java/lang/String", "coder", "()B"⟩
abbrev yB : ByteArray := jdk_42_method_152_code
theorem d0 : decode yB 0 = .ok (.getstatic 38, 3) := by decide +kernel
theorem d3 : decode yB 3 = .ok (.ifCond (.eq) 10, 3) := by decide +kernel
theorem d6 : decode yB 6 = .ok (.aload_n 0, 1) := by decide +kernel
theorem d7 : decode yB 7 = .ok (.getfield 15, 3) := by decide +kernel
theorem d10 : decode yB 10 = .ok (.goto 4, 3) := by decide +kernel
theorem d14 : decode yB 14 = .ok (.ireturn, 1) := by decide +kernel
def site : List Cond := [.fieldLink "java/lang/String" 38 "java/lang/String" "COMPACT_STRINGS" "Z", .fieldLink "java/lang/String" 15 "java/lang/String" "coder" "B"]
def tab : Cond := tabOf yN yB 1 (some .byte) site
def P (x : Addr) (cd z : Int32) (args : Array Value) (s : State) : Prop := args = #[.ref x] ∧ Has x "java/lang/String" "coder" "B" (.int cd) s ∧ (cd = 0 ∨ cd = 1) ∧ StaticIs s "java/lang/String" "COMPACT_STRINGS" "Z" (.int z) ∧ ¬ z = 0
def E (cd : Int32) (r : Option Value) (s u : State) : Prop := XT.PureE (some (.int cd)) r s u
theorem law (l : Launch) (x : Addr) (cd z : Int32) : Law l yN 1 0 0 0 yB 1 (some .byte) site (P x cd z) (E cd) [] 0 0 := by
  refine Law.of_walk (plainFor_of_name (by decide +kernel)) (by decide +kernel) (by decide +kernel) (by decide) (fun _ _ h => by rw [h.1]; rfl) (fun _ U U' hal hh h => ⟨h.1, h.2.1.mv hal hh, h.2.2.1, h.2.2.2.1.there hal hh, h.2.2.2.2⟩) (fun r U U' V V' h1 hal h2 h => XT.PureE.mv r U U' V V' h1 hal h2 h) ?_
  intro p e s m args below meth c s₁ X0 hexec hbytes hml hret hlk hnm hown hh0 W hP
  obtain ⟨rfl, hx, hc, s1, hz⟩ := hP
  have c1 : Steps p.tables e below (s₁.setTop (entryFrame m #[.ref x] 1)) (s₁.setTop (mkF m 0 #[.val (.ref x)] [])) := entry rfl
  obtain ⟨T2, X2, q2, st2⟩ := X0.sget hexec hown (wk W (.fieldLink "java/lang/String" 38 "java/lang/String" "COMPACT_STRINGS" "Z")) s1 (fun _ _ h => by rw [hh0]; exact h) (g := (mkF m 0 #[.val (.ref x)] [])) rfl (hb hbytes d0)
  have hh2 := q2.trans hh0
  have c3 : Steps p.tables e below (s₁.setTop (entryFrame m #[.ref x] 1)) (T2.setTop (mkF m 7 #[.val (.ref x)] [.ref x])) := (c1.trans (st2 _ (Steps.refl _))).trans (by
    refine XS.ifNo X2.here hexec rfl (hb hbytes d3) rfl (i0_eq_f hz) ?_
    refine XS.aloadN X2.here hexec rfl (hb hbytes d6) rfl rfl ?_
    exact Steps.refl _)
  obtain ⟨T4, X4, q4, st4⟩ := X2.hget hexec hown (wk W (.fieldLink "java/lang/String" 15 "java/lang/String" "coder" "B")) (hx.mv X2.warmed.alike hh2) (g := (mkF m 7 #[.val (.ref x)] [.ref x])) rfl (rest := []) rfl (hb hbytes d7)
  have c5 : Steps p.tables e below (s₁.setTop (entryFrame m #[.ref x] 1)) (T4.setTop (mkF m 14 #[.val (.ref x)] [.int cd])) := (c3.trans (st4 _ (Steps.refl _))).trans (by
    refine XS.goto X4.here hexec rfl (pc0 := 10) rfl (hb hbytes d10) (by decide) rfl ?_
    exact Steps.refl _)
  exact ⟨T4, some (.int cd), _, _, _, X4, rfl, rfl, rfl, (fun h => by cases h), ⟨rfl, q4.trans hh2⟩, fun fs hl => c5.trans (X4.ireturnOut hexec hret (by rcases hc with rfl | rfl <;> rfl) (Or.inr (Or.inr (Or.inl rfl))) (hb hbytes d14) hl)⟩
end Cdr
namespace Len
def yN : MethodName := ⟨"java/lang/String", "length", "()I"⟩
abbrev yB : ByteArray := jdk_42_method_54_code
theorem d0 : decode yB 0 = .ok (.aload_n 0, 1) := by decide +kernel
theorem d1 : decode yB 1 = .ok (.getfield 9, 3) := by decide +kernel
theorem d4 : decode yB 4 = .ok (.arraylength, 1) := by decide +kernel
theorem d5 : decode yB 5 = .ok (.aload_n 0, 1) := by decide +kernel
theorem d6 : decode yB 6 = .ok (.invokevirtual 335, 3) := by decide +kernel
theorem d9 : decode yB 9 = .ok (.ishr, 1) := by decide +kernel
theorem d10 : decode yB 10 = .ok (.ireturn, 1) := by decide +kernel
def site : List Cond := [.fieldLink "java/lang/String" 9 "java/lang/String" "value" "[B", Cdr.tab] ++ virtW "java/lang/String" 335 "java/lang/String" Cdr.yN Cdr.yN
def tab : Cond := tabOf yN yB 1 (some .int) site
def P (x t : Addr) (V : Cell) (cd : Int32) (n : Nat) (f : Nat → Int32) (z : Int32) (args : Array Value) (s : State) : Prop := args = #[.ref x] ∧ Txt x t V cd n f s ∧ StaticIs s "java/lang/String" "COMPACT_STRINGS" "Z" (.int z) ∧ ¬ z = 0
def E (n : Nat) (r : Option Value) (s u : State) : Prop := XT.PureE (some (.int (Int32.ofNat n))) r s u
/-- length() of a String of n chars, in either coding -/
theorem law (l : Launch) (x t : Addr) (V : Cell) (cd : Int32) (n : Nat) (f : Nat → Int32) (z : Int32) : Law l yN 1 0 1 13 yB 1 (some .int) site (P x t V cd n f z) (E n) [] 0 0 := by
  refine Law.of_walk (plainFor_of_name (by decide +kernel)) (by decide +kernel) (by decide +kernel) (by decide) (fun _ _ h => by rw [h.1]; rfl) (fun _ U U' hal hh h => ⟨h.1, h.2.1.mv hal hh, h.2.2.1.there hal hh, h.2.2.2⟩) (fun r U U' V V' h1 hal h2 h => XT.PureE.mv r U U' V V' h1 hal h2 h) ?_
  intro p e s m args below meth c s₁ X0 hexec hbytes hml hret hlk hnm hown hh0 W hP
  obtain ⟨rfl, hx, s1, hz⟩ := hP
  have v31 := hx.2.2.2.1.2.2.2
  have c1 : Steps p.tables e below (s₁.setTop (entryFrame m #[.ref x] 1)) (s₁.setTop (mkF m 1 #[.val (.ref x)] [.ref x])) := Steps.trans (entry rfl) (by
    show Steps p.tables e below (s₁.setTop (mkF m 0 #[.val (.ref x)] [])) _
    refine XS.aloadN X0.here hexec rfl (hb hbytes d0) rfl rfl ?_
    exact Steps.refl _)
  obtain ⟨T2, X2, q2, st2⟩ := X0.hget hexec hown (wk W (.fieldLink "java/lang/String" 9 "java/lang/String" "value" "[B")) (hx.mv X0.warmed.alike hh0).2.1 (g := (mkF m 1 #[.val (.ref x)] [.ref x])) rfl (rest := []) rfl (hb hbytes d1)
  have hh2 := q2.trans hh0
  have hx2 := hx.mv X2.warmed.alike hh2
  have c3 : Steps p.tables e below (s₁.setTop (entryFrame m #[.ref x] 1)) (T2.setTop (mkF m 6 #[.val (.ref x)] [.ref x, .int (Int32.ofNat V.slots.size)])) := (c1.trans (st2 _ (Steps.refl _))).trans (by
    refine X2.alen hexec hx2.2.2.2.1 rfl rfl (hb hbytes d4) ?_
    refine XS.aloadN X2.here hexec rfl (hb hbytes d5) rfl rfl ?_
    exact Steps.refl _)
  obtain ⟨v4, T4, X4, E4, g4⟩ := X2.callV hexec (Cdr.law l x cd z) hown (wks W (virtW "java/lang/String" 335 "java/lang/String" Cdr.yN Cdr.yN)) rfl (by decide) (wk W Cdr.tab) (W := 1) (Nat.le_of_ble_eq_true rfl) (Nat.le_of_ble_eq_true rfl) (Nat.le_refl _) (Nat.le_refl _) (hx2.1.fc X2.warmed.alike) hx2.1.is (g := (mkF m 6 #[.val (.ref x)] [.ref x, .int (Int32.ofNat V.slots.size)])) rfl (by rw [hml]; rfl) c3 (argsL := []) (rest := [.int (Int32.ofNat V.slots.size)]) rfl rfl (by show 2 * 0 + (1 + 0) ≤ _; decide) (hb hbytes d6) (⟨rfl, hx2.2.2.1, hx.2.2.2.2.1.cd, s1.there X2.warmed.alike hh2, hz⟩)
  obtain ⟨rfl, q4⟩ := E4
  have c5 : Steps p.tables e below (s₁.setTop (entryFrame m #[.ref x] 1)) (T4.setTop (mkF m 10 #[.val (.ref x)] [.int (Int32.ofNat V.slots.size >>> (cd &&& 31))])) := Steps.trans g4 (by
    refine ishr X4.here hexec rfl (hb hbytes d9) rfl ?_
    exact Steps.refl _)
  rw [hx.2.2.2.2.1.len v31] at c5
  exact ⟨T4, some (.int (Int32.ofNat n)), _, _, _, X4, rfl, rfl, rfl, (fun h => by cases h), ⟨rfl, q4.trans hh2⟩, fun fs hl => c5.trans (X4.ireturnOut hexec hret rfl (Or.inl rfl) (hb hbytes d10) hl)⟩
theorem pays {l : Launch} {R : Room} {p : Program} {e : Env} {below : List Frame} {s : State} {sargs : Array Value} {len W : Nat} (x t : Addr) (V : Cell) (cd : Int32) (n : Nat) (f : Nat → Int32) (z : Int32) (htab : tab.before sargs s = true) (hfr : 2 ≤ R.frames) (hlo : W + 25 ≤ R.locals) :
    Back l R p e below s sargs yN len W (fun A₁ a₁ => A₁.cells + 0 ≤ R.cells ∧ A₁.slots + 0 ≤ R.slots ∧ P x t V cd n f z a₁ A₁.U) (fun A₁ _ v₁ B₁ => E n v₁ A₁.U B₁.U ∧ B₁.locs = A₁.locs ++ [] ∧ B₁.cells = A₁.cells + 0 ∧ B₁.slots = A₁.slots + 0) :=
  (law l x t V cd n f z).pays htab hfr (by omega)
end Len
end StrChars
namespace StrChars.Road
open Jvm Sem ClassFile Op Lib Jvm.Stand Jvm.Free Jvm.Free.XT
open Jvm.Lib.Cold (StaticIs)
theorem consq {a : Array Value} {s : State} {c : Jvm.Cond} {L : List Jvm.Cond} (h0 : c.before a s = true) (h : ∀ w ∈ L, w.before a s = true) : ∀ w ∈ c :: L, w.before a s = true := fun w hw => (List.mem_cons.mp hw).elim (fun e => e ▸ h0) (h w)
/-- the words of String.length(), either coding -/
abbrev wordsLen : List Jvm.Cond := [.code Len.yN Len.yB 1 (some .int), .initialized ST, .fieldLink ST 9 ST "value" "[B", .fieldLink ST 38 ST "COMPACT_STRINGS" "Z", .fieldLink ST 15 ST "coder" "B", .code Cdr.yN Cdr.yB 1 (some .byte), .methodLink ST 335 Cdr.yN, .declares Cdr.yN, .selects ST Cdr.yN Cdr.yN, .instanceMethod Cdr.yN]
theorem tabLen_of {a : Array Value} {s : State} (h : ∀ w ∈ wordsLen, w.before a s = true) : Len.tab.before a s = true := by
  have hc : Cdr.tab.before a s = true := unparts (wk h (.code Cdr.yN Cdr.yB 1 (some .byte))) (wks h (.initialized Cdr.yN.cls :: Cdr.site))
  have q := consq hc h
  exact unparts (wk q (.code Len.yN Len.yB 1 (some .int))) (wks q (.initialized Len.yN.cls :: Len.site))
theorem movedLen {Z s : State} {a0 args : Array Value} (hZ : Z.Warmed39 s.vm) (hw : ∀ d ∈ wordsLen, d.before a0 Z = true) : ∀ d ∈ wordsLen, d.before args s = true := fun d hd => by
  have q := hw d hd
  have t : ∀ d ∈ wordsLen, d = .arrayClass .byte ∨ (d.onTables && d.keepsFace) = true := by decide +kernel
  rcases t d hd with rfl | t
  · exact RoadKit.mvA hZ q
  · exact RoadKit.mv hZ q t
/-- the bytes of the chars cs, low before high -/
def wideBytes : List Int32 → List Value
  | [] => []
  | c :: cs => .int (lo8 c) :: .int (hi8 c) :: wideBytes cs
theorem wide_lo (d : Value) : ∀ (cs : List Int32) (j : Nat), j < cs.length → (wideBytes cs).getD (2 * j) d = .int (lo8 (cs.getD j 0))
  | [], j, h => absurd h (Nat.not_lt_zero j)
  | c :: cs, 0, _ => rfl
  | c :: cs, j + 1, h => by
    have q := wide_lo d cs j (by simpa using h)
    rw [show 2 * (j + 1) = 2 * j + 1 + 1 from by omega]
    simpa [wideBytes] using q
theorem wide_hi (d : Value) : ∀ (cs : List Int32) (j : Nat), j < cs.length → (wideBytes cs).getD (2 * j + 1) d = .int (hi8 (cs.getD j 0))
  | [], j, h => absurd h (Nat.not_lt_zero j)
  | c :: cs, 0, _ => rfl
  | c :: cs, j + 1, h => by
    have q := wide_hi d cs j (by simpa using h)
    rw [show 2 * (j + 1) + 1 = 2 * j + 1 + 1 + 1 from by omega]
    simpa [wideBytes] using q
theorem low_at (d : Value) (cs : List Int32) (j : Nat) (h : j < cs.length) : (cs.map fun c => Value.int (lo8 c)).getD j d = .int (lo8 (cs.getD j 0)) := by
  simp [List.getD_eq_getElem?_getD, h]
/-- an array of N2 bytes vs codes the chars cs by the coder cd -/
def CodA (cs : List Int32) (cd N2 : Int32) (vs : List Value) : Prop := (cd = 0 ∧ N2 = Int32.ofNat cs.length ∧ vs = (cs.map fun c => Value.int (lo8 c)) ∧ ∀ c ∈ cs, ¬ 255 < c) ∨ (cd = 1 ∧ N2 = Int32.ofNat (2 * cs.length) ∧ vs = wideBytes cs ∧ ∃ c ∈ cs, 255 < c)
theorem CodA.cod {cs : List Int32} {cd N2 : Int32} {vs : List Value} {V : Cell} (h : CodA cs cd N2 vs) (hn : 2 * cs.length < 2 ^ 31) (hs : V.slots.size = N2.toNatClampNeg) (hv : RoadKit.Has V vs (.int 0)) : Cod cd cs.length (fun j => cs.getD j 0) V := by
  rcases h with ⟨rfl, rfl, rfl, h⟩ | ⟨rfl, rfl, rfl, c, hc, hw⟩
  · rw [n32 (by omega)] at hs
    exact Or.inl ⟨rfl, hs, fun j hj => ⟨by rw [hv j (by omega), low_at _ _ _ hj], by
      have e : cs.getD j 0 = cs[j] := by simp [List.getD_eq_getElem?_getD, hj]
      show ¬ 255 < cs.getD j 0
      rw [e]; exact h _ (List.getElem_mem _)⟩⟩
  · rw [n32 (by omega)] at hs
    obtain ⟨j, hj, rfl⟩ := List.getElem_of_mem hc
    exact Or.inr ⟨rfl, hs, fun j hj => ⟨by rw [hv _ (by omega), wide_lo _ _ _ hj], by rw [hv _ (by omega), wide_hi _ _ _ hj]⟩, j, hj, by
      have e : cs.getD j 0 = cs[j] := by simp [List.getD_eq_getElem?_getD, hj]
      show 255 < cs.getD j 0
      rw [e]; exact hw⟩
/-- an object of exactly java/lang/String, its two fields found: as the laws ask it -/
theorem strObj {Z U : State} {a0 : Array Value} {kI : Nat} (wi : (Jvm.Cond.instantiable ST kI).before a0 Z = true) (al : Z.vm.Alike U.vm) {x : Addr} {v0 c0 : Value} (E : RoadKit.Exa Z U.heap x ST) (V : RoadKit.Fld Z U.heap x ST "value" "[B" v0) (C : RoadKit.Fld Z U.heap x ST "coder" "B" c0) :
    ∃ (D : Cell) (fV fC : Field), Blank ST x D U ∧ Found ST "value" "[B" fV U ∧ Found ST "coder" "B" fC U ∧ D.slots[fV.slot]? = some v0 ∧ D.slots[fC.slot]? = some c0 ∧ RoadKit.slotOf Z ST "value" "[B" = fV.slot ∧ RoadKit.slotOf Z ST "coder" "B" = fC.slot := by
  obtain ⟨D, cfV, kV, iV, fV, hD, gV, stV, knV, obV, asV, slV⟩ := V
  obtain ⟨D', cfC, kC, iC, fC, hD', gC, stC, -, -, asC, slC⟩ := C
  cases hD.symm.trans hD'
  obtain ⟨D2, kD, e1, e2, e3, e4, e5⟩ := E
  cases hD.symm.trans e1
  obtain ⟨c2, k2, i1, i2, i3, -⟩ := Cond.instantiable_spec wi
  cases e2.symm.trans i1
  cases e3.symm.trans i2
  obtain ⟨kU, u1, u2⟩ := al.2.2 _ _ e3
  exact ⟨D, fV, fC, ⟨hD, ⟨knV, fun q hq => by rw [hq] at obV; cases obV⟩, by rw [al.findClass]; exact e2, kU, u1, by rw [u2]; exact i3, by rw [u2]; exact e5 i3⟩, ⟨SBG.found_only al ⟨cfV, kV, iV, gV⟩, stV⟩, ⟨SBG.found_only al ⟨cfC, kC, iC, gC⟩, stC⟩, slV, slC, by simp [RoadKit.slotOf, gV], by simp [RoadKit.slotOf, gC]⟩
theorem sta_is {Z U : State} (al : Z.vm.Alike U.vm) {C n d : String} {v : Value} (S : RoadKit.Sta Z U.heap C n d v) : StaticIs U C n d v := by
  obtain ⟨cfS, iS, kS, fS, st, cS, t1, t2, t3, t4, t5, t6, t7⟩ := S
  exact StaticIs.there (s := { Z with heap := U.heap }) ⟨cfS, iS, kS, fS, st, cS, t1, t2, t3, t4, t5, (fun q => by rw [q] at t6; cases t6), t7⟩ al rfl
/-- **length() OF SUCH A STRING** -/
theorem lenW {p : Program} {l : Launch} {e : Env} {R : Room} {s : State} {args : Array Value} {below : List Frame} {len W : Nat} {Z : State} {a0 : Array Value} {h : Heap} (hZ : Z.Warmed39 s.vm) (hw : ∀ d ∈ wordsLen, d.before a0 Z = true) {kI : Nat} (wi : (Jvm.Cond.instantiable ST kI).before a0 Z = true)
    {x t : Addr} {kb : ClassId} {cs : List Int32} {cd N2 z : Int32} {vs : List Value} (E : RoadKit.Exa Z h x ST) (V : RoadKit.Fld Z h x ST "value" "[B" (.ref t)) (C : RoadKit.Fld Z h x ST "coder" "B" (.int cd)) (K : RoadKit.Arv Z h t kb .byte N2 vs (.int 0)) (hc : CodA cs cd N2 vs) (hb : ∀ c ∈ cs, ¬ c < 0 ∧ ¬ (65535 : Int32) < c)
    (S : RoadKit.Sta Z h ST "COMPACT_STRINGS" "Z" (.int z)) (hz : ¬ z = 0) (l2 : cs.length ≤ 4000) (hfr : 2 ≤ R.frames) (hlo : W + 25 ≤ R.locals) :
    Back l R p e below s args (⟨"java/lang/String", "length", "()I"⟩ : MethodName) len W (fun P a => a = #[.ref x] ∧ P.U.heap = h ∧ P.cells + 0 ≤ R.cells ∧ P.slots + 0 ≤ R.slots)
      (fun P _ v B => ∃ L, (v = some (.int (Int32.ofNat cs.length)) ∧ L = [] ∧ B.U.heap = h) ∧ B.locs = P.locs ++ L ∧ B.cells = P.cells + 0 ∧ B.slots = P.slots + 0) := by
  obtain ⟨A, K1, K2, K3, K4, K5, K6⟩ := K
  have hcod := hc.cod (by omega) K3 K5
  intro m meth c P g ig mk a X hg hsize hdg hW hn hp'
  obtain ⟨rfl, rfl, r1, r2⟩ := hp'
  have al : Z.vm.Alike P.U.vm := hZ.alike.trans X.warmed.alike
  obtain ⟨D, fV, fC, hB, F1, F2, g1, g2, -, -⟩ := strObj wi al E V C
  have hx : Txt x t A cd cs.length (fun j => cs.getD j 0) P.U := ⟨⟨_, hB.2.2.1, D, hB.1, rfl, by cases q : D.vm <;> first | rfl | exact absurd q (hB.2.1.2 _)⟩, Has.of hB F1 g1, Has.of hB F2 g2, ⟨K1.1, State.isArrayOf_alike al K1.2.1, K1.2.2, by rcases hcod with ⟨-, q, -⟩ | ⟨-, q, -⟩ <;> omega⟩, hcod, fun j hj => by
    have e : cs.getD j 0 = cs[j] := by simp [List.getD_eq_getElem?_getD, hj]
    show ¬ cs.getD j 0 < 0 ∧ ¬ 65535 < cs.getD j 0
    rw [e]; exact hb _ (List.getElem_mem _)⟩
  obtain ⟨v, B, X', ⟨⟨hv, hh⟩, hl, hk, hs⟩, st⟩ := Len.pays x t A cd cs.length (fun j => cs.getD j 0) z (tabLen_of (movedLen hZ hw)) hfr hlo m meth c P g ig mk _ X hg hsize hdg hW hn ⟨r1, r2, rfl, hx, sta_is al S, hz⟩
  exact ⟨v, B, X', ⟨[], ⟨hv, rfl, hh⟩, hl, hk, hs⟩, st⟩
end StrChars.Road
namespace StrChars
open Jvm Sem ClassFile Op Lib Jvm.Stand Jvm.Free.XT Jvm.Free.ALB Jvm.Free.JM Jvm.Free
open Jvm.Lib.Cold (StaticIs)
/-- what place i of a byte[]'s cell holds -/
def yv (A : Cell) (i : Nat) : Int32 := match A.slots[i]? with | some (.int x) => x | _ => 0
theorem yv_get {a : Addr} {A : Cell} {U : State} (h : XT.Arr .byte a A U) (ht : Typed .byte A) {i : Nat} (hi : i < A.slots.size) : A.slots[i]? = some (.int (yv A i)) := by
  have e := Array.getElem?_eq_getElem hi
  have f := ht i _ e
  unfold yv; rw [e]
  generalize A.slots[i] = v at f
  cases v <;> simp [fits] at f ⊢
/-- the two arrays are equal, place for place -/
def EqC (A B : Cell) : Prop := A.slots.size = B.slots.size ∧ ∀ i, i < A.slots.size → yv A i = yv B i
/-- a boolean that says whether p -/
def Says01 (q : Prop) (r : Option Value) (s u : State) : Prop := ∃ v : Int32, r = some (.int v) ∧ u.heap = s.heap ∧ ((v = 1 ∧ q) ∨ (v = 0 ∧ ¬ q))
theorem Says01.mv {q : Prop} : ∀ r (U U' V V' : State), U'.heap = U.heap → V.vm.Alike V'.vm → V'.heap = V.heap → Says01 q r U V → Says01 q r U' V' :=
  fun r U U' V V' h1 _ h2 ⟨v, a, b, c⟩ => ⟨v, a, by rw [h1, h2]; exact b, c⟩
namespace LEq
def yN : MethodName := ⟨"java/lang/StringLatin1", "equals", "([B[B)Z"⟩
abbrev yB : ByteArray := jdk_43_method_13_code
theorem d0 : decode yB 0 = .ok (.aload_n 0, 1) := by decide +kernel
theorem d1 : decode yB 1 = .ok (.arraylength, 1) := by decide +kernel
theorem d2 : decode yB 2 = .ok (.aload_n 1, 1) := by decide +kernel
theorem d3 : decode yB 3 = .ok (.arraylength, 1) := by decide +kernel
theorem d4 : decode yB 4 = .ok (.if_icmp (.ne) 30, 3) := by decide +kernel
theorem d7 : decode yB 7 = .ok (.iconst 0, 1) := by decide +kernel
theorem d8 : decode yB 8 = .ok (.istore_n 2, 1) := by decide +kernel
theorem d9 : decode yB 9 = .ok (.iload_n 2, 1) := by decide +kernel
theorem d10 : decode yB 10 = .ok (.aload_n 0, 1) := by decide +kernel
theorem d11 : decode yB 11 = .ok (.arraylength, 1) := by decide +kernel
theorem d12 : decode yB 12 = .ok (.if_icmp (.ge) 20, 3) := by decide +kernel
theorem d15 : decode yB 15 = .ok (.aload_n 0, 1) := by decide +kernel
theorem d16 : decode yB 16 = .ok (.iload_n 2, 1) := by decide +kernel
theorem d17 : decode yB 17 = .ok (.baload, 1) := by decide +kernel
theorem d18 : decode yB 18 = .ok (.aload_n 1, 1) := by decide +kernel
theorem d19 : decode yB 19 = .ok (.iload_n 2, 1) := by decide +kernel
theorem d20 : decode yB 20 = .ok (.baload, 1) := by decide +kernel
theorem d21 : decode yB 21 = .ok (.if_icmp (.eq) 5, 3) := by decide +kernel
theorem d24 : decode yB 24 = .ok (.iconst 0, 1) := by decide +kernel
theorem d25 : decode yB 25 = .ok (.ireturn, 1) := by decide +kernel
theorem d26 : decode yB 26 = .ok (.iinc 2 1, 3) := by decide +kernel
theorem d29 : decode yB 29 = .ok (.goto (-20), 3) := by decide +kernel
theorem d32 : decode yB 32 = .ok (.iconst 1, 1) := by decide +kernel
theorem d33 : decode yB 33 = .ok (.ireturn, 1) := by decide +kernel
theorem d34 : decode yB 34 = .ok (.iconst 0, 1) := by decide +kernel
theorem d35 : decode yB 35 = .ok (.ireturn, 1) := by decide +kernel
def site : List Cond := []
def tab : Cond := tabOf yN yB 3 (some .boolean) site
def P (a : Addr) (A : Cell) (b : Addr) (B : Cell) (args : Array Value) (s : State) : Prop := args = #[.ref a, .ref b] ∧ XT.Arr .byte a A s ∧ Typed .byte A ∧ XT.Arr .byte b B s ∧ Typed .byte B
/-- whether two byte[] are equal, place for place -/
theorem law (l : Launch) (a : Addr) (A : Cell) (b : Addr) (B : Cell) : Law l yN 2 2 0 0 yB 3 (some .boolean) site (P a A b B) (Says01 (EqC A B)) [] 0 0 := by
  refine Law.of_walk (plainFor_of_name (by decide +kernel)) (by decide +kernel) (by decide +kernel) (by decide) (fun _ _ h => by rw [h.1]; rfl) (fun _ U U' hal hh h => ⟨h.1, h.2.1.mv hal hh, h.2.2.1, h.2.2.2.1.mv hal hh, h.2.2.2.2⟩) (fun r U U' V V' h1 hal h2 h => Says01.mv r U U' V V' h1 hal h2 h) ?_
  intro p e s m args below meth c s₁ X0 hexec hbytes hml hret hlk hnm hown hh0 W hP
  obtain ⟨rfl, hA, tA, hB, tB⟩ := hP
  have a31 := hA.2.2.2
  have b31 := hB.2.2.2
  have hA0 := hA.mv X0.warmed.alike hh0
  have hB0 := hB.mv X0.warmed.alike hh0
  have c1 : Steps p.tables e below (s₁.setTop (entryFrame m #[.ref a, .ref b] 3)) (s₁.setTop (mkF m 0 #[.val (.ref a), .val (.ref b), .unset] [])) := entry rfl
  have c2 : Steps p.tables e below (s₁.setTop (entryFrame m #[.ref a, .ref b] 3)) (s₁.setTop (mkF m 4 #[.val (.ref a), .val (.ref b), .unset] [.int (Int32.ofNat B.slots.size), .int (Int32.ofNat A.slots.size)])) := c1.trans (by
    refine XS.aloadN X0.here hexec rfl (hb hbytes d0) rfl rfl ?_
    refine X0.alen hexec hA0 rfl rfl (hb hbytes d1) ?_
    refine XS.aloadN X0.here hexec rfl (hb hbytes d2) rfl rfl ?_
    refine X0.alen hexec hB0 rfl rfl (hb hbytes d3) ?_
    exact Steps.refl _)
  by_cases hs : A.slots.size = B.slots.size
  · have c3 : Steps p.tables e below (s₁.setTop (entryFrame m #[.ref a, .ref b] 3)) (s₁.setTop (mkF m 9 #[.val (.ref a), .val (.ref b), .val (.int 0)] [])) := c2.trans (by
      refine XS.icmpNo X0.here hexec rfl (hb hbytes d4) rfl (ii_ne_f (by rw [hs])) ?_
      refine iconstV X0.here hexec rfl 0 (hb hbytes d7) (by decide) ?_
      refine XS.istoreN X0.here hexec rfl (hb hbytes d8) rfl rfl ?_
      exact Steps.refl _)
    have loop : ∀ (r i : Nat), i + r = A.slots.size → (∀ j, j < i → yv A j = yv B j) → Steps p.tables e below (s₁.setTop (entryFrame m #[.ref a, .ref b] 3)) (s₁.setTop (mkF m 9 #[.val (.ref a), .val (.ref b), .val (.int (Int32.ofNat i))] [])) → ∃ (pc : Nat) (Ls : Array Slot) (v : Int32), (pc = 25 ∨ pc = 33) ∧ ((v = 1 ∧ EqC A B) ∨ (v = 0 ∧ ¬ EqC A B)) ∧ Steps p.tables e below (s₁.setTop (entryFrame m #[.ref a, .ref b] 3)) (s₁.setTop (mkF m pc Ls [.int v])) := by
      intro r
      induction r with
      | zero =>
        intro i hi he cl
        exact ⟨33, _, 1, Or.inr rfl, Or.inl ⟨rfl, hs, fun j hj => he j (by omega)⟩, cl.trans (by
          refine XS.iloadN X0.here hexec rfl (hb hbytes d9) rfl ?_
          refine XS.aloadN X0.here hexec rfl (hb hbytes d10) rfl rfl ?_
          refine X0.alen hexec hA0 rfl rfl (hb hbytes d11) ?_
          refine XS.icmpYes X0.here hexec rfl (pc0 := 12) rfl (hb hbytes d12) rfl (ii_ge_t (nlt32 (by omega) (by omega))) (by decide) rfl ?_
          refine iconstV X0.here hexec rfl 1 (hb hbytes d32) (by decide) ?_
          exact Steps.refl _)⟩
      | succ r ih =>
        intro i hi he cl
        have c4 : Steps p.tables e below (s₁.setTop (entryFrame m #[.ref a, .ref b] 3)) (s₁.setTop (mkF m 21 #[.val (.ref a), .val (.ref b), .val (.int (Int32.ofNat i))] [.int (yv B i), .int (yv A i)])) := cl.trans (by
          refine XS.iloadN X0.here hexec rfl (hb hbytes d9) rfl ?_
          refine XS.aloadN X0.here hexec rfl (hb hbytes d10) rfl rfl ?_
          refine X0.alen hexec hA0 rfl rfl (hb hbytes d11) ?_
          refine XS.icmpNo X0.here hexec rfl (hb hbytes d12) rfl (ii_ge_f (lt32 (by omega) (by omega))) ?_
          refine XS.aloadN X0.here hexec rfl (hb hbytes d15) rfl rfl ?_
          refine XS.iloadN X0.here hexec rfl (hb hbytes d16) rfl ?_
          refine X0.aget hexec hA0 rfl (yv_get hA tA (i := i) (by omega)) rfl rfl (hb hbytes d17) ?_
          refine XS.aloadN X0.here hexec rfl (hb hbytes d18) rfl rfl ?_
          refine XS.iloadN X0.here hexec rfl (hb hbytes d19) rfl ?_
          refine X0.aget hexec hB0 rfl (yv_get hB tB (i := i) (by omega)) rfl rfl (hb hbytes d20) ?_
          exact Steps.refl _)
        by_cases hv : yv A i = yv B i
        · have c5 : Steps p.tables e below (s₁.setTop (entryFrame m #[.ref a, .ref b] 3)) (s₁.setTop (mkF m 9 #[.val (.ref a), .val (.ref b), .val (.int (Int32.ofNat i + 1))] [])) := c4.trans (by
            refine XS.icmpYes X0.here hexec rfl (pc0 := 21) rfl (hb hbytes d21) rfl (ii_eq_t hv) (by decide) rfl ?_
            refine iincV X0.here hexec rfl 1 (hb hbytes d26) (by decide) rfl rfl ?_
            refine XS.goto X0.here hexec rfl (pc0 := 29) rfl (hb hbytes d29) (by decide) rfl ?_
            exact Steps.refl _)
          rw [succ32] at c5
          exact ih (i + 1) (by omega) (fun j hj => by
            by_cases e : j = i
            · rw [e]; exact hv
            · exact he j (by omega)) c5
        · exact ⟨25, _, 0, Or.inl rfl, Or.inr ⟨rfl, fun q => hv (q.2 i (by omega))⟩, c4.trans (by
            refine XS.icmpNo X0.here hexec rfl (hb hbytes d21) rfl (ii_eq_f hv) ?_
            refine iconstV X0.here hexec rfl 0 (hb hbytes d24) (by decide) ?_
            exact Steps.refl _)⟩
    obtain ⟨pc, Ls, v, hpc, hv, cz⟩ := loop A.slots.size 0 (by omega) (fun j hj => absurd hj (Nat.not_lt_zero j)) c3
    have nv : narrow .boolean (.int v) = .int v := by rcases hv with ⟨rfl, -⟩ | ⟨rfl, -⟩ <;> rfl
    rcases hpc with rfl | rfl
    · exact ⟨s₁, some (.int v), _, _, _, X0, rfl, rfl, rfl, (fun h => by cases h), ⟨v, rfl, hh0, hv⟩, fun fs hl => cz.trans (X0.ireturnOut hexec hret nv (Or.inr (Or.inl rfl)) (hb hbytes d25) hl)⟩
    · exact ⟨s₁, some (.int v), _, _, _, X0, rfl, rfl, rfl, (fun h => by cases h), ⟨v, rfl, hh0, hv⟩, fun fs hl => cz.trans (X0.ireturnOut hexec hret nv (Or.inr (Or.inl rfl)) (hb hbytes d33) hl)⟩
  · have c3 : Steps p.tables e below (s₁.setTop (entryFrame m #[.ref a, .ref b] 3)) (s₁.setTop (mkF m 35 #[.val (.ref a), .val (.ref b), .unset] [.int 0])) := c2.trans (by
      refine XS.icmpYes X0.here hexec rfl (pc0 := 4) rfl (hb hbytes d4) rfl (ii_ne_t (ne32 a31 b31 hs)) (by decide) rfl ?_
      refine iconstV X0.here hexec rfl 0 (hb hbytes d34) (by decide) ?_
      exact Steps.refl _)
    exact ⟨s₁, some (.int 0), _, _, _, X0, rfl, rfl, rfl, (fun h => by cases h), ⟨0, rfl, hh0, Or.inr ⟨rfl, fun q => hs q.1⟩⟩, fun fs hl => c3.trans (X0.ireturnOut hexec hret rfl (Or.inr (Or.inl rfl)) (hb hbytes d35) hl)⟩
end LEq
theorem Cod.ty {cd : Int32} {n : Nat} {f : Nat → Int32} {V : Cell} (h : Cod cd n f V) : Typed .byte V := fun i v hv => by
  have hi : i < V.slots.size := (Array.getElem?_eq_some_iff.mp hv).1
  rcases h with ⟨-, k1, k2⟩ | ⟨-, k1, k2, -⟩
  · rw [(k2 i (by omega)).1] at hv; cases hv; exact fits_lo8 _
  · rcases Nat.mod_two_eq_zero_or_one i with e | e
    · obtain ⟨j, rfl⟩ : ∃ j, i = 2 * j := ⟨i / 2, by omega⟩
      rw [(k2 j (by omega)).1] at hv; cases hv; exact fits_lo8 _
    · obtain ⟨j, rfl⟩ : ∃ j, i = 2 * j + 1 := ⟨i / 2, by omega⟩
      rw [(k2 j (by omega)).2] at hv; cases hv; exact fits_lo8 _
/-- the same text -/
def SameT (n : Nat) (f : Nat → Int32) (k : Nat) (g : Nat → Int32) : Prop := n = k ∧ ∀ j, j < n → f j = g j
theorem lo8_inj {x y : Int32} (h0 : ¬ x < 0) (h1 : ¬ 255 < x) (k0 : ¬ y < 0) (k1 : ¬ 255 < y) (h : lo8 x = lo8 y) : x = y := by
  rw [← lo8_mask h0 h1, ← lo8_mask k0 k1, h]
/-- arrays coded by one coder are equal just where the texts are -/
theorem Cod.eqv {cd : Int32} {n k : Nat} {f g : Nat → Int32} {V V' : Cell} (h : Cod cd n f V) (h' : Cod cd k g V') (hf : ∀ j, j < n → ¬ f j < 0 ∧ ¬ 65535 < f j) (hg : ∀ j, j < k → ¬ g j < 0 ∧ ¬ 65535 < g j) : EqC V V' ↔ SameT n f k g := by
  have yvv : ∀ {W : Cell} {i : Nat} {x : Int32}, W.slots[i]? = some (.int x) → yv W i = x := fun q => by unfold yv; rw [q]
  rcases h with ⟨rfl, k1, k2⟩ | ⟨rfl, k1, k2, -⟩
  · rcases h' with ⟨-, m1, m2⟩ | ⟨e, -⟩
    · constructor
      · rintro ⟨e1, e2⟩
        refine ⟨by omega, fun j hj => ?_⟩
        have q := e2 j (by omega)
        rw [yvv (k2 j hj).1, yvv (m2 j (by omega)).1] at q
        exact lo8_inj (hf j hj).1 (k2 j hj).2 (hg j (by omega)).1 (m2 j (by omega)).2 q
      · rintro ⟨rfl, e2⟩
        refine ⟨by omega, fun j hj => ?_⟩
        rw [yvv (k2 j (by omega)).1, yvv (m2 j (by omega)).1, e2 j (by omega)]
    · exact absurd e (by decide)
  · rcases h' with ⟨e, -⟩ | ⟨-, m1, m2, -⟩
    · exact absurd e (by decide)
    · constructor
      · rintro ⟨e1, e2⟩
        refine ⟨by omega, fun j hj => ?_⟩
        have q1 := e2 (2 * j) (by omega)
        have q2 := e2 (2 * j + 1) (by omega)
        rw [yvv (k2 j hj).1, yvv (m2 j (by omega)).1] at q1
        rw [yvv (k2 j hj).2, yvv (m2 j (by omega)).2] at q2
        rw [← pair_says (hf j hj).1 (hf j hj).2, ← pair_says (hg j (by omega)).1 (hg j (by omega)).2, q1, q2]
      · rintro ⟨rfl, e2⟩
        refine ⟨by omega, fun i hi => ?_⟩
        rcases Nat.mod_two_eq_zero_or_one i with e | e
        · obtain ⟨j, rfl⟩ : ∃ j, i = 2 * j := ⟨i / 2, by omega⟩
          rw [yvv (k2 j (by omega)).1, yvv (m2 j (by omega)).1, e2 j (by omega)]
        · obtain ⟨j, rfl⟩ : ∃ j, i = 2 * j + 1 := ⟨i / 2, by omega⟩
          rw [yvv (k2 j (by omega)).2, yvv (m2 j (by omega)).2, e2 j (by omega)]
/-- two codings differ: so do the texts -/
theorem Cod.dif {cd cd' : Int32} {n k : Nat} {f g : Nat → Int32} {V V' : Cell} (h : Cod cd n f V) (h' : Cod cd' k g V') (hne : ¬ cd = cd') : ¬ SameT n f k g := by
  rintro ⟨rfl, e⟩
  rcases h with ⟨rfl, -, k2⟩ | ⟨rfl, -, -, j, hj, hw⟩
  · rcases h' with ⟨rfl, -⟩ | ⟨-, -, -, j, hj, hw⟩
    · exact hne rfl
    · exact (k2 j hj).2 (by rw [e j hj]; exact hw)
  · rcases h' with ⟨-, -, m2⟩ | ⟨rfl, -⟩
    · exact (m2 j hj).2 (by rw [← e j hj]; exact hw)
    · exact hne rfl
/-- an object of exactly C is an instance of C -/
theorem cinst {p : Program} {l : Launch} {e : Env} {R : Room} {s : State} {m : MethodId} {args : Array Value} {below : List Frame} {meth : Method} {c : Code} {T : State} {locs : List Loc} {cells slots : Nat} (X : Stand p l e R s m args below meth c T locs cells slots) (hexec : p.tables.exec = Jvm.exec) {own C : String} {index : Nat} (hown : s.vm.findClass own = some m.cls) (hlink : (Cond.classLink own index C).before args s = true) {a : Addr} (hE : Exact C a T)
    {g : JFrame} (hg : g.method = m) {rest : List Value} (hstack : g.stack = .ref a :: rest) (hdg : decode c.code g.pc = .ok (.instanceof index, 3)) :
    ∃ T', Stand p l e R s m args below meth c T' locs cells slots ∧ T'.heap = T.heap ∧ ∀ target, Steps p.tables e below (T'.setTop { g with pc := g.pc + 3, stack := .int 1 :: rest }) target → Steps p.tables e below (T.setTop g) target := by
  obtain ⟨cB, h1, D, h2, h3, h4⟩ := hE
  have h1' : s.vm.findClass C = some cB := by rw [← X.warmed.alike.findClass]; exact h1
  obtain ⟨vm', X', st⟩ := X.instanceofYes hexec hown hlink h2 h4 h1' (by rw [h3]; exact Jvm.Free.SB.assignable_self _ _) hg hstack hdg
  exact ⟨_, X', rfl, st⟩
theorem cself {p : Program} {l : Launch} {e : Env} {R : Room} {s : State} {m : MethodId} {args : Array Value} {below : List Frame} {meth : Method} {c : Code} {T : State} {locs : List Loc} {cells slots : Nat} (X : Stand p l e R s m args below meth c T locs cells slots) (hexec : p.tables.exec = Jvm.exec) {own C : String} {index : Nat} (hown : s.vm.findClass own = some m.cls) (hlink : (Cond.classLink own index C).before args s = true) {a : Addr} (hE : Exact C a T)
    {g : JFrame} (hg : g.method = m) {rest : List Value} (hstack : g.stack = .ref a :: rest) (hdg : decode c.code g.pc = .ok (.checkcast index, 3)) :
    ∃ T', Stand p l e R s m args below meth c T' locs cells slots ∧ T'.heap = T.heap ∧ ∀ target, Steps p.tables e below (T'.setTop { g with pc := g.pc + 3, stack := .ref a :: rest }) target → Steps p.tables e below (T.setTop g) target := by
  obtain ⟨cB, h1, D, h2, h3, h4⟩ := hE
  have h1' : s.vm.findClass C = some cB := by rw [← X.warmed.alike.findClass]; exact h1
  obtain ⟨vm', X', st⟩ := X.checkcastYes hexec hown hlink h2 h4 h1' (by rw [h3]; exact Jvm.Free.SB.assignable_self _ _) hg hstack hdg
  exact ⟨_, X', rfl, fun t h => st t (by rw [← hstack] at h; exact h)⟩
namespace SEq
def yN : MethodName := ⟨"java/lang/String", "equals", "(Ljava/lang/Object;)Z"⟩
abbrev yB : ByteArray := jdk_42_method_66_code
theorem d0 : decode yB 0 = .ok (.aload_n 0, 1) := by decide +kernel
theorem d1 : decode yB 1 = .ok (.aload_n 1, 1) := by decide +kernel
theorem d2 : decode yB 2 = .ok (.if_acmp (.ne) 5, 3) := by decide +kernel
theorem d5 : decode yB 5 = .ok (.iconst 1, 1) := by decide +kernel
theorem d6 : decode yB 6 = .ok (.ireturn, 1) := by decide +kernel
theorem d7 : decode yB 7 = .ok (.aload_n 1, 1) := by decide +kernel
theorem d8 : decode yB 8 = .ok (.instanceof 10, 3) := by decide +kernel
theorem d11 : decode yB 11 = .ok (.ifCond (.eq) 43, 3) := by decide +kernel
theorem d14 : decode yB 14 = .ok (.aload_n 1, 1) := by decide +kernel
theorem d15 : decode yB 15 = .ok (.checkcast 10, 3) := by decide +kernel
theorem d18 : decode yB 18 = .ok (.astore_n 2, 1) := by decide +kernel
theorem d19 : decode yB 19 = .ok (.getstatic 38, 3) := by decide +kernel
theorem d22 : decode yB 22 = .ok (.ifCond (.eq) 14, 3) := by decide +kernel
theorem d25 : decode yB 25 = .ok (.aload_n 0, 1) := by decide +kernel
theorem d26 : decode yB 26 = .ok (.getfield 15, 3) := by decide +kernel
theorem d29 : decode yB 29 = .ok (.aload_n 2, 1) := by decide +kernel
theorem d30 : decode yB 30 = .ok (.getfield 15, 3) := by decide +kernel
theorem d33 : decode yB 33 = .ok (.if_icmp (.ne) 21, 3) := by decide +kernel
theorem d36 : decode yB 36 = .ok (.aload_n 0, 1) := by decide +kernel
theorem d37 : decode yB 37 = .ok (.getfield 9, 3) := by decide +kernel
theorem d40 : decode yB 40 = .ok (.aload_n 2, 1) := by decide +kernel
theorem d41 : decode yB 41 = .ok (.getfield 9, 3) := by decide +kernel
theorem d44 : decode yB 44 = .ok (.invokestatic 541, 3) := by decide +kernel
theorem d47 : decode yB 47 = .ok (.ifCond (.eq) 7, 3) := by decide +kernel
theorem d50 : decode yB 50 = .ok (.iconst 1, 1) := by decide +kernel
theorem d51 : decode yB 51 = .ok (.goto 4, 3) := by decide +kernel
theorem d54 : decode yB 54 = .ok (.iconst 0, 1) := by decide +kernel
theorem d55 : decode yB 55 = .ok (.ireturn, 1) := by decide +kernel
def site : List Cond := [.classLink "java/lang/String" 10 "java/lang/String", .fieldLink "java/lang/String" 38 "java/lang/String" "COMPACT_STRINGS" "Z", .fieldLink "java/lang/String" 15 "java/lang/String" "coder" "B", .fieldLink "java/lang/String" 9 "java/lang/String" "value" "[B", LEq.tab] ++ staticW "java/lang/String" 541 LEq.yN
def tab : Cond := tabOf yN yB 3 (some .boolean) site
def P (x t : Addr) (V : Cell) (cd : Int32) (n : Nat) (f : Nat → Int32) (y t' : Addr) (V' : Cell) (cd' : Int32) (k : Nat) (g : Nat → Int32) (z : Int32) (args : Array Value) (s : State) : Prop := args = #[.ref x, .ref y] ∧ Txt x t V cd n f s ∧ Txt y t' V' cd' k g s ∧ StaticIs s "java/lang/String" "COMPACT_STRINGS" "Z" (.int z) ∧ ¬ z = 0
/-- equals(Object) of two Strings: whether the texts are the same -/
theorem law (l : Launch) (x t : Addr) (V : Cell) (cd : Int32) (n : Nat) (f : Nat → Int32) (y t' : Addr) (V' : Cell) (cd' : Int32) (k : Nat) (g : Nat → Int32) (z : Int32) : Law l yN 2 1 1 14 yB 3 (some .boolean) site (P x t V cd n f y t' V' cd' k g z) (Says01 (SameT n f k g)) [] 0 0 := by
  refine Law.of_walk (plainFor_of_name (by decide +kernel)) (by decide +kernel) (by decide +kernel) (by decide) (fun _ _ h => by rw [h.1]; rfl) (fun _ U U' hal hh h => ⟨h.1, h.2.1.mv hal hh, h.2.2.1.mv hal hh, h.2.2.2.1.there hal hh, h.2.2.2.2⟩) (fun r U U' V V' h1 hal h2 h => Says01.mv r U U' V V' h1 hal h2 h) ?_
  intro p e s m args below meth c s₁ X0 hexec hbytes hml hret hlk hnm hown hh0 W hP
  obtain ⟨rfl, hx, hy, s1, hz⟩ := hP
  have c1 : Steps p.tables e below (s₁.setTop (entryFrame m #[.ref x, .ref y] 3)) (s₁.setTop (mkF m 2 #[.val (.ref x), .val (.ref y), .unset] [.ref y, .ref x])) := Steps.trans (entry rfl) (by
    show Steps p.tables e below (s₁.setTop (mkF m 0 #[.val (.ref x), .val (.ref y), .unset] [])) _
    refine XS.aloadN X0.here hexec rfl (hb hbytes d0) rfl rfl ?_
    refine XS.aloadN X0.here hexec rfl (hb hbytes d1) rfl rfl ?_
    exact Steps.refl _)
  by_cases hxy : x = y
  · have c2 : Steps p.tables e below (s₁.setTop (entryFrame m #[.ref x, .ref y] 3)) (s₁.setTop (mkF m 6 #[.val (.ref x), .val (.ref y), .unset] [.int 1])) := c1.trans (by
      refine acmpNo X0.here hexec rfl (hb hbytes d2) rfl rfl rfl (by simp [acmp, hxy]) ?_
      refine iconstV X0.here hexec rfl 1 (hb hbytes d5) (by decide) ?_
      exact Steps.refl _)
    subst hxy
    have ec : cd = cd' := by
      obtain ⟨D, fd, a1, a2, a3⟩ := hx.2.2.1
      obtain ⟨D', fd', b1, b2, b3⟩ := hy.2.2.1
      cases a1.symm.trans b1
      obtain ⟨q1, q2, q3, q4⟩ := a2.1
      obtain ⟨r1, r2, r3, r4⟩ := b2.1
      cases q4.symm.trans r4
      cases a3.symm.trans b3; rfl
    have et : t = t' := by
      obtain ⟨D, fd, a1, a2, a3⟩ := hx.2.1
      obtain ⟨D', fd', b1, b2, b3⟩ := hy.2.1
      cases a1.symm.trans b1
      obtain ⟨q1, q2, q3, q4⟩ := a2.1
      obtain ⟨r1, r2, r3, r4⟩ := b2.1
      cases q4.symm.trans r4
      cases a3.symm.trans b3; rfl
    subst ec et
    have ev : V = V' := by cases hx.2.2.2.1.1.symm.trans hy.2.2.2.1.1; rfl
    subst ev
    have hs : SameT n f k g := (Cod.eqv hx.2.2.2.2.1 hy.2.2.2.2.1 hx.2.2.2.2.2 hy.2.2.2.2.2).mp ⟨rfl, fun _ _ => rfl⟩
    exact ⟨s₁, some (.int 1), _, _, _, X0, rfl, rfl, rfl, (fun h => by cases h), ⟨1, rfl, hh0, Or.inl ⟨rfl, hs⟩⟩, fun fs hl => c2.trans (X0.ireturnOut hexec hret rfl (Or.inr (Or.inl rfl)) (hb hbytes d6) hl)⟩
  · have c2 : Steps p.tables e below (s₁.setTop (entryFrame m #[.ref x, .ref y] 3)) (s₁.setTop (mkF m 8 #[.val (.ref x), .val (.ref y), .unset] [.ref y])) := c1.trans (by
      refine acmpYes X0.here hexec rfl (pc0 := 2) rfl (hb hbytes d2) rfl rfl rfl (by simp [acmp, hxy]) (by decide) rfl ?_
      refine XS.aloadN X0.here hexec rfl (hb hbytes d7) rfl rfl ?_
      exact Steps.refl _)
    obtain ⟨T3, X3, q3, st3⟩ := cinst X0 hexec hown (wk W (.classLink "java/lang/String" 10 "java/lang/String")) (hy.mv X0.warmed.alike hh0).1 (g := (mkF m 8 #[.val (.ref x), .val (.ref y), .unset] [.ref y])) rfl (rest := []) rfl (hb hbytes d8)
    have hh3 := q3.trans hh0
    have c4 : Steps p.tables e below (s₁.setTop (entryFrame m #[.ref x, .ref y] 3)) (T3.setTop (mkF m 15 #[.val (.ref x), .val (.ref y), .unset] [.ref y])) := (c2.trans (st3 _ (Steps.refl _))).trans (by
      refine XS.ifNo X3.here hexec rfl (hb hbytes d11) rfl (i0_eq_f (by decide)) ?_
      refine XS.aloadN X3.here hexec rfl (hb hbytes d14) rfl rfl ?_
      exact Steps.refl _)
    obtain ⟨T5, X5, q5, st5⟩ := cself X3 hexec hown (wk W (.classLink "java/lang/String" 10 "java/lang/String")) (hy.mv X3.warmed.alike hh3).1 (g := (mkF m 15 #[.val (.ref x), .val (.ref y), .unset] [.ref y])) rfl (rest := []) rfl (hb hbytes d15)
    have hh5 := q5.trans hh3
    have c6 : Steps p.tables e below (s₁.setTop (entryFrame m #[.ref x, .ref y] 3)) (T5.setTop (mkF m 19 #[.val (.ref x), .val (.ref y), .val (.ref y)] [])) := (c4.trans (st5 _ (Steps.refl _))).trans (by
      refine XS.astoreN X5.here hexec rfl (hb hbytes d18) rfl rfl rfl ?_
      exact Steps.refl _)
    obtain ⟨T7, X7, q7, st7⟩ := X5.sget hexec hown (wk W (.fieldLink "java/lang/String" 38 "java/lang/String" "COMPACT_STRINGS" "Z")) s1 (fun _ _ h => by rw [hh5]; exact h) (g := (mkF m 19 #[.val (.ref x), .val (.ref y), .val (.ref y)] [])) rfl (hb hbytes d19)
    have hh7 := q7.trans hh5
    have c8 : Steps p.tables e below (s₁.setTop (entryFrame m #[.ref x, .ref y] 3)) (T7.setTop (mkF m 26 #[.val (.ref x), .val (.ref y), .val (.ref y)] [.ref x])) := (c6.trans (st7 _ (Steps.refl _))).trans (by
      refine XS.ifNo X7.here hexec rfl (hb hbytes d22) rfl (i0_eq_f hz) ?_
      refine XS.aloadN X7.here hexec rfl (hb hbytes d25) rfl rfl ?_
      exact Steps.refl _)
    obtain ⟨T9, X9, q9, st9⟩ := X7.hget hexec hown (wk W (.fieldLink "java/lang/String" 15 "java/lang/String" "coder" "B")) (hx.mv X7.warmed.alike hh7).2.2.1 (g := (mkF m 26 #[.val (.ref x), .val (.ref y), .val (.ref y)] [.ref x])) rfl (rest := []) rfl (hb hbytes d26)
    have hh9 := q9.trans hh7
    have c10 : Steps p.tables e below (s₁.setTop (entryFrame m #[.ref x, .ref y] 3)) (T9.setTop (mkF m 30 #[.val (.ref x), .val (.ref y), .val (.ref y)] [.ref y, .int cd])) := (c8.trans (st9 _ (Steps.refl _))).trans (by
      refine XS.aloadN X9.here hexec rfl (hb hbytes d29) rfl rfl ?_
      exact Steps.refl _)
    obtain ⟨T11, X11, q11, st11⟩ := X9.hget hexec hown (wk W (.fieldLink "java/lang/String" 15 "java/lang/String" "coder" "B")) (hy.mv X9.warmed.alike hh9).2.2.1 (g := (mkF m 30 #[.val (.ref x), .val (.ref y), .val (.ref y)] [.ref y, .int cd])) rfl (rest := [.int cd]) rfl (hb hbytes d30)
    have hh11 := q11.trans hh9
    have c12 : Steps p.tables e below (s₁.setTop (entryFrame m #[.ref x, .ref y] 3)) (T11.setTop (mkF m 33 #[.val (.ref x), .val (.ref y), .val (.ref y)] [.int cd', .int cd])) := c10.trans (st11 _ (Steps.refl _))
    by_cases hcd : cd = cd'
    · subst hcd
      have c13 : Steps p.tables e below (s₁.setTop (entryFrame m #[.ref x, .ref y] 3)) (T11.setTop (mkF m 37 #[.val (.ref x), .val (.ref y), .val (.ref y)] [.ref x])) := c12.trans (by
        refine XS.icmpNo X11.here hexec rfl (hb hbytes d33) rfl (ii_ne_f rfl) ?_
        refine XS.aloadN X11.here hexec rfl (hb hbytes d36) rfl rfl ?_
        exact Steps.refl _)
      obtain ⟨T14, X14, q14, st14⟩ := X11.hget hexec hown (wk W (.fieldLink "java/lang/String" 9 "java/lang/String" "value" "[B")) (hx.mv X11.warmed.alike hh11).2.1 (g := (mkF m 37 #[.val (.ref x), .val (.ref y), .val (.ref y)] [.ref x])) rfl (rest := []) rfl (hb hbytes d37)
      have hh14 := q14.trans hh11
      have c15 : Steps p.tables e below (s₁.setTop (entryFrame m #[.ref x, .ref y] 3)) (T14.setTop (mkF m 41 #[.val (.ref x), .val (.ref y), .val (.ref y)] [.ref y, .ref t])) := (c13.trans (st14 _ (Steps.refl _))).trans (by
        refine XS.aloadN X14.here hexec rfl (hb hbytes d40) rfl rfl ?_
        exact Steps.refl _)
      obtain ⟨T16, X16, q16, st16⟩ := X14.hget hexec hown (wk W (.fieldLink "java/lang/String" 9 "java/lang/String" "value" "[B")) (hy.mv X14.warmed.alike hh14).2.1 (g := (mkF m 41 #[.val (.ref x), .val (.ref y), .val (.ref y)] [.ref y, .ref t])) rfl (rest := [.ref t]) rfl (hb hbytes d41)
      have hh16 := q16.trans hh14
      have c17 : Steps p.tables e below (s₁.setTop (entryFrame m #[.ref x, .ref y] 3)) (T16.setTop (mkF m 44 #[.val (.ref x), .val (.ref y), .val (.ref y)] [.ref t', .ref t])) := c15.trans (st16 _ (Steps.refl _))
      obtain ⟨v18, T18, X18, E18, g18⟩ := X16.callS hexec (LEq.law l t V t' V') hown (wks W (staticW "java/lang/String" 541 LEq.yN)) (wk W LEq.tab) (W := 0) (Nat.le_of_ble_eq_true rfl) (Nat.le_of_ble_eq_true rfl) (Nat.le_refl _) (Nat.le_refl _) (g := (mkF m 44 #[.val (.ref x), .val (.ref y), .val (.ref y)] [.ref t', .ref t])) rfl (by rw [hml]; rfl) c17 (argsL := [.ref t, .ref t']) (rest := []) rfl rfl (by show 2 * 0 + 0 ≤ _; decide) (hb hbytes d44) (⟨rfl, hx.2.2.2.1.mv X16.warmed.alike hh16, hx.2.2.2.2.1.ty, hy.2.2.2.1.mv X16.warmed.alike hh16, hy.2.2.2.2.1.ty⟩)
      obtain ⟨v, rfl, q18, hv⟩ := E18
      have iff := Cod.eqv hx.2.2.2.2.1 hy.2.2.2.2.1 hx.2.2.2.2.2 hy.2.2.2.2.2
      rcases hv with ⟨rfl, he⟩ | ⟨rfl, he⟩
      · have c19 : Steps p.tables e below (s₁.setTop (entryFrame m #[.ref x, .ref y] 3)) (T18.setTop (mkF m 55 #[.val (.ref x), .val (.ref y), .val (.ref y)] [.int 1])) := Steps.trans g18 (by
          refine XS.ifNo X18.here hexec rfl (hb hbytes d47) rfl (i0_eq_f (by decide)) ?_
          refine iconstV X18.here hexec rfl 1 (hb hbytes d50) (by decide) ?_
          refine XS.goto X18.here hexec rfl (pc0 := 51) rfl (hb hbytes d51) (by decide) rfl ?_
          exact Steps.refl _)
        exact ⟨T18, some (.int 1), _, _, _, X18, rfl, rfl, rfl, (fun h => by cases h), ⟨1, rfl, q18.trans hh16, Or.inl ⟨rfl, iff.mp he⟩⟩, fun fs hl => c19.trans (X18.ireturnOut hexec hret rfl (Or.inr (Or.inl rfl)) (hb hbytes d55) hl)⟩
      · have c19 : Steps p.tables e below (s₁.setTop (entryFrame m #[.ref x, .ref y] 3)) (T18.setTop (mkF m 55 #[.val (.ref x), .val (.ref y), .val (.ref y)] [.int 0])) := Steps.trans g18 (by
          refine XS.ifYes X18.here hexec rfl (pc0 := 47) rfl (hb hbytes d47) rfl (i0_eq_t rfl) (by decide) rfl ?_
          refine iconstV X18.here hexec rfl 0 (hb hbytes d54) (by decide) ?_
          exact Steps.refl _)
        exact ⟨T18, some (.int 0), _, _, _, X18, rfl, rfl, rfl, (fun h => by cases h), ⟨0, rfl, q18.trans hh16, Or.inr ⟨rfl, fun q => he (iff.mpr q)⟩⟩, fun fs hl => c19.trans (X18.ireturnOut hexec hret rfl (Or.inr (Or.inl rfl)) (hb hbytes d55) hl)⟩
    · have c13 : Steps p.tables e below (s₁.setTop (entryFrame m #[.ref x, .ref y] 3)) (T11.setTop (mkF m 55 #[.val (.ref x), .val (.ref y), .val (.ref y)] [.int 0])) := c12.trans (by
        refine XS.icmpYes X11.here hexec rfl (pc0 := 33) rfl (hb hbytes d33) rfl (ii_ne_t hcd) (by decide) rfl ?_
        refine iconstV X11.here hexec rfl 0 (hb hbytes d54) (by decide) ?_
        exact Steps.refl _)
      exact ⟨T11, some (.int 0), _, _, _, X11, rfl, rfl, rfl, (fun h => by cases h), ⟨0, rfl, hh11, Or.inr ⟨rfl, Cod.dif hx.2.2.2.2.1 hy.2.2.2.2.1 hcd⟩⟩, fun fs hl => c13.trans (X11.ireturnOut hexec hret rfl (Or.inr (Or.inl rfl)) (hb hbytes d55) hl)⟩
theorem pays {l : Launch} {R : Room} {p : Program} {e : Env} {below : List Frame} {s : State} {sargs : Array Value} {len W : Nat} (x t : Addr) (V : Cell) (cd : Int32) (n : Nat) (f : Nat → Int32) (y t' : Addr) (V' : Cell) (cd' : Int32) (k : Nat) (g : Nat → Int32) (z : Int32) (htab : tab.before sargs s = true) (hfr : 2 ≤ R.frames) (hlo : W + 28 ≤ R.locals) :
    Back l R p e below s sargs yN len W (fun A₁ a₁ => A₁.cells + 0 ≤ R.cells ∧ A₁.slots + 0 ≤ R.slots ∧ P x t V cd n f y t' V' cd' k g z a₁ A₁.U) (fun A₁ _ v₁ B₁ => Says01 (SameT n f k g) v₁ A₁.U B₁.U ∧ B₁.locs = A₁.locs ++ [] ∧ B₁.cells = A₁.cells + 0 ∧ B₁.slots = A₁.slots + 0) :=
  (law l x t V cd n f y t' V' cd' k g z).pays htab hfr (by omega)
end SEq
end StrChars
namespace StrChars.Road
open Jvm Sem ClassFile Op Lib Jvm.Stand Jvm.Free Jvm.Free.XT
open Jvm.Lib.Cold (StaticIs)
/-- the words of String.equals(Object) -/
abbrev wordsEq : List Jvm.Cond := [.code SEq.yN SEq.yB 3 (some .boolean), .initialized ST, .classLink ST 10 ST, .fieldLink ST 38 ST "COMPACT_STRINGS" "Z", .fieldLink ST 15 ST "coder" "B", .fieldLink ST 9 ST "value" "[B", .methodLink ST 541 LEq.yN, .static LEq.yN, .code LEq.yN LEq.yB 3 (some .boolean), .initialized "java/lang/StringLatin1"]
theorem tabEq_of {a : Array Value} {s : State} (h : ∀ w ∈ wordsEq, w.before a s = true) : SEq.tab.before a s = true := by
  have hl : LEq.tab.before a s = true := unparts (wk h (.code LEq.yN LEq.yB 3 (some .boolean))) (wks h (.initialized LEq.yN.cls :: LEq.site))
  have q := consq hl h
  exact unparts (wk q (.code SEq.yN SEq.yB 3 (some .boolean))) (wks q (.initialized SEq.yN.cls :: SEq.site))
theorem movedEq {Z s : State} {a0 args : Array Value} (hZ : Z.Warmed39 s.vm) (hw : ∀ d ∈ wordsEq, d.before a0 Z = true) : ∀ d ∈ wordsEq, d.before args s = true := fun d hd => by
  have t : ∀ d ∈ wordsEq, (d.onTables && d.keepsFace) = true := by decide +kernel
  exact RoadKit.mv hZ (hw d hd) (t d hd)
/-- the road's facts of a String, as the laws ask it -/
theorem txt_of {Z U : State} {a0 : Array Value} {kI : Nat} (wi : (Jvm.Cond.instantiable ST kI).before a0 Z = true) (al : Z.vm.Alike U.vm) {x t : Addr} {kb : ClassId} {cs : List Int32} {cd N2 : Int32} {vs : List Value} (E : RoadKit.Exa Z U.heap x ST) (V : RoadKit.Fld Z U.heap x ST "value" "[B" (.ref t)) (C : RoadKit.Fld Z U.heap x ST "coder" "B" (.int cd)) (K : RoadKit.Arv Z U.heap t kb .byte N2 vs (.int 0)) (hc : CodA cs cd N2 vs) (hb : ∀ c ∈ cs, ¬ c < 0 ∧ ¬ (65535 : Int32) < c) (l2 : cs.length ≤ 4000) :
    ∃ A, Txt x t A cd cs.length (fun j => cs.getD j 0) U := by
  obtain ⟨A, K1, K2, K3, K4, K5, K6⟩ := K
  have hcod := hc.cod (by omega) K3 K5
  obtain ⟨D, fV, fC, hB, F1, F2, g1, g2, -, -⟩ := strObj wi al E V C
  exact ⟨A, ⟨_, hB.2.2.1, D, hB.1, rfl, by cases q : D.vm <;> first | rfl | exact absurd q (hB.2.1.2 _)⟩, Has.of hB F1 g1, Has.of hB F2 g2, ⟨K1.1, State.isArrayOf_alike al K1.2.1, K1.2.2, by rcases hcod with ⟨-, q, -⟩ | ⟨-, q, -⟩ <;> omega⟩, hcod, fun j hj => by
    have e : cs.getD j 0 = cs[j] := by simp [List.getD_eq_getElem?_getD, hj]
    show ¬ cs.getD j 0 < 0 ∧ ¬ 65535 < cs.getD j 0
    rw [e]; exact hb _ (List.getElem_mem _)⟩
theorem same_list (cs ds : List Int32) : SameT cs.length (fun j => cs.getD j 0) ds.length (fun j => ds.getD j 0) ↔ cs = ds := by
  constructor
  · rintro ⟨e, q⟩
    refine List.ext_getElem e fun j h1 h2 => ?_
    have := q j h1
    simpa [List.getD_eq_getElem?_getD, h1, h2] using this
  · rintro rfl
    exact ⟨rfl, fun _ _ => rfl⟩
/-- **equals(Object) OF TWO SUCH STRINGS**: 1 just where the chars are the same -/
theorem eqW {p : Program} {l : Launch} {e : Env} {R : Room} {s : State} {args : Array Value} {below : List Frame} {len W : Nat} {Z : State} {a0 : Array Value} {h : Heap} (hZ : Z.Warmed39 s.vm) (hw : ∀ d ∈ wordsEq, d.before a0 Z = true) {kI : Nat} (wi : (Jvm.Cond.instantiable ST kI).before a0 Z = true)
    {x t : Addr} {kb : ClassId} {cs : List Int32} {cd N2 : Int32} {vs : List Value} (E : RoadKit.Exa Z h x ST) (V : RoadKit.Fld Z h x ST "value" "[B" (.ref t)) (C : RoadKit.Fld Z h x ST "coder" "B" (.int cd)) (K : RoadKit.Arv Z h t kb .byte N2 vs (.int 0)) (hc : CodA cs cd N2 vs) (hb : ∀ c ∈ cs, ¬ c < 0 ∧ ¬ (65535 : Int32) < c) (l2 : cs.length ≤ 4000)
    {y t' : Addr} {kb' : ClassId} {ds : List Int32} {cd' N2' : Int32} {vs' : List Value} (E' : RoadKit.Exa Z h y ST) (V' : RoadKit.Fld Z h y ST "value" "[B" (.ref t')) (C' : RoadKit.Fld Z h y ST "coder" "B" (.int cd')) (K' : RoadKit.Arv Z h t' kb' .byte N2' vs' (.int 0)) (hc' : CodA ds cd' N2' vs') (hb' : ∀ c ∈ ds, ¬ c < 0 ∧ ¬ (65535 : Int32) < c) (l2' : ds.length ≤ 4000)
    {z : Int32} (S : RoadKit.Sta Z h ST "COMPACT_STRINGS" "Z" (.int z)) (hz : ¬ z = 0) (hfr : 2 ≤ R.frames) (hlo : W + 28 ≤ R.locals) :
    Back l R p e below s args (⟨"java/lang/String", "equals", "(Ljava/lang/Object;)Z"⟩ : MethodName) len W (fun P a => a = #[.ref x, .ref y] ∧ P.U.heap = h ∧ P.cells + 0 ≤ R.cells ∧ P.slots + 0 ≤ R.slots)
      (fun P _ v B => ∃ L, (((v = some (.int 1) ∧ cs = ds) ∨ (v = some (.int 0) ∧ ¬ cs = ds)) ∧ L = [] ∧ B.U.heap = h) ∧ B.locs = P.locs ++ L ∧ B.cells = P.cells + 0 ∧ B.slots = P.slots + 0) := by
  intro m meth c P g ig mk a X hg hsize hdg hW hn hp'
  obtain ⟨rfl, rfl, r1, r2⟩ := hp'
  have al : Z.vm.Alike P.U.vm := hZ.alike.trans X.warmed.alike
  obtain ⟨A, hx⟩ := txt_of wi al E V C K hc hb l2
  obtain ⟨A', hy⟩ := txt_of wi al E' V' C' K' hc' hb' l2'
  obtain ⟨v, B, X', ⟨⟨w, hv, hh, hq⟩, hl, hk, hs⟩, st⟩ := SEq.pays x t A cd cs.length (fun j => cs.getD j 0) y t' A' cd' ds.length (fun j => ds.getD j 0) z (tabEq_of (movedEq hZ hw)) hfr hlo m meth c P g ig mk _ X hg hsize hdg hW hn ⟨r1, r2, rfl, hx, hy, sta_is al S, hz⟩
  refine ⟨v, B, X', ⟨[], ⟨?_, rfl, hh⟩, hl, hk, hs⟩, st⟩
  rcases hq with ⟨rfl, q⟩ | ⟨rfl, q⟩
  · exact Or.inl ⟨hv, (same_list cs ds).mp q⟩
  · exact Or.inr ⟨hv, fun e => q ((same_list cs ds).mpr e)⟩
end StrChars.Road
namespace StrChars.Road
open Jvm Sem ClassFile Op Lib Jvm.Stand Jvm.Free Jvm.Free.XT
open Jvm.Lib.Cold (StaticIs)
/-- what backV says of its String, as the contracts of this text ask it: cs's low bytes, coder 0 -/
theorem codOf {cs : List Int32} {n : Nat} (hn : cs.length = n) (hb : ∀ c ∈ cs, ¬ 255 < c) : CodA cs 0 (Int32.ofNat n) ((cs.map lo8).map Value.int) := Or.inl ⟨rfl, by rw [hn], by simp [List.map_map, Function.comp_def], hb⟩
end StrChars.Road
end Jvm.Pilot.@@N@@
namespace Jvm.Pilot.@@N@@
open Jvm Jvm.ClassFile Sem Op Lib Jvm.Free Jvm.Stand Jvm.LawKit Jvm.RoadKit Bundle Jvm.Pilot.@@N@@.Jvm.D
theorem own_hide {p : Program} {l : Launch} {e : Env} {R : Room} {s : State} {m : MethodId} {args : Array Value} {below : List Frame} {meth : Method} {c : Code} {T : State} {locs : List Loc} {cells slots n0 C S : Nat} (X : Stand p l e R s m args below meth c T locs cells slots) (N : Fr n0 locs) (h1 : cells ≤ C) (h2 : slots ≤ S) :
    ∃ locs', Stand p l e R s m args below meth c T locs' C S ∧ Fr n0 locs' := ⟨locs, X.more h1 h2, N⟩
theorem own_same {Z : State} {a0 : Array Value} {C : String} {x y : MethodName} (hc : x.cls = y.cls) (hx : x.cls ≠ "java/lang/invoke/MethodHandle" ∧ x.cls ≠ "java/lang/invoke/VarHandle") (wi : (Cond.instanceMethod x).before a0 Z = true) (ws : (Cond.selects C y y).before a0 Z = true) : (Cond.sameMethod x.cls x.cls x.name x.desc).before a0 Z = true := by
  obtain ⟨mk, methM, hnamed, hmethM, hstM, habM⟩ := Cond.instanceMethod_spec wi
  obtain ⟨c2, r2, m2, q1, q2, q3, q4, kP, hkP, hkPi⟩ := Cond.selects_spec ws
  have hf := State.methodFound?_of_named hnamed hx
  have hcx := findClass_of_methodNamed hnamed
  have hcy := findClass_of_methodNamed q3
  have e : mk.cls = m2.cls := by rw [hc, hcy] at hcx; exact (Option.some.inj hcx).symm
  have hn : Z.methodNamed? ⟨x.cls, x.name, x.desc⟩ = some mk := hnamed
  simp [Cond.before, Cond.holds, Cond.value, hcx, hf, hn, e, hkP, hkPi]
theorem own_decl {Z : State} {a0 : Array Value} {y : MethodName} {bytes : ByteArray} {maxL : Nat} {ret : Option FieldType} (wi : (Cond.instanceMethod y).before a0 Z = true) (wc : (Cond.code y bytes maxL ret).before a0 Z = true) : (Cond.declares y).before a0 Z = true := by
  obtain ⟨mk, methM, hnamed, hmethM, hstM, habM⟩ := Cond.instanceMethod_spec wi
  obtain ⟨m2, cM, q1, -, -, -, -, -, -, hsig⟩ := Cond.code_spec hnamed wc
  cases hmethM.symm.trans q1
  simp [Cond.before, Cond.holds, Cond.value, hnamed, hmethM, hstM, hsig]
abbrev own_B (cs : List Int32) : List Value := (cs.map fun c => c.toInt8.toInt32).map Value.int
abbrev own_P (cs : List Int32) (r : Nat) : List Value := own_B cs ++ List.replicate r (Value.int (0 : Int32))
def own_str (Z : State) (h : Heap) (x : Addr) (cs : List Int32) : Prop := ∃ (t : Addr) (kb : ClassId), Exa Z h x "java/lang/String" ∧ Fld Z h x "java/lang/String" "coder" "B" (.int (0 : Int32)) ∧ Fld Z h x "java/lang/String" "value" "[B" (.ref t) ∧ Arv Z h t kb .byte (Int32.ofNat cs.length) (own_B cs) (.int (0 : Int32))
def own_sb (Z : State) (h : Heap) (x t : Addr) (kb : ClassId) (cs : List Int32) (r : Nat) : Prop := Exa Z h x "java/lang/StringBuilder" ∧ Fld Z h x "java/lang/AbstractStringBuilder" "value" "[B" (.ref t) ∧ Fld Z h x "java/lang/AbstractStringBuilder" "coder" "B" (.int (0 : Int32)) ∧ Fld Z h x "java/lang/AbstractStringBuilder" "count" "I" (.int (Int32.ofNat cs.length)) ∧ Arv Z h t kb .byte (Int32.ofNat (own_P cs r).length) (own_P cs r) (.int (0 : Int32))
theorem own_strE {Z : State} {h h' : Heap} {x : Addr} {cs : List Int32} (S : own_str Z h x cs) (E : Ext h h') : own_str Z h' x cs := by
  obtain ⟨t, kb, e, c, v, a⟩ := S
  exact ⟨t, kb, e.ext E, c.ext E, v.ext E, a.ext E⟩
theorem own_strP {Z : State} {h h' : Heap} {x : Addr} {cs : List Int32} (S : own_str Z h x cs) (K : Keep h h' []) : own_str Z h' x cs := by
  obtain ⟨t, kb, e, c, v, a⟩ := S
  exact ⟨t, kb, e.keep K, c.keep K nin0, v.keep K nin0, a.keep K nin0⟩
theorem own_n32 {n : Nat} (h : n ≤ 4000) : (Int32.ofNat n).toNatClampNeg = n := by
  have q : (Int32.ofNat n).toInt = n := Int32.toInt_ofNat_of_lt (by omega)
  simp only [Int32.toNatClampNeg]; omega
theorem own_nn {n : Nat} (h : n ≤ 4000) : ¬ Int32.ofNat n < 0 := by
  rw [Int32.lt_iff_toInt_lt, Int32.toInt_ofNat_of_lt (by omega)]
  have : (0 : Int32).toInt = 0 := rfl
  omega
theorem own_shl0 {p q : Int32} (h : q = (0 : Int32)) : (p <<< (q &&& 31)) = p := by
  subst h
  show p <<< (0 : Int32) = p
  exact Int32.shiftLeft_zero
theorem own_shr0 (p : Int32) : (p >>> ((0 : Int32) &&& 31)) = p := Int32.shiftRight_zero
theorem own_us {ds : List Int32} (h : ds.length ≤ 4000) : own_B ds = (List.range (Int32.ofNat ds.length).toNatClampNeg).map fun i => (own_B ds).getD ((0 : Int32).toNatClampNeg + i) (.int (0 : Int32)) := by
  rw [own_n32 h]
  have z : (0 : Int32).toNatClampNeg = 0 := rfl
  rw [z]
  apply List.ext_getElem
  · simp [own_B]
  · intro i h1 h2
    simp only [List.getElem_map, List.getElem_range, Nat.zero_add]
    rw [List.getD_eq_getElem?_getD, List.getElem?_eq_getElem h1]; simp [own_B]
theorem own_put {cs ds : List Int32} {r : Nat} (h : ds.length ≤ r) : (own_P cs r).take cs.length ++ own_B ds ++ (own_P cs r).drop (cs.length + ds.length) = own_P (cs ++ ds) (r - ds.length) := by
  have e1 : (own_P cs r).take cs.length = own_B cs := by
    have l1 : cs.length = (own_B cs).length := by simp [own_B]
    rw [show own_P cs r = own_B cs ++ List.replicate r (Value.int (0 : Int32)) from rfl, l1, List.take_left']
    rfl
  have e2 : (own_P cs r).drop (cs.length + ds.length) = List.replicate (r - ds.length) (Value.int (0 : Int32)) := by
    have l1 : cs.length = (own_B cs).length := by simp [own_B]
    rw [show own_P cs r = own_B cs ++ List.replicate r (Value.int (0 : Int32)) from rfl, l1, ← List.drop_drop, List.drop_left', List.drop_replicate]
    rfl
  rw [e1, e2]
  simp [own_P, own_B]
theorem own_Pl (cs : List Int32) (r : Nat) : (own_P cs r).length = cs.length + r := by simp [own_P, own_B]
def own_c255 (c : Int32) : Prop := ¬ c < 0 ∧ ¬ (255 : Int32) < c
theorem own_up {cs : List Int32} (hp : ∀ c ∈ cs, own_c255 c) : ∀ c ∈ cs, ¬ c < 0 ∧ ¬ (65535 : Int32) < c := fun c hc => by
  have h := hp c hc
  unfold own_c255 at h
  rw [Int32.lt_iff_toInt_lt, Int32.lt_iff_toInt_lt] at h ⊢
  have z : (0 : Int32).toInt = 0 := rfl
  have y : (255 : Int32).toInt = 255 := rfl
  have x : (65535 : Int32).toInt = 65535 := rfl
  omega
theorem hwsL (a0 : Array Value) (Z : State) (hw : ∀ d ∈ tables_1, d.before a0 Z = true) : ∀ d ∈ StrChars.Road.wordsLen, d.before a0 Z = true := fun d hd => hw d ((by decide +kernel : ∀ d ∈ StrChars.Road.wordsLen, d ∈ tables_1) d hd)
theorem own_le {a m r : Nat} (h : m ≤ r) (hb : a + r ≤ 4000) : ¬ (0 : Int32) < ((Int32.ofNat a + Int32.ofNat m) - Int32.ofNat (a + r)) := by
  rw [← Int32.ofNat_add, Int32.lt_iff_toInt_lt, Int32.toInt_sub, Int32.toInt_ofNat_of_lt (by omega), Int32.toInt_ofNat_of_lt (by omega), Int.bmod_eq_of_le (by omega) (by omega)]
  have z : (0 : Int32).toInt = 0 := rfl
  omega
theorem own_rep {n a b : Nat} : (List.replicate (a + b) (Value.int (0 : Int32))) = List.replicate a (Value.int (0 : Int32)) ++ List.replicate b (Value.int (0 : Int32)) := List.replicate_append_replicate.symm
theorem own_min {a r : Nat} (h : a + r ≤ 4000) : (if Int32.ofNat a < Int32.ofNat (a + r) then Int32.ofNat a else Int32.ofNat (a + r)) = Int32.ofNat a := by
  by_cases q : r = 0
  · subst q; simp
  · rw [if_pos]
    rw [Int32.lt_iff_toInt_lt, Int32.toInt_ofNat_of_lt (by omega), Int32.toInt_ofNat_of_lt (by omega)]; omega
theorem own_us2 {cs : List Int32} {r : Nat} (h : cs.length ≤ 4000) : own_B cs = (List.range (Int32.ofNat cs.length).toNatClampNeg).map fun i => (own_P cs r).getD ((0 : Int32).toNatClampNeg + i) (.int (0 : Int32)) := by
  rw [own_n32 h]
  have z : (0 : Int32).toNatClampNeg = 0 := rfl
  rw [z]
  apply List.ext_getElem
  · simp [own_B]
  · intro i h1 h2
    simp only [List.getElem_map, List.getElem_range, Nat.zero_add]
    rw [List.getD_eq_getElem?_getD, List.getElem?_append_left h1, List.getElem?_eq_getElem h1]; simp [own_B]
theorem own_cut {cs : List Int32} : List.take 0 (List.replicate cs.length (Value.int (0 : Int32))) ++ own_B cs ++ List.drop (0 + cs.length) (List.replicate cs.length (Value.int (0 : Int32))) = own_B cs := by
  simp
theorem own_ne {a r : Nat} (h : a + r ≤ 4000) (hr : 0 < r) : ¬ Int32.ofNat a = Int32.ofNat (a + r) := fun q => by
  have e := congrArg Int32.toInt q
  rw [Int32.toInt_ofNat_of_lt (by omega), Int32.toInt_ofNat_of_lt (by omega)] at e
  omega
theorem own_nf {s : State} {args : Array Value} {C : String} {x y : MethodName} (hc : x.cls = y.cls) (hs : (Cond.selects C y y).before args s = true) : NotFace s x := fun r0 h0 => by
  obtain ⟨c2, r2, m2, q1, q2, q3, q4, kP, hkP, hkPi⟩ := Cond.selects_spec hs
  have hcx := findClass_of_methodNamed h0
  have hcy := findClass_of_methodNamed q3
  have e : r0.cls = m2.cls := by rw [hc, hcy] at hcx; exact (Option.some.inj hcx).symm
  exact ⟨kP, by rw [e]; exact hkP, hkPi⟩
abbrev own_FE : String := "com/example/modelwright/modelwright/FilterException"
abbrev own_obD : String := "Ljava/lang/Object;"
abbrev own_msD : String := "Ljava/lang/String;"
abbrev own_thD : String := "Ljava/lang/Throwable;"
def own_atoms : List Cond := [.initialized tN, .superclass tN "java/lang/Object", .instanceMethod tFill, .codeSync tFill LibCode.Throwable.Fill.code 1 (some (.object tN)), .instanceMethod tFill0, .native tFill0, .instanceMethod oInit, .code oInit object_method_1_code 1 none,
  .methodLink tN 1 oInit, .methodLink tN 27 tFill, .methodLink tN 202 tFill0, .fieldLink tN 7 tN "cause" own_thD, .lays tN tN "cause" own_thD, .fieldLink tN 17 tN "stackTrace" steD, .lays tN tN "stackTrace" steD, .fieldLink tN 24 tN "suppressedExceptions" listD, .lays own_FE tN "suppressedExceptions" listD,
  .fieldLink tN 13 tN "UNASSIGNED_STACK" steD, .laysStatic tN "UNASSIGNED_STACK" steD, .fieldLink tN 20 tN "SUPPRESSED_SENTINEL" listD, .laysStatic tN "SUPPRESSED_SENTINEL" listD, .lays tN tN "detailMessage" own_msD, .lays own_FE tN "stackTrace" steD,
  .declares tFill, .selects own_FE tFill0 tFill0, .selects own_FE tFill tFill, .fieldLink tN 198 tN "backtrace" own_obD, .lays tN tN "backtrace" own_obD, .lays own_FE tN "backtrace" own_obD, .arrayOver (.object "java/lang/Object"), .soleField tN "backtrace", .soleField tN "depth", .lays own_FE tN "depth" "I"]
theorem own_atomsIn : ∀ d ∈ own_atoms, d ∈ tables_1 := by decide +kernel
theorem own_atomsOk : own_atoms.all xOk = true := rfl
def own_ties (T : ThrowableC) (s : State) : Prop := s.vm.findClass tN = some T.cT ∧ s.methodNamed? tFill = some T.fill ∧ s.methodNamed? tFill0 = some T.fill0 ∧ s.fieldFound? tN "stackTrace" steD = some (T.cT, T.kT, T.i17, T.fStack) ∧
  s.fieldFound? tN "UNASSIGNED_STACK" steD = some (T.cT, T.kT, T.i13, T.fUnassigned) ∧ T.fStack.type = .array (.object "java/lang/StackTraceElement")
theorem own_two {α : Type} {x : Option α} {a b : α} (h : x = some a) (h' : x = some b) : a = b := Option.some.inj (h.symm.trans h')
set_option maxHeartbeats 4000000 in
theorem own_thr {args : Array Value} {s : State} {pl : Platform} (ho : pl.frameOwnsMonitors = true) (hf : pl.finalization = false) (hp : pl.magicAccessors = ({} : Platform).magicAccessors) (W : ∀ d ∈ own_atoms, d.before args s = true) :
    ∃ T : ThrowableC, T.Links pl s ∧ own_ties T s := by
  have w : ∀ (i : Nat) (d : Cond), own_atoms[i]? = some d → d.holds args s none s [] = true := fun i d h => W d (List.mem_of_getElem? h)
  obtain ⟨⟨cT, iN⟩, meN, nN, vN, natN, codN, lokN, sigN⟩ := Cond.native_spec (w 5 (.native tFill0) rfl)
  have hc : s.vm.findClass tN = some cT := findClass_of_methodNamed nN
  obtain ⟨kT, hk, knm⟩ := Vm.findClass_spec hc
  obtain ⟨_, kk, _, _, hkk, _, _, _, _, noI⟩ := Cond.superclass_spec hc (w 1 (.superclass tN "java/lang/Object") rfl)
  obtain rfl := own_two hk hkk
  have F := fun {C' n d : String} {i j ix : Nat} {t : FieldType} (ht : parseFieldDescriptor d = some t) (h1 : own_atoms[i]? = some (.fieldLink tN ix tN n d)) (h2 : own_atoms[j]? = some (.lays C' tN n d)) => Cond.ownField hc hk ht (w i _ h1) (w j _ h2) pl hp
  have G := fun {n d : String} {i j ix : Nat} {t : FieldType} (ht : parseFieldDescriptor d = some t) (h1 : own_atoms[i]? = some (.fieldLink tN ix tN n d)) (h2 : own_atoms[j]? = some (.laysStatic tN n d)) => Cond.ownStatic hc hk ht (w i _ h1) (w j _ h2) pl hp
  obtain ⟨ciA, iA, fA, lkA, rtA, atA, stA, fnA, nmA, tyA, ffA⟩ := F (i := 11) (j := 12) (t := .object tN) (by decide +kernel) rfl rfl
  obtain ⟨ciB, iB, fB, lkB, rtB, atB, stB, fnB, nmB, tyB, ffB⟩ := F (i := 13) (j := 14) (t := .array (.object "java/lang/StackTraceElement")) (by decide +kernel) rfl rfl
  obtain ⟨ciC, iC, fC, lkC, rtC, atC, stC, fnC, nmC, tyC, ffC⟩ := F (i := 15) (j := 16) (t := .object "java/util/List") (by decide +kernel) rfl rfl
  obtain ⟨ciU, iU, fU, aS, cS, lkU, rtU, atU, stU, -, -, sta, -, -, -, -, ffU⟩ := G (i := 17) (j := 18) (t := .array (.object "java/lang/StackTraceElement")) (by decide +kernel) rfl rfl
  obtain ⟨ciV, iV, fV, _, _, lkV, rtV, atV, stV, -⟩ := G (i := 19) (j := 20) (t := .object "java/util/List") (by decide +kernel) rfl rfl
  obtain ⟨_, _, _, _, _, fM, -, -, -, stM, fnM, -⟩ := Cond.lays_spec (w 21 (.lays tN tN "detailMessage" own_msD) rfl)
  obtain ⟨iF, meF, nF, vF, atF, stF, abF, -, -⟩ := Cond.ownMethod (x := tFill) hc hk (w 2 _ rfl)
  obtain ⟨meF2, coF, vF2, codF, byF, mlF, retF, lokF, -, sigF⟩ := Cond.codeSync_spec nF (w 3 (.codeSync tFill LibCode.Throwable.Fill.code 1 (some (.object tN))) rfl)
  obtain rfl := own_two vF vF2
  obtain ⟨iN2, meN2, nN2, vN2, atN, stN, abN, nmN, dsN⟩ := Cond.ownMethod (x := tFill0) hc hk (w 4 _ rfl)
  obtain rfl : iN = iN2 := congrArg MethodId.idx (own_two nN nN2)
  obtain rfl := own_two vN vN2
  obtain ⟨mO, meO, nO, vO, stO, abO⟩ := Cond.instanceMethod_spec (w 6 (.instanceMethod oInit) rfl)
  obtain ⟨meO2, coO, vO2, codO, byO, mlO, -, lokO, -, sigO⟩ := Cond.code_spec nO (w 7 (.code oInit object_method_1_code 1 none) rfl)
  obtain rfl := own_two vO vO2
  obtain ⟨kO, hkO, kOn⟩ := Vm.findClass_spec (findClass_of_methodNamed nO)
  obtain ⟨nmO, dsO⟩ := name_of_methodNamed nO vO
  obtain ⟨c1, t1, cf, l1, r1, g1, p1⟩ := Cond.linkedMethod hc hk nO (w 8 (.methodLink tN 1 oInit) rfl) pl hp
  obtain ⟨c2, t2, cf2, l2, r2, g2, p2⟩ := Cond.linkedMethod hc hk nF (w 9 (.methodLink tN 27 tFill) rfl) pl hp
  obtain rfl := own_two g1 g2
  obtain ⟨c3, t3, cf3, l3, r3, g3, p3⟩ := Cond.linkedMethod hc hk nN (w 10 (.methodLink tN 202 tFill0) rfl) pl hp
  obtain rfl := own_two g1 g3
  have apart : fB.slot ≠ fC.slot := by
    obtain ⟨cX, kX, _, _, _, _, hX, hkX, -⟩ := Cond.lays_spec (w 22 (.lays own_FE tN "stackTrace" steD) rfl)
    obtain ⟨-, dB, zB, yB⟩ := Cond.laysAt hX hkX ffB (w 22 (.lays own_FE tN "stackTrace" steD) rfl)
    obtain ⟨-, dC, zC, yC⟩ := Cond.laysAt hX hkX ffC (w 16 (.lays own_FE tN "suppressedExceptions" listD) rfl)
    exact Cond.laysApart zB zC yB yC (by rw [nmB, nmC]; decide)
  have sF : meF.sig = ⟨[], some (.object tN)⟩ := own_two sigF (by decide +kernel)
  have sN : meN.sig = ⟨[.int], some (.object tN)⟩ := own_two sigN (by decide +kernel)
  have sO : meO.sig = ⟨[], none⟩ := own_two sigO (by decide +kernel)
  refine ⟨{ cT := cT, kT := kT, cO := cT, aS := aS, fillIdx := iF, fill0Idx := iN, initSIdx := iF, obj := mO, kObj := kO, methFill := meF, methFill0 := meN, methInitS := meF, methObj := meO, codeFill := coF, codeInitS := coF, codeObj := coO, fBack := fA, fDepth := fA, fStack := fB, fCause := fA, fSupp := fC, fMsg := fM, fUnassigned := fU, fSentinel := fV, cfT := cf, ci1 := c1, n1 := t1, ci27 := c2, n27 := t2, ci202 := c3, n202 := t3, ci7 := ciA, i7 := iA, ci13 := ciU, i13 := iU, ci17 := ciB, i17 := iB, ci20 := ciV, i20 := iV, ci24 := ciC, i24 := iC }, ?_, hc, nF, nN, ffB, ffU, tyB⟩
  constructor
  case owns => exact ho
  case noFinalization => exact hf
  case cls => exact hk
  case name => exact knm
  case boot => exact Vm.findClass_boot hc hk
  case notInterface => exact noI
  case initialized => exact Cond.initialized_spec hc hk (w 0 (.initialized tN) rfl)
  case fillParams => rw [sF]
  case fill0Params => rw [sN]
  case objParams => rw [sO]; rfl
  case objFound => rw [dsO]; exact lookupSpecial_of_named nO vO stO
  all_goals first | assumption
set_option maxHeartbeats 8000000 in
theorem own_fill {p : Program} {l : Launch} {e : Env} {R : Room} {s : State} {m : MethodId} {args : Array Value} {below : List Frame} {meth : Method} {c : Code} {T : State} {locs : List Loc} {cells slots : Nat} {Z : State} {a0 : Array Value} {h : Heap}
    (X : Stand p l e R s m args below meth c T locs cells slots) (hx : p.tables.exec = Jvm.exec) (hl : l.stackTraces = true) (hZ : Z.Warmed39 s.vm) (hw : ∀ d ∈ tables_1, d.before a0 Z = true) (hown : s.vm.findClass tN = some m.cls) (hT0 : ThS Z s.heap) (hTK : s.vm.MethodsKnown) (hB : s.vm.FramesKnown below)
    (eT : T.heap = h) (hT : ThS Z h) {a : Addr} {u0 : Value} (hu : u0.isRef = true) (E : Exa Z h a own_FE) (N : Unt h a) (SU : Sta Z Z.heap tN "UNASSIGNED_STACK" steD u0) (FS : Fld Z h a tN "stackTrace" steD u0) (FB : Fld Z h a tN "backtrace" own_obD .null)
    {g : JFrame} (hg : g.method = m) (hsize : g.locals.size = c.maxLocals) {rest : List Value} (hs : g.stack = .ref a :: rest) (hd : decode c.code g.pc = .ok (.invokevirtual 27, 3)) (hf : 3 ≤ R.frames) {W : Nat} (hW : 2 * g.monitorRoom + (rest.map fun v => v.category).sum ≤ W) (hlo : W + 42 ≤ R.locals) (hce : cells + 1 ≤ R.cells) (hsl : slots + 2752 ≤ R.slots) (hb : ∀ x ∈ locs, x.base = a) :
    ∃ (T' : State) (L : List Loc), Stand p l e R s m args below meth c T' (locs ++ L) (cells + 1) (slots + 2752) ∧ (∀ x ∈ L, x.base = a) ∧ Keep s.heap T'.heap [a] ∧
      (∀ (O n d : String) (v : Value), Fld Z h a O n d v → Jvm.RoadKit.slotOf Z O n d ≠ Jvm.RoadKit.slotOf Z tN "backtrace" own_obD → Jvm.RoadKit.slotOf Z O n d ≠ Jvm.RoadKit.slotOf Z tN "depth" "I" → Jvm.RoadKit.slotOf Z O n d ≠ Jvm.RoadKit.slotOf Z tN "stackTrace" steD → Fld Z T'.heap a O n d v) ∧
      ∀ t, Steps p.tables e below (T'.setTop { g with pc := g.pc + 3, stack := .ref a :: rest }) t → Steps p.tables e below (T.setTop g) t := by
  have W' : ∀ d ∈ own_atoms, d.before args s = true := fun d hd => mvX hT0 hZ (List.all_eq_true.mp own_atomsOk d hd) (hw d (own_atomsIn d hd))
  have w : ∀ (i : Nat) (d : Cond), own_atoms[i]? = some d → d.before args s = true := fun i d q => W' d (List.mem_of_getElem? q)
  have htr : e.platform.stackTraces = true := by rw [X.admits.platform]; exact hl
  have hpl : e.platform.magicAccessors = ({} : Platform).magicAccessors := by rw [X.admits.platform]
  obtain ⟨Th, L, t1, t2, t3, t4, t5, t6⟩ := own_thr (pl := e.platform) (by rw [X.admits.platform]) (by rw [X.admits.platform]) hpl W'
  have hal := hZ.alike
  have ride : ∀ {C n d : String} {cf i : Nat} {k : Class} {f : Field}, Z.fieldFound? C n d = some (cf, k, i, f) → ∃ k' : Class, s.fieldFound? C n d = some (cf, k', i, f) ∧ k'.statics = k.statics := fun {C n d cf i k f} q => by
    obtain ⟨k', q1, q2⟩ := State.fieldFound?_setVm hal q
    exact ⟨k', q1, by rw [q2]⟩
  have same : ∀ {C n d : String} {cf i cf2 i2 : Nat} {k k2 : Class} {f f2 : Field}, s.fieldFound? C n d = some (cf, k, i, f) → Z.fieldFound? C n d = some (cf2, k2, i2, f2) → f = f2 := fun q q' => by
    obtain ⟨k', z, -⟩ := ride q'
    have y := own_two q z
    simp only [Prod.mk.injEq] at y
    exact y.2.2.2
  obtain ⟨cell, u1, u2, u3⟩ := N
  obtain ⟨cell', kc, e1, e2, e3, -, e5⟩ := E
  obtain rfl := own_two u1 e1
  obtain ⟨kX, hkX, kXe⟩ := hal.2.2 _ _ e3
  have hfe : s.vm.findClass own_FE = some cell.cls := by rw [hal.findClass]; exact e2
  obtain ⟨c4, k4, i1, i2, i3, -⟩ := Cond.instantiable_spec (hw (.instantiable own_FE 7) (List.mem_of_getElem? (i := 38) rfl))
  obtain rfl := own_two e2 i1
  obtain rfl := own_two e3 i2
  have hord : kX.kind = .ordinary := by rw [kXe]; exact i3
  have hsz : cell.slots.size = kX.instanceTypes.size := by rw [kXe]; exact e5 i3
  have tk : ∀ {f : Field} {v : Value}, kX.instanceTypes[f.slot]? = some f.type → fits f.type v = true → Jvm.Takes s cell f v := fun {f v} h1 h2 => by
    obtain ⟨z1, z2⟩ := Takes.of_laid (v := v) hkX hord h1 h2
    exact ⟨by rw [hsz]; simpa using z1, by rw [u2]; exact z2⟩
  -- the places
  obtain ⟨ciB, iB, fB, lkB, rtB, atB, stB, -, nmB, tyB, ffB⟩ := Cond.ownField (t := .object "java/lang/Object") t1 L.cls (by decide +kernel) (w 26 (.fieldLink tN 198 tN "backtrace" own_obD) rfl) (w 27 (.lays tN tN "backtrace" own_obD) rfl) e.platform hpl
  obtain ⟨_, _, cD, kD, iD, fD, -, -, ffD, stD, -⟩ := Cond.lays_spec (w 32 (.lays own_FE tN "depth" "I") rfl)
  obtain rfl := own_two t1 (Cond.lays_declared (w 32 (.lays own_FE tN "depth" "I") rfl) ffD)
  obtain ⟨hkD, atD⟩ := State.fieldFound?_spec ffD
  obtain rfl := own_two L.cls hkD
  obtain ⟨nmD, tyD⟩ := State.fieldFound?_type ffD (t := .int) (by decide +kernel)
  have hfb := Cond.soleField_find t1 L.cls (w 30 (.soleField tN "backtrace") rfl) atB nmB stB
  have hfd := Cond.soleField_find t1 L.cls (w 31 (.soleField tN "depth") rfl) atD nmD stD
  obtain ⟨comp, cO, kO, -, -, hkO, kindO, hO⟩ := Cond.arrayOver_spec (w 29 (.arrayOver (.object "java/lang/Object")) rfl)
  obtain ⟨lS, -⟩ := Cond.laysAt hfe hkX t4 (w 22 (.lays own_FE tN "stackTrace" steD) rfl)
  obtain ⟨lB, -⟩ := Cond.laysAt hfe hkX ffB (w 28 (.lays own_FE tN "backtrace" own_obD) rfl)
  obtain ⟨lD, -⟩ := Cond.laysAt hfe hkX ffD (w 32 (.lays own_FE tN "depth" "I") rfl)
  have sel0 : selectMethod e.platform s.vm cell.cls Th.fill0 = .method Th.fill0 := by
    obtain ⟨z0, z1, z2, q1, q2, q3, q4, -⟩ := Cond.selects_spec (w 24 (.selects own_FE tFill0 tFill0) rfl)
    obtain rfl := own_two hfe q1
    obtain rfl := own_two (State.methodFound?_of_named t3 (by decide)) q2
    obtain rfl := own_two t3 q3
    rw [Launch.admits_selectMethod X.admits]; exact q4
  -- the statics' cell
  obtain ⟨cU, iU, kU, fU, st, cellS, s1, s2, s3, s4, s5, s6, s7⟩ := SU
  obtain ⟨kU', s8, s9⟩ := ride s1
  have y := own_two t5 s8
  simp only [Prod.mk.injEq] at y
  obtain ⟨y1, y2, -, y4⟩ := y
  have hst : st = Th.aS := by
    have q := L.statics
    rw [y2, s9] at q
    exact own_two s4 q
  have hZT : Z.vm.findClass tN = some cU := by rw [← hal.findClass, ← y1]; exact t1
  have hcS : h[Th.aS]? = some cellS := by rw [← hst]; exact hT st kU cU cellS hZT (State.fieldFound?_class s1) s4 s5 s6
  have hneS : Th.aS ≠ a := fun q => by
    rw [q] at hcS
    obtain rfl := own_two u1 hcS
    rw [u2] at s6; cases s6
  have hknS : cellS.vm ≠ .unknown := fun q => by rw [q] at s6; cases s6
  -- the receiver's two places
  obtain ⟨c2, cf2, k2, i22, f2, g1, g2, -, -, -, -, g7⟩ := FS
  obtain rfl := own_two u1 g1
  obtain ⟨c3, cf3, k3, i33, f3, b1, b2, -, -, -, -, b7⟩ := FB
  obtain rfl := own_two u1 b1
  have q2 : Th.fStack = f2 := same t4 g2
  have q3 : fB = f3 := same ffB b2
  obtain ⟨_, _, cE, kE, iE, fE, -, -, zE, -⟩ := Cond.lays_spec (hw _ (own_atomsIn _ (List.mem_of_getElem? (i := 32) (a := Cond.lays own_FE tN "depth" "I") rfl)))
  have q4 : fD = fE := same ffD zE
  obtain ⟨v6, vm6, ⟨T6, L6, c6, n6⟩, hW6, X6, ⟨hv6, C6, n, hn, D6, k1, k2', k3', k4', hL6, hc6, hn6⟩, st6⟩ := X.virtualBack hx (own := tN) (C := own_FE) (index := 27) (y := tFill) (z := tFill) hown (w 9 (.methodLink tN 27 tFill) rfl) (w 23 (.declares tFill) rfl) (notFace_of_selects (w 25 (.selects own_FE tFill tFill) rfl)) (w 25 (.selects own_FE tFill tFill) rfl) (w 2 (.instanceMethod tFill) rfl) (by decide)
    (Jvm.Free.Exc.fillPaysAny (l := l) (W := W) hx htr Th L t2 (u0 := ⟨u0, hu⟩) (self := a) (cell := cell) (cellS := cellS) (fun _ => by rw [u2]; simp) (by rw [u2]; simp) (by rw [u3]) (by rw [u3]) (by rw [q2]; exact g7) sel0 hneS hknS (by rw [y4]; exact s7) (tk lS (by rw [t6]; exact fits_refV_array _ ⟨u0, hu⟩))
      ⟨{ ci198 := ciB, i198 := iB, fBack := fB }, ⟨lkB, rtB, atB, stB⟩, by show cell.slots[fB.slot]? = some .null; rw [q3]; exact b7⟩ hTK hB t1 hO hkO kindO hfb hfd (fun x => tk lB (by rw [tyB]; rfl)) (fun x => tk lD (by rw [tyD]; rfl)) (by omega) hlo)
    (b := a) (cB := cell.cls) hfe ⟨cell, by rw [eT]; exact u1, rfl, by rw [u2]; rfl⟩ (g := g) hg hsize (Steps.refl _) (argsL := []) (rest := rest)
    (fun sig q => by rw [show parseMethodDescriptor tFill.desc = some ⟨[], some (.object tN)⟩ from by decide +kernel] at q; rw [← Option.some.inj q]; rfl) hs hW hd
    (fun vmx _ => ⟨rfl, hce, hsl, by show T.heap[a]? = some cell; rw [eT]; exact u1, by show T.heap[Th.aS]? = some cellS; rw [eT]; exact hcS⟩)
  dsimp only [Pt.U, Pt.locs, Pt.cells, Pt.slots] at X6 D6 hL6 hc6 hn6 st6
  subst hv6 hL6 hc6 hn6
  have hb3 : ∀ x ∈ ([⟨a, fB.slot⟩, ⟨a, fD.slot⟩, ⟨a, Th.fStack.slot⟩] : List Loc), x.base = a := fun x q => by
    simp only [List.mem_cons, List.not_mem_nil, or_false] at q
    rcases q with rfl | rfl | rfl <;> rfl
  have KT : Jvm.Free.Exc.Kept s T6 (locs ++ [⟨a, fB.slot⟩, ⟨a, fD.slot⟩, ⟨a, Th.fStack.slot⟩]) := X6.same.2.2.2.2.2
  refine ⟨T6, _, X6.more (Nat.le_refl _) (Nat.add_le_add_left hn _), hb3, ⟨X6.same.2.1, fun x c q ne => KT.other (fun y hy => (List.mem_append.mp hy).elim (hb y) (hb3 y)) (by simpa using ne) q, fun x c q => ?_⟩, fun O n d v F x1 x2 x3 => ?_, fun t q => st6.trans q⟩
  · obtain ⟨c', z1, z2, z3, -⟩ := KT x c q
    exact ⟨c', z1, by rw [z2], by rw [z2], z3⟩
  · obtain ⟨cc, cf, k, i, f, h1, h2, h3, h4, h5, h6, h7⟩ := F
    obtain rfl := own_two u1 h1
    have o1 : Jvm.RoadKit.slotOf Z O n d = f.slot := by simp [Jvm.RoadKit.slotOf, h2]
    have o2 : Jvm.RoadKit.slotOf Z tN "backtrace" own_obD = fB.slot := by rw [q3]; simp [Jvm.RoadKit.slotOf, b2]
    have o3 : Jvm.RoadKit.slotOf Z tN "depth" "I" = fD.slot := by rw [q4]; simp [Jvm.RoadKit.slotOf, zE]
    have o4 : Jvm.RoadKit.slotOf Z tN "stackTrace" steD = Th.fStack.slot := by rw [q2]; simp [Jvm.RoadKit.slotOf, g2]
    rw [o1] at x1 x2 x3
    rw [o2] at x1; rw [o3] at x2; rw [o4] at x3
    exact ⟨C6, cf, k, i, f, D6, h2, h3, by rw [k2']; exact h4, by rw [k2']; exact h5, by rw [k1]; exact h6, by rw [k4' _ x1 x2 x3]; exact h7⟩
theorem own_arr {t : Term} {ty : FieldType} {args : Array Value} {first s : State} {o : Option Outcome} {idx : List Nat} (h : (Cond.arrayOf t ty).value args first o s idx = some true) : ∃ x, t.eval args first o idx s = some (.ref x) := by
  simp only [Cond.value] at h
  split at h
  · cases h
  · split at h
    · rename_i a q; exact ⟨a, q⟩
    · cases h
    · cases h
theorem own_nil {p : Program} {l : Launch} {e : Env} {R : Room} {s : State} {m : MethodId} {args : Array Value} {below : List Frame} {meth : Method} {c : Code} {T : State} {locs : List Loc} {cells slots : Nat} (X : Stand p l e R s m args below meth c T locs cells slots) (K : Keep s.heap T.heap []) :
    Stand p l e R s m args below meth c T [] cells slots :=
  { X with same := ⟨X.same.1, X.same.2.1, X.same.2.2.1, X.same.2.2.2.1, X.same.2.2.2.2.1, fun a c q => ⟨c, K.2.1 a c q (fun z => nomatch z), rfl, rfl, fun _ _ => rfl⟩⟩ }
theorem own_sbE {Z : State} {h h' : Heap} {x t : Addr} {kb : ClassId} {cs : List Int32} {r : Nat} (S : own_sb Z h x t kb cs r) (E : Ext h h') : own_sb Z h' x t kb cs r := by
  obtain ⟨a, b, c, d, f⟩ := S
  exact ⟨a.ext E, b.ext E, c.ext E, d.ext E, f.ext E⟩
theorem own_strN {Z : State} {h h' : Heap} {x a : Addr} {cs : List Int32} {a0 : Array Value} (hw : ∀ d ∈ tables_1, d.before a0 Z = true) (S : own_str Z h x cs) (K : Keep h h' [a]) (F : Exa Z h a own_FE) : own_str Z h' x cs := by
  obtain ⟨t, kb, e, c, v, q⟩ := S
  have n1 : x ≠ a := e.ne F (by decide)
  have n2 : t ≠ a := Ne.symm (F.neArv q (hw (.instantiable own_FE 7) (List.mem_of_getElem? (i := 38) rfl)))
  exact ⟨t, kb, e.keep K, c.keep K (ninS n1 nin0), v.keep K (ninS n1 nin0), q.keep K (ninS n2 nin0)⟩
theorem own_ib {Z s : State} {vm : Vm} {Ts : List String} (h : s.WarmedH vm) (I : IB Z s.vm Ts) : IB Z vm Ts := by
  obtain ⟨more, q, r⟩ := I
  exact ⟨more, h.interned_eq.trans q, r⟩
theorem own_backI {p : Program} {l : Launch} {e : Env} {R : Room} {s : State} {args : Array Value} {below : List Frame} {Z : State} {a0 : Array Value} {h : Heap} {Ts : List String} {y : MethodName} {bytes : ByteArray} {maxL : Nat} {ret : Option FieldType} {rm : Room} {len W : Nat} {as' : Array Value} {Q : Option Value → Heap → List Loc → Prop}
    (hM : MetFree l y (head1 [Cond.code y bytes maxL ret] rm) (fun a U => a = as' ∧ Z.Warmed39 U.vm ∧ U.heap = h ∧ IB Z U.vm Ts) (fun _ _ bl s _ => s.vm.MethodsKnown ∧ s.vm.FramesKnown bl) (fun _ U o U' => ∃ v L, o = .returned v ∧ Q v U'.heap L ∧ ReturnedEndW U o U' L rm.cells rm.slots))
    (hZ : Z.Warmed39 s.vm) (I : IB Z s.vm Ts) (wc : (Cond.code y bytes maxL ret).before a0 Z = true) (wz : (Cond.initialized y.cls).before a0 Z = true) (hf : rm.frames + 1 ≤ R.frames) (hl : W + (maxL + 11) + rm.locals ≤ R.locals) (hTK : s.vm.MethodsKnown) (hB : s.vm.FramesKnown below) :
    BackS l R p e below s args y len W (fun A a => a = as' ∧ A.U.heap = h ∧ A.cells + rm.cells ≤ R.cells ∧ A.slots + rm.slots ≤ R.slots)
      (fun A _ v B => ∃ L, Q v B.U.heap L ∧ B.locs = A.locs ++ L ∧ B.cells = A.cells + rm.cells ∧ B.slots = A.slots + rm.slots) := by
  refine BackS.of_freeWG (bytes := bytes) (maxL := maxL) (ret := ret) (E := fun _ _ o t L k n => k = rm.cells ∧ n = rm.slots ∧ ∃ v, o = .returned v ∧ Q v t.heap L) hM hf hl ?_ ?_ ?_ ?_ ?_
  · intro m meth c A a Y hp
    have hU : Z.Warmed39 A.U.vm := wtrans hZ Y.warmed
    refine ⟨?_, mv hU wc, mv hU wz, hp.2.2.1, hp.2.2.2⟩
    show (Cond.and _ .tt).before a A.U = true
    rw [Cond.before_and, mv hU wc]; rfl
  · intro m meth c A a g mk Y hp
    exact ⟨hp.1, wtrans hZ Y.warmed, hp.2.1, own_ib Y.warmed I⟩
  · intro m meth c A a g mk Y _ hg
    exact known_frames Y hg hTK hB
  · rintro _ _ _ _ ⟨v, L, h1, h2, h3⟩
    exact ⟨L, _, _, h3, rfl, rfl, v, h1, h2⟩
  · rintro m meth c A a g mk v t L k n Y hp _ _ ⟨e1, e2, v', e3, e4⟩
    cases e3; subst e1 e2
    exact ⟨L, e4, rfl, rfl, rfl⟩
abbrev own_t18 : List Int32 := [67, 97, 110, 110, 111, 116, 32, 102, 105, 108, 116, 101, 114, 32, 98, 121, 32]
abbrev own_t24 : List Int32 := [58, 32]
theorem own_all {L : List Int32} (h : (L.all fun c => decide (¬ c < 0) && decide (¬ (255 : Int32) < c)) = true) : ∀ c ∈ L, own_c255 c := fun c hc => by
  have q := List.all_eq_true.mp h c hc
  simp only [Bool.and_eq_true, decide_eq_true_eq] at q
  exact q
theorem own_c18 : ∀ c ∈ own_t18, own_c255 c := own_all (by decide)
theorem own_c24 : ∀ c ∈ own_t24, own_c255 c := own_all (by decide)
theorem own_lm0 : ∀ c ∈ ([] : List Int32), own_c255 c := fun _ h => nomatch h
theorem own_tl18 : "Cannot filter by ".toList = ['C', 'a', 'n', 'n', 'o', 't', ' ', 'f', 'i', 'l', 't', 'e', 'r', ' ', 'b', 'y', ' '] := by simp
theorem own_tl24 : ": ".toList = [':', ' '] := by simp
theorem own_ht18 : (∀ c ∈ "Cannot filter by ".toList, c.toNat < 256) ∧ "Cannot filter by ".toList.map (fun c => Value.int (Jvm.Lit.byteI c.toNat.toUInt16)) = own_B own_t18 := by
  rw [own_tl18]; exact ⟨by decide, by rfl⟩
theorem own_ht24 : (∀ c ∈ ": ".toList, c.toNat < 256) ∧ ": ".toList.map (fun c => Value.int (Jvm.Lit.byteI c.toNat.toUInt16)) = own_B own_t24 := by
  rw [own_tl24]; exact ⟨by decide, by rfl⟩
theorem own_ht7 : (∀ c ∈ "".toList, c.toNat < 256) ∧ "".toList.map (fun c => Value.int (Jvm.Lit.byteI c.toNat.toUInt16)) = own_B [] := ⟨by simp, by simp⟩
theorem own_hn18 : 4 * "Cannot filter by ".toList.length ≤ 68 := by rw [own_tl18]; decide
theorem own_hn24 : 4 * ": ".toList.length ≤ 8 := by rw [own_tl24]; decide
theorem own_hn7 : 4 * "".toList.length ≤ 0 := by simp
theorem hwsE (a0 : Array Value) (Z : State) (hw : ∀ d ∈ tables_1, d.before a0 Z = true) : ∀ d ∈ StrChars.Road.wordsEq, d.before a0 Z = true := fun d hd => hw d ((by decide +kernel : ∀ d ∈ StrChars.Road.wordsEq, d ∈ tables_1) d hd)
theorem hws (a0 : Array Value) (Z : State) (hw : ∀ d ∈ tables_1, d.before a0 Z = true) : ∀ d ∈ StrChars.Road.words, d.before a0 Z = true := fun d hd => hw d ((by decide +kernel : ∀ d ∈ StrChars.Road.words, d ∈ tables_1) d hd)
theorem own_eq {p : Program} {l : Launch} {e : Env} {R : Room} {s : State} {args : Array Value} {below : List Frame} {len W : Nat} {Z : State} {a0 : Array Value} {h : Heap} (hZ : Z.Warmed39 s.vm) (hw : ∀ d ∈ tables_1, d.before a0 Z = true) {kI : Nat} (wi : (Jvm.Cond.instantiable "java/lang/String" kI).before a0 Z = true)
    {x y : Addr} {cs ds : List Int32} (A : own_str Z h x cs) (B : own_str Z h y ds) (hcd : cs = ds) (hcs : ∀ c ∈ cs, own_c255 c) (hl : cs.length ≤ 4000) {z : Int32} (S : Sta Z h "java/lang/String" "COMPACT_STRINGS" "Z" (.int z)) (hz : ¬ z = 0) (hfr : 2 ≤ R.frames) (hlo : W + 28 ≤ R.locals) :
    Back l R p e below s args (⟨"java/lang/String", "equals", "(Ljava/lang/Object;)Z"⟩ : MethodName) len W (fun P a => a = #[.ref x, .ref y] ∧ P.U.heap = h ∧ P.cells + 0 ≤ R.cells ∧ P.slots + 0 ≤ R.slots)
      (fun P _ v B => ∃ L, (v = some (.int 1) ∧ L = [] ∧ B.U.heap = h) ∧ B.locs = P.locs ++ L ∧ B.cells = P.cells + 0 ∧ B.slots = P.slots + 0) := by
  subst hcd
  obtain ⟨t, kb, e1, c1, v1, q1⟩ := A
  obtain ⟨t', kb', e2, c2, v2, q2⟩ := B
  refine Back.mono (StrChars.Road.eqW hZ (hwsE a0 Z hw) wi e1 v1 c1 q1 (StrChars.Road.codOf rfl (fun c hc => (hcs c hc).2)) (own_up hcs) hl e2 v2 c2 q2 (StrChars.Road.codOf rfl (fun c hc => (hcs c hc).2)) (own_up hcs) hl S hz hfr hlo) (fun P a q => q) ?_
  rintro P a v B hp ⟨L, ⟨hv, hL, hh⟩, r⟩
  refine ⟨L, ⟨?_, hL, hh⟩, r⟩
  rcases hv with ⟨q, -⟩ | ⟨-, q⟩
  · exact q
  · exact absurd rfl q
theorem own_of255 {p : Int32} (h : own_c255 p) : ∃ k : Fin 256, p = Int32.ofNat k.val := by
  unfold own_c255 at h
  rw [Int32.lt_iff_toInt_lt, Int32.lt_iff_toInt_lt] at h
  have z : (0 : Int32).toInt = 0 := rfl
  have y : (255 : Int32).toInt = 255 := rfl
  refine ⟨⟨p.toInt.toNat, by omega⟩, ?_⟩
  apply Int32.toInt_inj.mp
  rw [Int32.toInt_ofNat_of_lt (by simp only; omega)]
  simp only; omega
theorem own_c16f : ∀ k : Fin 256, nar .char (Int32.ofNat k.val) = Int32.ofNat k.val := by decide +kernel
theorem own_c16 {p : Int32} (h : own_c255 p) : nar .char p = p := by
  obtain ⟨k, rfl⟩ := own_of255 h
  exact own_c16f k
theorem own_c16L : ∀ {L : List Int32}, (∀ c ∈ L, own_c255 c) → L.map (fun c => Value.int (nar .char c)) = L.map Value.int
  | [], _ => rfl
  | c :: L, h => by
    rw [List.map_cons, List.map_cons, own_c16 (h c (List.mem_cons_self ..)), own_c16L (L := L) fun d hd => h d (List.mem_cons_of_mem _ hd)]
theorem own_and255 (x : Int32) : own_c255 ((x &&& (255 : Int32)).toUInt32.toUInt16.toUInt32.toInt32) := by
  have t : ∀ k : Fin 256, ¬ ((Int32.ofNat k.val).toUInt32.toUInt16.toUInt32.toInt32) < 0 ∧ ¬ (255 : Int32) < ((Int32.ofNat k.val).toUInt32.toUInt16.toUInt32.toInt32) := by decide +kernel
  have h : (x &&& 255).toBitVec.toNat < 256 := by
    simp only [Int32.toBitVec_and, BitVec.toNat_and]
    exact Nat.lt_succ_of_le Nat.and_le_right
  have e : (x &&& 255) = Int32.ofNat (x &&& 255).toBitVec.toNat := by
    apply Int32.toBitVec_inj.mp
    show _ = BitVec.ofNat 32 _
    rw [BitVec.ofNat_toNat]; simp
  rw [e]
  exact t ⟨_, h⟩
theorem own_cons {c : Int32} {L : List Int32} (h : own_c255 c) (H : ∀ d ∈ L, own_c255 d) : ∀ d ∈ c :: L, own_c255 d := fun d hd => by
  rcases List.mem_cons.mp hd with rfl | hd
  · exact h
  · exact H d hd
theorem own_app {L M : List Int32} (h : ∀ d ∈ L, own_c255 d) (H : ∀ d ∈ M, own_c255 d) : ∀ d ∈ L ++ M, own_c255 d := fun d hd => (List.mem_append.mp hd).elim (h d) (H d)
theorem own_strM {Z : State} {h h' : Heap} {x a : Addr} {cs : List Int32} {a0 : Array Value} {n : Nat} (S : own_str Z h x cs) (K : Keep h h' [a]) (F : Exa Z h a "java/lang/String") (wi : (Jvm.Cond.instantiable "java/lang/String" n).before a0 Z = true) (ne : x ≠ a) : own_str Z h' x cs := by
  obtain ⟨t, kb, e, c, v, q⟩ := S
  have n2 : t ≠ a := Ne.symm (F.neArv q wi)
  exact ⟨t, kb, e.keep K, c.keep K (ninS ne nin0), v.keep K (ninS ne nin0), q.keep K (ninS n2 nin0)⟩
theorem d13_0 : decode jdk_42_method_152_code 0 = .ok (.getstatic 38, 3) := by decide +kernel
theorem d13_3 : decode jdk_42_method_152_code 3 = .ok (.ifCond .eq 10, 3) := by decide +kernel
theorem d13_6 : decode jdk_42_method_152_code 6 = .ok (.aload_n 0, 1) := by decide +kernel
theorem d13_7 : decode jdk_42_method_152_code 7 = .ok (.getfield 15, 3) := by decide +kernel
theorem d13_10 : decode jdk_42_method_152_code 10 = .ok (.goto 4, 3) := by decide +kernel
theorem d13_14 : decode jdk_42_method_152_code 14 = .ok (.ireturn, 1) := by decide +kernel
theorem pn_13 : plainName "java/lang/String" = true := by first | (simp [plainName, overriddenIn]; done) | decide +kernel
theorem ef_13 (m : MethodId) (a1 : Addr) : entryFrame m #[(.ref a1)] 1 = (mkF m 0 #[.val (.ref a1)] []) := by first | (simp [entryFrame, mkF, argsToLocals, Value.category]; done) | rfl
def Q13 (Z : State) (a1 : Addr) (G1 : Int32) (h0 : Heap) (n0 : Nat) (v : Option Value) (h : Heap) (L : List Loc) : Prop := v = some (.int (0 : Int32)) ∧ Fr n0 L ∧ h = h0
set_option maxRecDepth 65536 in
set_option maxHeartbeats 40000000 in
theorem rm13 (l : Launch) (Z : State) (a0 : Array Value) (hw : ∀ d ∈ tables_1, d.before a0 Z = true) (ws : List Jvm.Cond) (a1 : Addr) (G1 : Int32) (h0 : Heap) (n0 : Nat) (Z0 : n0 ≤ h0.size) (OLD0 : Old Z n0 h0) (SCS : Sta Z Z.heap "java/lang/String" "COMPACT_STRINGS" "Z" (.int G1)) (P5 : ¬ (G1 = (0 : Int32))) (E_a1 : Exa Z h0 a1 "java/lang/String") (F_c : Fld Z h0 a1 "java/lang/String" "coder" "B" (.int (0 : Int32))) :
    MetFree l (⟨"java/lang/String", "coder", "()B"⟩ : MethodName) (head1 (Jvm.Cond.code (⟨"java/lang/String", "coder", "()B"⟩ : MethodName) jdk_42_method_152_code 1 (some .byte) :: ws) ({ frames := 0, cells := 0, slots := 0, locals := 0 } : Room)) (fun a U => a = #[(.ref a1)] ∧ Z.Warmed39 U.vm ∧ U.heap = h0) (fun _ _ _ _ _ => True) (fun _ U o U' => ∃ v L, o = .returned v ∧ Q13 Z a1 G1 h0 n0 v U'.heap L ∧ FrameEnd U o U' L ({ frames := 0, cells := 0, slots := 0, locals := 0 } : Room).cells ({ frames := 0, cells := 0, slots := 0, locals := 0 } : Room).slots) := by
  refine MetFree.of_bodySF (plainFor_of_name pn_13) hisR ?_
  intro p e s m args below meth c s₁ Bd hml0 hP hK
  obtain ⟨rfl, hZ, hh⟩ := hP
  have hx := Bd.exec
  have hby := Bd.bytes
  have hml : c.maxLocals = 1 := hml0
  have hown : s.vm.findClass "java/lang/String" = some m.cls := findClass_of_methodNamed Bd.named
  have hnm := (name_of_methodNamed Bd.named Bd.method).1
  have X0 : Stand p l e ({ frames := 0, cells := 0, slots := 0, locals := 0 } : Room) s m #[(.ref a1)] below meth c s₁ [] 0 0 := Stand.of_body Bd
  have e0 : s₁.heap = h0 := by rw [← hh, Bd.state]; rfl
  have N0 := Fr.nil n0
  have K0 := Keep.refl h0 ([] : List Addr)
  have pre0 : ∀ t, Steps p.tables e below (s₁.setTop (mkF m 0 #[.val (.ref a1)] [])) t → Steps p.tables e below (s₁.setTop (entryFrame m #[(.ref a1)] 1)) t := fun t k => castTop (ef_13 m a1) k
  have q1 := SCS.ext (OLD0.keep K0 all0).2
  obtain ⟨T2, X2, e2, st2⟩ := getS2 X0 hx hZ hown (host := "") (Or.inl (hw _ (List.mem_of_getElem? (i := 20) rfl))) Via.refl e0 q1 (g := (mkF m 0 #[.val (.ref a1)] [])) rfl (hb hby d13_0)
  have hk3 : ¬ (G1 = (0 : Int32)) := P5
  obtain ⟨T4, X4, e4, st4⟩ := getF X2 hx hZ hown (host := "") (Or.inl (hw _ (List.mem_of_getElem? (i := 31) rfl))) Via.refl e2 F_c (g := (mkF m 7 #[.val (.ref a1)] [(.ref a1)])) rfl rfl (hb hby d13_7)
  obtain ⟨fs, hr, hrun, hended, hW, hsame⟩ := X4.leave (v := some (.int (0 : Int32))) (fun h => by rw [Bd.returns] at h; cases h)
  refine ⟨_, _, pre0 _ ?_, hrun, hended, _, _, rfl, ?_, ⟨_, rfl⟩, hW, hsame.mono (by decide) (by decide)⟩
  ·
    show Steps p.tables e below (s₁.setTop (mkF m 0 #[.val (.ref a1)] [])) _
    refine st2 _ ?_
    show Steps p.tables e below (T2.setTop (mkF m 3 #[.val (.ref a1)] [(.int G1)])) _
    refine XS.ifNo X2.here hx rfl (hb hby d13_3) rfl ((if0 _ _).trans (feq hk3).1) ?_
    show Steps p.tables e below (T2.setTop (mkF m 6 #[.val (.ref a1)] [])) _
    refine XS.aloadN X2.here hx rfl (hb hby d13_6) rfl rfl ?_
    show Steps p.tables e below (T2.setTop (mkF m 7 #[.val (.ref a1)] [(.ref a1)])) _
    refine st4 _ ?_
    show Steps p.tables e below (T4.setTop (mkF m 10 #[.val (.ref a1)] [(.int (0 : Int32))])) _
    refine XS.goto X4.here hx rfl (pc0 := 10) (pc' := 14) rfl (hb hby d13_10) (by decide) (by decide) ?_
    show Steps p.tables e below (T4.setTop (mkF m 14 #[.val (.ref a1)] [(.int (0 : Int32))])) _
    exact retN X4 hx (t := .byte) Bd.returns (by simp) (hb hby d13_14) hr
  ·
    show Q13 Z a1 G1 h0 n0 _ T4.heap _
    rw [e4]
    exact ⟨rfl, N0, rfl⟩
theorem d17_0 : decode jdk_29_method_65_code 0 = .ok (.iload_n 0, 1) := by decide +kernel
theorem d17_1 : decode jdk_29_method_65_code 1 = .ok (.iload_n 1, 1) := by decide +kernel
theorem d17_2 : decode jdk_29_method_65_code 2 = .ok (.if_icmp .lt 7, 3) := by decide +kernel
theorem d17_9 : decode jdk_29_method_65_code 9 = .ok (.iload_n 1, 1) := by decide +kernel
theorem d17_10 : decode jdk_29_method_65_code 10 = .ok (.ireturn, 1) := by decide +kernel
theorem ef_17 (m : MethodId) (p0 : Int32) (p1 : Int32) : entryFrame m #[(.int p0), (.int p1)] 2 = (mkF m 0 #[.val (.int p0), .val (.int p1)] []) := by first | (simp [entryFrame, mkF, argsToLocals, Value.category]; done) | rfl
def Q17 (Z : State) (p0 : Int32) (p1 : Int32) (h0 : Heap) (n0 : Nat) (v : Option Value) (h : Heap) (L : List Loc) : Prop := v = some (.int p1) ∧ Fr n0 L ∧ h = h0
set_option maxRecDepth 65536 in
set_option maxHeartbeats 40000000 in
theorem rm17 (l : Launch) (Z : State) (a0 : Array Value) (hw : ∀ d ∈ tables_1, d.before a0 Z = true) (ws : List Jvm.Cond) (p0 : Int32) (p1 : Int32) (h0 : Heap) (n0 : Nat) (Z0 : n0 ≤ h0.size) (hp : p0 < p1) :
    MetFree l (⟨"java/lang/Math", "max", "(II)I"⟩ : MethodName) (head1 (Jvm.Cond.code (⟨"java/lang/Math", "max", "(II)I"⟩ : MethodName) jdk_29_method_65_code 2 (some .int) :: ws) ({ frames := 0, cells := 0, slots := 0, locals := 0 } : Room)) (fun a U => a = #[(.int p0), (.int p1)] ∧ Z.Warmed39 U.vm ∧ U.heap = h0) (fun _ _ _ _ _ => True) (fun _ U o U' => ∃ v L, o = .returned v ∧ Q17 Z p0 p1 h0 n0 v U'.heap L ∧ FrameEnd U o U' L ({ frames := 0, cells := 0, slots := 0, locals := 0 } : Room).cells ({ frames := 0, cells := 0, slots := 0, locals := 0 } : Room).slots) := by
  refine MetFree.of_bodySF (Jvm.Free.JP.mathPlain rfl (by decide +kernel)) hisR ?_
  intro p e s m args below meth c s₁ Bd hml0 hP hK
  obtain ⟨rfl, hZ, hh⟩ := hP
  have hx := Bd.exec
  have hby := Bd.bytes
  have hml : c.maxLocals = 2 := hml0
  have hown : s.vm.findClass "java/lang/Math" = some m.cls := findClass_of_methodNamed Bd.named
  have hnm := (name_of_methodNamed Bd.named Bd.method).1
  have X0 : Stand p l e ({ frames := 0, cells := 0, slots := 0, locals := 0 } : Room) s m #[(.int p0), (.int p1)] below meth c s₁ [] 0 0 := Stand.of_body Bd
  have e0 : s₁.heap = h0 := by rw [← hh, Bd.state]; rfl
  have N0 := Fr.nil n0
  have K0 := Keep.refl h0 ([] : List Addr)
  have pre0 : ∀ t, Steps p.tables e below (s₁.setTop (mkF m 0 #[.val (.int p0), .val (.int p1)] [])) t → Steps p.tables e below (s₁.setTop (entryFrame m #[(.int p0), (.int p1)] 2)) t := fun t k => castTop (ef_17 m p0 p1) k
  have hk1 : p0 < p1 := hp
  obtain ⟨fs, hr, hrun, hended, hW, hsame⟩ := X0.leave (v := some (.int p1)) (fun h => by rw [Bd.returns] at h; cases h)
  refine ⟨_, _, pre0 _ ?_, hrun, hended, _, _, rfl, ?_, ⟨_, rfl⟩, hW, hsame.mono (by decide) (by decide)⟩
  ·
    show Steps p.tables e below (s₁.setTop (mkF m 0 #[.val (.int p0), .val (.int p1)] [])) _
    refine XS.iloadN X0.here hx rfl (hb hby d17_0) rfl ?_
    show Steps p.tables e below (s₁.setTop (mkF m 1 #[.val (.int p0), .val (.int p1)] [(.int p0)])) _
    refine XS.iloadN X0.here hx rfl (hb hby d17_1) rfl ?_
    show Steps p.tables e below (s₁.setTop (mkF m 2 #[.val (.int p0), .val (.int p1)] [(.int p1), (.int p0)])) _
    refine XS.icmpYes X0.here hx rfl (pc0 := 2) (pc' := 9) rfl (hb hby d17_2) rfl (tlt hk1).1 (by decide) (by decide) ?_
    show Steps p.tables e below (s₁.setTop (mkF m 9 #[.val (.int p0), .val (.int p1)] [])) _
    refine XS.iloadN X0.here hx rfl (hb hby d17_9) rfl ?_
    show Steps p.tables e below (s₁.setTop (mkF m 10 #[.val (.int p0), .val (.int p1)] [(.int p1)])) _
    exact retI X0 hx Bd.returns (hb hby d17_10) hr
  ·
    show Q17 Z p0 p1 h0 n0 _ s₁.heap _
    rw [e0]
    exact ⟨rfl, N0, rfl⟩
theorem d19_0 : decode jdk_29_method_69_code 0 = .ok (.iload_n 0, 1) := by decide +kernel
theorem d19_1 : decode jdk_29_method_69_code 1 = .ok (.iload_n 1, 1) := by decide +kernel
theorem d19_2 : decode jdk_29_method_69_code 2 = .ok (.if_icmp .gt 7, 3) := by decide +kernel
theorem d19_5 : decode jdk_29_method_69_code 5 = .ok (.iload_n 0, 1) := by decide +kernel
theorem d19_6 : decode jdk_29_method_69_code 6 = .ok (.goto 4, 3) := by decide +kernel
theorem d19_9 : decode jdk_29_method_69_code 9 = .ok (.iload_n 1, 1) := by decide +kernel
theorem d19_10 : decode jdk_29_method_69_code 10 = .ok (.ireturn, 1) := by decide +kernel
theorem ef_19 (m : MethodId) (p0 : Int32) (p1 : Int32) : entryFrame m #[(.int p0), (.int p1)] 2 = (mkF m 0 #[.val (.int p0), .val (.int p1)] []) := by first | (simp [entryFrame, mkF, argsToLocals, Value.category]; done) | rfl
def Q19 (Z : State) (p0 : Int32) (p1 : Int32) (h0 : Heap) (n0 : Nat) (v : Option Value) (h : Heap) (L : List Loc) : Prop := v = some (.int (if p1 < p0 then p1 else p0)) ∧ Fr n0 L ∧ h = h0
set_option maxRecDepth 65536 in
set_option maxHeartbeats 40000000 in
theorem rm19 (l : Launch) (Z : State) (a0 : Array Value) (hw : ∀ d ∈ tables_1, d.before a0 Z = true) (ws : List Jvm.Cond) (p0 : Int32) (p1 : Int32) (h0 : Heap) (n0 : Nat) (Z0 : n0 ≤ h0.size) :
    MetFree l (⟨"java/lang/Math", "min", "(II)I"⟩ : MethodName) (head1 (Jvm.Cond.code (⟨"java/lang/Math", "min", "(II)I"⟩ : MethodName) jdk_29_method_69_code 2 (some .int) :: ws) ({ frames := 0, cells := 0, slots := 0, locals := 0 } : Room)) (fun a U => a = #[(.int p0), (.int p1)] ∧ Z.Warmed39 U.vm ∧ U.heap = h0) (fun _ _ _ _ _ => True) (fun _ U o U' => ∃ v L, o = .returned v ∧ Q19 Z p0 p1 h0 n0 v U'.heap L ∧ FrameEnd U o U' L ({ frames := 0, cells := 0, slots := 0, locals := 0 } : Room).cells ({ frames := 0, cells := 0, slots := 0, locals := 0 } : Room).slots) := by
  refine MetFree.of_bodySF (Jvm.Free.JP.mathPlain rfl (by decide +kernel)) hisR ?_
  intro p e s m args below meth c s₁ Bd hml0 hP hK
  obtain ⟨rfl, hZ, hh⟩ := hP
  have hx := Bd.exec
  have hby := Bd.bytes
  have hml : c.maxLocals = 2 := hml0
  have hown : s.vm.findClass "java/lang/Math" = some m.cls := findClass_of_methodNamed Bd.named
  have hnm := (name_of_methodNamed Bd.named Bd.method).1
  have X0 : Stand p l e ({ frames := 0, cells := 0, slots := 0, locals := 0 } : Room) s m #[(.int p0), (.int p1)] below meth c s₁ [] 0 0 := Stand.of_body Bd
  have e0 : s₁.heap = h0 := by rw [← hh, Bd.state]; rfl
  have N0 := Fr.nil n0
  have K0 := Keep.refl h0 ([] : List Addr)
  have pre0 : ∀ t, Steps p.tables e below (s₁.setTop (mkF m 0 #[.val (.int p0), .val (.int p1)] [])) t → Steps p.tables e below (s₁.setTop (entryFrame m #[(.int p0), (.int p1)] 2)) t := fun t k => castTop (ef_19 m p0 p1) k
  obtain ⟨v2, hv2⟩ : ∃ z : Int32, z = if p1 < p0 then p1 else p0 := ⟨_, rfl⟩
  have mg3 : ∀ t, Steps p.tables e below (s₁.setTop (mkF m 10 #[.val (.int p0), .val (.int p1)] [(.int v2)])) t → Steps p.tables e below (s₁.setTop (mkF m 2 #[.val (.int p0), .val (.int p1)] [(.int p1), (.int p0)])) t := by
    intro t kt
    by_cases hm1 : p1 < p0
    ·
      have ev2 : v2 = p1 := by rw [hv2, if_pos hm1]
      rw [ev2] at kt
      refine (fun t (k : Steps p.tables e below (s₁.setTop (mkF m 2 #[.val (.int p0), .val (.int p1)] [(.int p1), (.int p0)])) t) => k) _ ?_
      refine XS.icmpYes X0.here hx rfl (pc0 := 2) (pc' := 9) rfl (hb hby d19_2) rfl (tlt hm1).2.2.1 (by decide) (by decide) ?_
      show Steps p.tables e below (s₁.setTop (mkF m 9 #[.val (.int p0), .val (.int p1)] [])) _
      refine XS.iloadN X0.here hx rfl (hb hby d19_9) rfl ?_
      show Steps p.tables e below (s₁.setTop (mkF m 10 #[.val (.int p0), .val (.int p1)] [(.int p1)])) _
      exact kt
    ·
      have ev2 : v2 = p0 := by rw [hv2, if_neg hm1]
      rw [ev2] at kt
      refine (fun t (k : Steps p.tables e below (s₁.setTop (mkF m 2 #[.val (.int p0), .val (.int p1)] [(.int p1), (.int p0)])) t) => k) _ ?_
      refine XS.icmpNo X0.here hx rfl (hb hby d19_2) rfl (flt hm1).2.2.1 ?_
      show Steps p.tables e below (s₁.setTop (mkF m 5 #[.val (.int p0), .val (.int p1)] [])) _
      refine XS.iloadN X0.here hx rfl (hb hby d19_5) rfl ?_
      show Steps p.tables e below (s₁.setTop (mkF m 6 #[.val (.int p0), .val (.int p1)] [(.int p0)])) _
      refine XS.goto X0.here hx rfl (pc0 := 6) (pc' := 10) rfl (hb hby d19_6) (by decide) (by decide) ?_
      show Steps p.tables e below (s₁.setTop (mkF m 10 #[.val (.int p0), .val (.int p1)] [(.int p0)])) _
      exact kt
  have hv : v2 = if p1 < p0 then p1 else p0 := hv2
  obtain ⟨fs, hr, hrun, hended, hW, hsame⟩ := X0.leave (v := some (.int (if p1 < p0 then p1 else p0))) (fun h => by rw [Bd.returns] at h; cases h)
  refine ⟨_, _, pre0 _ ?_, hrun, hended, _, _, rfl, ?_, ⟨_, rfl⟩, hW, hsame.mono (by decide) (by decide)⟩
  ·
    show Steps p.tables e below (s₁.setTop (mkF m 0 #[.val (.int p0), .val (.int p1)] [])) _
    refine XS.iloadN X0.here hx rfl (hb hby d19_0) rfl ?_
    show Steps p.tables e below (s₁.setTop (mkF m 1 #[.val (.int p0), .val (.int p1)] [(.int p0)])) _
    refine XS.iloadN X0.here hx rfl (hb hby d19_1) rfl ?_
    show Steps p.tables e below (s₁.setTop (mkF m 2 #[.val (.int p0), .val (.int p1)] [(.int p1), (.int p0)])) _
    refine mg3 _ ?_
    show Steps p.tables e below (s₁.setTop (mkF m 10 #[.val (.int p0), .val (.int p1)] [(.int v2)])) _
    rw [← hv] at hr
    exact retI X0 hx Bd.returns (hb hby d19_10) hr
  ·
    show Q19 Z p0 p1 h0 n0 _ s₁.heap _
    rw [e0]
    exact ⟨rfl, N0, rfl⟩
theorem d16_0 : decode jdk_48_method_27_code 0 = .ok (.iload_n 0, 1) := by decide +kernel
theorem d16_1 : decode jdk_48_method_27_code 1 = .ok (.iload_n 1, 1) := by decide +kernel
theorem d16_2 : decode jdk_48_method_27_code 2 = .ok (.iload_n 2, 1) := by decide +kernel
theorem d16_3 : decode jdk_48_method_27_code 3 = .ok (.invokestatic 194, 3) := by decide +kernel
theorem d16_6 : decode jdk_48_method_27_code 6 = .ok (.iadd, 1) := by decide +kernel
theorem d16_7 : decode jdk_48_method_27_code 7 = .ok (.istore_n 3, 1) := by decide +kernel
theorem d16_8 : decode jdk_48_method_27_code 8 = .ok (.iconst 0, 1) := by decide +kernel
theorem d16_9 : decode jdk_48_method_27_code 9 = .ok (.iload_n 3, 1) := by decide +kernel
theorem d16_10 : decode jdk_48_method_27_code 10 = .ok (.if_icmp .ge 11, 3) := by decide +kernel
theorem d16_13 : decode jdk_48_method_27_code 13 = .ok (.iload_n 3, 1) := by decide +kernel
theorem d16_14 : decode jdk_48_method_27_code 14 = .ok (.ldc 200, 2) := by decide +kernel
theorem d16_16 : decode jdk_48_method_27_code 16 = .ok (.if_icmp .gt 5, 3) := by decide +kernel
theorem d16_19 : decode jdk_48_method_27_code 19 = .ok (.iload_n 3, 1) := by decide +kernel
theorem d16_20 : decode jdk_48_method_27_code 20 = .ok (.ireturn, 1) := by decide +kernel
theorem pn_16 : plainName "jdk/internal/util/ArraysSupport" = true := by first | (simp [plainName, overriddenIn]; done) | decide +kernel
theorem pd__II_I : parseMethodDescriptor "(II)I" = some ⟨[.int, .int], some .int⟩ := by decide +kernel
theorem ef_16 (m : MethodId) (p0 : Int32) (p1 : Int32) (p2 : Int32) : entryFrame m #[(.int p0), (.int p1), (.int p2)] 4 = (mkF m 0 #[.val (.int p0), .val (.int p1), .val (.int p2), .unset] []) := by first | (simp [entryFrame, mkF, argsToLocals, Value.category]; done) | rfl
def Q16 (Z : State) (p0 : Int32) (p1 : Int32) (p2 : Int32) (h0 : Heap) (n0 : Nat) (v : Option Value) (h : Heap) (L : List Loc) : Prop := v = some (.int (p0 + p2)) ∧ Fr n0 L ∧ h = h0
set_option maxRecDepth 65536 in
set_option maxHeartbeats 40000000 in
theorem rm16 (l : Launch) (Z : State) (a0 : Array Value) (hw : ∀ d ∈ tables_1, d.before a0 Z = true) (ws : List Jvm.Cond) (p0 : Int32) (p1 : Int32) (p2 : Int32) (h0 : Heap) (n0 : Nat) (Z0 : n0 ≤ h0.size) (hp : p1 < p2) (hp1 : (0 : Int32) < (p0 + p2)) (hp2 : ¬ (2147483639 : Int32) < (p0 + p2)) :
    MetFree l (⟨"jdk/internal/util/ArraysSupport", "newLength", "(III)I"⟩ : MethodName) (head1 (Jvm.Cond.code (⟨"jdk/internal/util/ArraysSupport", "newLength", "(III)I"⟩ : MethodName) jdk_48_method_27_code 4 (some .int) :: ws) ({ frames := 1, cells := 0, slots := 0, locals := 14 } : Room)) (fun a U => a = #[(.int p0), (.int p1), (.int p2)] ∧ Z.Warmed39 U.vm ∧ U.heap = h0) (fun _ _ _ _ _ => True) (fun _ U o U' => ∃ v L, o = .returned v ∧ Q16 Z p0 p1 p2 h0 n0 v U'.heap L ∧ FrameEnd U o U' L ({ frames := 1, cells := 0, slots := 0, locals := 14 } : Room).cells ({ frames := 1, cells := 0, slots := 0, locals := 14 } : Room).slots) := by
  refine MetFree.of_bodySF (plainFor_of_name pn_16) hisR ?_
  intro p e s m args below meth c s₁ Bd hml0 hP hK
  obtain ⟨rfl, hZ, hh⟩ := hP
  have hx := Bd.exec
  have hby := Bd.bytes
  have hml : c.maxLocals = 4 := hml0
  have hown : s.vm.findClass "jdk/internal/util/ArraysSupport" = some m.cls := findClass_of_methodNamed Bd.named
  have hnm := (name_of_methodNamed Bd.named Bd.method).1
  have X0 : Stand p l e ({ frames := 1, cells := 0, slots := 0, locals := 14 } : Room) s m #[(.int p0), (.int p1), (.int p2)] below meth c s₁ [] 0 0 := Stand.of_body Bd
  have e0 : s₁.heap = h0 := by rw [← hh, Bd.state]; rfl
  have N0 := Fr.nil n0
  have K0 := Keep.refl h0 ([] : List Addr)
  have pre0 : ∀ t, Steps p.tables e below (s₁.setTop (mkF m 0 #[.val (.int p0), .val (.int p1), .val (.int p2), .unset] [])) t → Steps p.tables e below (s₁.setTop (entryFrame m #[(.int p0), (.int p1), (.int p2)] 4)) t := fun t k => castTop (ef_16 m p0 p1 p2) k
  obtain ⟨_, _, ⟨T1, L1, k1, n1⟩, -, X1, ⟨Lc1, hQ1, l1, y1, z1⟩, st1⟩ := Jvm.LawKit.callS X0 hx (y := (⟨"java/lang/Math", "max", "(II)I"⟩ : MethodName)) hown (mvT hZ (hw _ (List.mem_of_getElem? (i := 94) rfl))) (mvT hZ (hw _ (List.mem_of_getElem? (i := 95) rfl))) (mvT hZ (hw _ (List.mem_of_getElem? (i := 96) rfl))) (mvT hZ (hw _ (List.mem_of_getElem? (i := 97) rfl))) (by decide) (backOf (W := 1) (rm17 l Z a0 hw [] p1 p2 h0 n0 (Nat.le_trans Z0 K0.1) hp) hZ (hw _ (List.mem_of_getElem? (i := 97) rfl)) (hw _ (List.mem_of_getElem? (i := 96) rfl)) (by decide) (by decide)) (g := (mkF m 3 #[.val (.int p0), .val (.int p1), .val (.int p2), .unset] [(.int p2), (.int p1), (.int p0)])) rfl (by rw [hml]; rfl) (argsL := [(.int p1), (.int p2)]) (rest := [(.int p0)]) (lenOf pd__II_I rfl) rfl (by show 2 * 0 + _ ≤ _; exact Nat.le_of_eq rfl) (hb hby d16_3) (fun _ _ => ⟨rfl, e0, (by decide : 0 + 0 ≤ _), (by decide : 0 + 0 ≤ _)⟩)
  dsimp only [Pt.U, Pt.locs, Pt.cells, Pt.slots] at X1 l1 y1 z1 st1 hQ1
  subst l1 y1 z1
  obtain ⟨rfl, N1q, hq1⟩ := hQ1
  have N1 := Fr.app N0 N1q
  have E1 : Ext h0 T1.heap := by rw [hq1]; exact ⟨Nat.le_refl _, fun _ _ q => q⟩
  have K1 := K0.ext E1
  have hk2 : (0 : Int32) < (p0 + p2) := hp1
  have hk3 : ¬ ((2147483639 : Int32) < (p0 + p2)) := hp2
  obtain ⟨fs, hr, hrun, hended, hW, hsame⟩ := X1.leave (v := some (.int (p0 + p2))) (fun h => by rw [Bd.returns] at h; cases h)
  refine ⟨_, _, pre0 _ ?_, hrun, hended, _, _, rfl, ?_, ⟨_, rfl⟩, hW, hsame.mono (by decide) (by decide)⟩
  ·
    show Steps p.tables e below (s₁.setTop (mkF m 0 #[.val (.int p0), .val (.int p1), .val (.int p2), .unset] [])) _
    refine XS.iloadN X0.here hx rfl (hb hby d16_0) rfl ?_
    show Steps p.tables e below (s₁.setTop (mkF m 1 #[.val (.int p0), .val (.int p1), .val (.int p2), .unset] [(.int p0)])) _
    refine XS.iloadN X0.here hx rfl (hb hby d16_1) rfl ?_
    show Steps p.tables e below (s₁.setTop (mkF m 2 #[.val (.int p0), .val (.int p1), .val (.int p2), .unset] [(.int p1), (.int p0)])) _
    refine XS.iloadN X0.here hx rfl (hb hby d16_2) rfl ?_
    show Steps p.tables e below (s₁.setTop (mkF m 3 #[.val (.int p0), .val (.int p1), .val (.int p2), .unset] [(.int p2), (.int p1), (.int p0)])) _
    refine st1 _ ?_
    show Steps p.tables e below (T1.setTop (mkF m 6 #[.val (.int p0), .val (.int p1), .val (.int p2), .unset] [(.int p2), (.int p0)])) _
    refine XS.iadd X1.here hx rfl (hb hby d16_6) rfl ?_
    show Steps p.tables e below (T1.setTop (mkF m 7 #[.val (.int p0), .val (.int p1), .val (.int p2), .unset] [(.int (p0 + p2))])) _
    refine XS.istoreN X1.here hx rfl (hb hby d16_7) rfl (l' := #[.val (.int p0), .val (.int p1), .val (.int p2), .val (.int (p0 + p2))]) rfl ?_
    show Steps p.tables e below (T1.setTop (mkF m 8 #[.val (.int p0), .val (.int p1), .val (.int p2), .val (.int (p0 + p2))] [])) _
    refine XS.iconst X1.here hx rfl (hb hby d16_8) ?_
    show Steps p.tables e below (T1.setTop (mkF m 9 #[.val (.int p0), .val (.int p1), .val (.int p2), .val (.int (p0 + p2))] [(.int (0 : Int32))])) _
    refine XS.iloadN X1.here hx rfl (hb hby d16_9) rfl ?_
    show Steps p.tables e below (T1.setTop (mkF m 10 #[.val (.int p0), .val (.int p1), .val (.int p2), .val (.int (p0 + p2))] [(.int (p0 + p2)), (.int (0 : Int32))])) _
    refine XS.icmpNo X1.here hx rfl (hb hby d16_10) rfl (tlt hk2).2.1 ?_
    show Steps p.tables e below (T1.setTop (mkF m 13 #[.val (.int p0), .val (.int p1), .val (.int p2), .val (.int (p0 + p2))] [])) _
    refine XS.iloadN X1.here hx rfl (hb hby d16_13) rfl ?_
    show Steps p.tables e below (T1.setTop (mkF m 14 #[.val (.int p0), .val (.int p1), .val (.int p2), .val (.int (p0 + p2))] [(.int (p0 + p2))])) _
    refine X1.ldcInt hx hown (mvT hZ (hw _ (List.mem_of_getElem? (i := 98) rfl))) (g := (mkF m 14 #[.val (.int p0), .val (.int p1), .val (.int p2), .val (.int (p0 + p2))] [(.int (p0 + p2))])) rfl (hb hby d16_14) _ ?_
    show Steps p.tables e below (T1.setTop (mkF m 16 #[.val (.int p0), .val (.int p1), .val (.int p2), .val (.int (p0 + p2))] [(.int (2147483639 : Int32)), (.int (p0 + p2))])) _
    refine XS.icmpNo X1.here hx rfl (hb hby d16_16) rfl (flt hk3).2.2.1 ?_
    show Steps p.tables e below (T1.setTop (mkF m 19 #[.val (.int p0), .val (.int p1), .val (.int p2), .val (.int (p0 + p2))] [])) _
    refine XS.iloadN X1.here hx rfl (hb hby d16_19) rfl ?_
    show Steps p.tables e below (T1.setTop (mkF m 20 #[.val (.int p0), .val (.int p1), .val (.int p2), .val (.int (p0 + p2))] [(.int (p0 + p2))])) _
    exact retI X1 hx Bd.returns (hb hby d16_20) hr
  ·
    show Q16 Z p0 p1 p2 h0 n0 _ T1.heap _
    exact ⟨rfl, N1, by rw [hq1]⟩
theorem d22_0 : decode jdk_42_method_147_code 0 = .ok (.aload_n 0, 1) := by decide +kernel
theorem d22_1 : decode jdk_42_method_147_code 1 = .ok (.invokevirtual 335, 3) := by decide +kernel
theorem d22_4 : decode jdk_42_method_147_code 4 = .ok (.iload_n 3, 1) := by decide +kernel
theorem d22_5 : decode jdk_42_method_147_code 5 = .ok (.if_icmp .ne 23, 3) := by decide +kernel
theorem d22_8 : decode jdk_42_method_147_code 8 = .ok (.aload_n 0, 1) := by decide +kernel
theorem d22_9 : decode jdk_42_method_147_code 9 = .ok (.getfield 9, 3) := by decide +kernel
theorem d22_12 : decode jdk_42_method_147_code 12 = .ok (.iconst 0, 1) := by decide +kernel
theorem d22_13 : decode jdk_42_method_147_code 13 = .ok (.aload_n 1, 1) := by decide +kernel
theorem d22_14 : decode jdk_42_method_147_code 14 = .ok (.iload_n 2, 1) := by decide +kernel
theorem d22_15 : decode jdk_42_method_147_code 15 = .ok (.iload_n 3, 1) := by decide +kernel
theorem d22_16 : decode jdk_42_method_147_code 16 = .ok (.ishl, 1) := by decide +kernel
theorem d22_17 : decode jdk_42_method_147_code 17 = .ok (.aload_n 0, 1) := by decide +kernel
theorem d22_18 : decode jdk_42_method_147_code 18 = .ok (.getfield 9, 3) := by decide +kernel
theorem d22_21 : decode jdk_42_method_147_code 21 = .ok (.arraylength, 1) := by decide +kernel
theorem d22_22 : decode jdk_42_method_147_code 22 = .ok (.invokestatic 212, 3) := by decide +kernel
theorem d22_25 : decode jdk_42_method_147_code 25 = .ok (.goto 18, 3) := by decide +kernel
theorem d22_43 : decode jdk_42_method_147_code 43 = .ok (.return_, 1) := by decide +kernel
theorem pn_22 : plainName "java/lang/String" = true := by first | (simp [plainName, overriddenIn]; done) | decide +kernel
theorem pd___B : parseMethodDescriptor "()B" = some ⟨[], some .byte⟩ := by decide +kernel
theorem ef_22 (m : MethodId) (a1 : Addr) (a2 : Addr) (p3 : Int32) (p4 : Int32) : entryFrame m #[(.ref a1), (.ref a2), (.int p3), (.int p4)] 4 = (mkF m 0 #[.val (.ref a1), .val (.ref a2), .val (.int p3), .val (.int p4)] []) := by first | (simp [entryFrame, mkF, argsToLocals, Value.category]; done) | rfl
def Q22 (Z : State) (a1 : Addr) (a2 : Addr) (p3 : Int32) (p4 : Int32) (u : Addr) (ku : ClassId) (ds : List Int32) (kd : ClassId) (vd : List Value) (oo : Nat) (G1 : Int32) (h0 : Heap) (n0 : Nat) (v : Option Value) (h : Heap) (L : List Loc) : Prop := v = none ∧ Fr n0 L ∧ Keep h0 h [a2] ∧ Arv Z h a2 kd .byte (Int32.ofNat vd.length) (vd.take oo ++ own_B ds ++ vd.drop (oo + ds.length)) (.int (0 : Int32))
set_option maxRecDepth 65536 in
set_option maxHeartbeats 40000000 in
theorem rm22 (l : Launch) (Z : State) (a0 : Array Value) (hw : ∀ d ∈ tables_1, d.before a0 Z = true) (ws : List Jvm.Cond) (a1 : Addr) (a2 : Addr) (p3 : Int32) (p4 : Int32) (u : Addr) (ku : ClassId) (ds : List Int32) (kd : ClassId) (vd : List Value) (oo : Nat) (G1 : Int32) (h0 : Heap) (n0 : Nat) (Z0 : n0 ≤ h0.size) (OLD0 : Old Z n0 h0) (SCS : Sta Z Z.heap "java/lang/String" "COMPACT_STRINGS" "Z" (.int G1)) (P5 : ¬ (G1 = (0 : Int32))) (g_a2 : n0 ≤ a2) (E_a1 : Exa Z h0 a1 "java/lang/String") (Fc_a1 : Fld Z h0 a1 "java/lang/String" "coder" "B" (.int (0 : Int32))) (Fv_a1 : Fld Z h0 a1 "java/lang/String" "value" "[B" (.ref u)) (Va_a1 : Arv Z h0 u ku .byte (Int32.ofNat ds.length) (own_B ds) (.int (0 : Int32))) (Vd : Arv Z h0 a2 kd .byte (Int32.ofNat vd.length) vd (.int (0 : Int32))) (hvl : vd.length ≤ 4000) (ho : oo + ds.length ≤ vd.length) (hp3 : p3 = Int32.ofNat oo) (hp4 : p4 = (0 : Int32)) :
    MetFree l (⟨"java/lang/String", "getBytes", "([BIB)V"⟩ : MethodName) (head1 (Jvm.Cond.code (⟨"java/lang/String", "getBytes", "([BIB)V"⟩ : MethodName) jdk_42_method_147_code 4 none :: ws) ({ frames := 1, cells := 0, slots := 0, locals := 18 } : Room)) (fun a U => a = #[(.ref a1), (.ref a2), (.int p3), (.int p4)] ∧ Z.Warmed39 U.vm ∧ U.heap = h0) (fun _ _ _ _ _ => True) (fun _ U o U' => ∃ v L, o = .returned v ∧ Q22 Z a1 a2 p3 p4 u ku ds kd vd oo G1 h0 n0 v U'.heap L ∧ FrameEnd U o U' L ({ frames := 1, cells := 0, slots := 0, locals := 18 } : Room).cells ({ frames := 1, cells := 0, slots := 0, locals := 18 } : Room).slots) := by
  refine MetFree.of_bodySF (plainFor_of_name pn_22) hisR ?_
  intro p e s m args below meth c s₁ Bd hml0 hP hK
  obtain ⟨rfl, hZ, hh⟩ := hP
  have hx := Bd.exec
  have hby := Bd.bytes
  have hml : c.maxLocals = 4 := hml0
  have hown : s.vm.findClass "java/lang/String" = some m.cls := findClass_of_methodNamed Bd.named
  have hnm := (name_of_methodNamed Bd.named Bd.method).1
  have X0 : Stand p l e ({ frames := 1, cells := 0, slots := 0, locals := 18 } : Room) s m #[(.ref a1), (.ref a2), (.int p3), (.int p4)] below meth c s₁ [] 0 0 := Stand.of_body Bd
  have e0 : s₁.heap = h0 := by rw [← hh, Bd.state]; rfl
  have N0 := Fr.nil n0
  have K0 := Keep.refl h0 ([a2] : List Addr)
  have pre0 : ∀ t, Steps p.tables e below (s₁.setTop (mkF m 0 #[.val (.ref a1), .val (.ref a2), .val (.int p3), .val (.int p4)] [])) t → Steps p.tables e below (s₁.setTop (entryFrame m #[(.ref a1), (.ref a2), (.int p3), (.int p4)] 4)) t := fun t k => castTop (ef_22 m a1 a2 p3 p4) k
  have OL2 : Old Z n0 h0 := OLD0.keep K0 (allS g_a2 all0)
  obtain ⟨cq1, kq1, q1a, q1b, q1c⟩ := isOf hZ e0 E_a1
  obtain ⟨_, _, ⟨T1, L1, k1, n1⟩, -, X1, ⟨Lc1, hQ1, l1, y1, z1⟩, st1⟩ := X0.virtualBack hx (y := (⟨"java/lang/String", "coder", "()B"⟩ : MethodName)) (z := (⟨"java/lang/String", "coder", "()B"⟩ : MethodName)) hown (mvT hZ (hw _ (List.mem_of_getElem? (i := 73) rfl))) (mvT hZ (hw _ (List.mem_of_getElem? (i := 74) rfl))) (notFace_of_selects (args := #[]) (mvT hZ (hw _ (List.mem_of_getElem? (i := 76) rfl)))) (mvT hZ (hw _ (List.mem_of_getElem? (i := 76) rfl))) (mvT hZ (hw _ (List.mem_of_getElem? (i := 75) rfl))) (by decide) (backOf (W := 0) (rm13 l Z a0 hw [] a1 G1 h0 n0 (Nat.le_trans Z0 K0.1) OL2 SCS P5 E_a1 Fc_a1) hZ (hw _ (List.mem_of_getElem? (i := 77) rfl)) (hw _ (List.mem_of_getElem? (i := 1) rfl)) (by decide) (by decide)) q1a q1c (g := (mkF m 1 #[.val (.ref a1), .val (.ref a2), .val (.int p3), .val (.int p4)] [(.ref a1)])) rfl (by rw [hml]; rfl) (Steps.refl _) (argsL := []) (rest := []) (lenOf pd___B rfl) rfl (by show 2 * 0 + _ ≤ _; exact Nat.le_of_eq rfl) (hb hby d22_1) (fun _ _ => ⟨rfl, e0, (by decide : 0 + 0 ≤ _), (by decide : 0 + 0 ≤ _)⟩)
  dsimp only [Pt.U, Pt.locs, Pt.cells, Pt.slots] at X1 l1 y1 z1 st1 hQ1
  subst l1 y1 z1
  obtain ⟨rfl, N1q, hq1⟩ := hQ1
  have N1 := Fr.app N0 N1q
  have E1 : Ext h0 T1.heap := by rw [hq1]; exact ⟨Nat.le_refl _, fun _ _ q => q⟩
  have K1 := K0.ext E1
  have hk3 : (0 : Int32) = p4 := hp4.symm
  have c4 := (Fv_a1.ext E1)
  obtain ⟨T5, X5, e5, st5⟩ := getF X1 hx hZ hown (host := "") (Or.inl (hw _ (List.mem_of_getElem? (i := 32) rfl))) Via.refl rfl c4 (g := (mkF m 9 #[.val (.ref a1), .val (.ref a2), .val (.int p3), .val (.int p4)] [(.ref a1)])) rfl rfl (hb hby d22_9)
  obtain ⟨T6, X6, e6, st6⟩ := getF X5 hx hZ hown (host := "") (Or.inl (hw _ (List.mem_of_getElem? (i := 32) rfl))) Via.refl e5 c4 (g := (mkF m 18 #[.val (.ref a1), .val (.ref a2), .val (.int p3), .val (.int p4)] [(.ref a1), (.int (p3 <<< (p4 &&& 31))), (.ref a2), (.int (0 : Int32)), (.ref u)])) rfl rfl (hb hby d22_18)
  have c7 := (Va_a1.ext E1)
  obtain ⟨clo8, Aro8, -, So8, No8, -, -⟩ := id c7
  have hdp := own_shl0 (p := p3) hp4
  have hon : (p3 <<< (p4 &&& 31)).toNatClampNeg = oo := by rw [hdp, hp3]; exact own_n32 (by omega)
  have hmn : (Int32.ofNat ds.length).toNatClampNeg = ds.length := own_n32 (by omega)
  have hzn : (0 : Int32).toNatClampNeg = 0 := rfl
  have hvn : (Int32.ofNat vd.length).toNatClampNeg = vd.length := own_n32 hvl
  have c10 := (Vd.ext E1)
  obtain ⟨T9, h9, L9, X9, e9, N9, kq9, va9, st9⟩ := cpA X6 hx hZ hown (hw _ (List.mem_of_getElem? (i := 127) rfl)) (hw _ (List.mem_of_getElem? (i := 110) rfl)) (hw _ (List.mem_of_getElem? (i := 108) rfl)) (hw _ (List.mem_of_getElem? (i := 109) rfl)) e6 c7 c10 (Or.inl ⟨rfl, rfl⟩) (by decide) (by rw [hdp, hp3]; exact own_nn (by omega)) (own_nn (by omega)) (by rw [hzn, hmn]; omega) (by rw [hon, hmn, hvn]; exact ho) (us := (own_B ds)) (own_us (by omega)) (by rw [hon, hmn]; exact ho) N1 g_a2 (g := (mkF m 22 #[.val (.ref a1), .val (.ref a2), .val (.int p3), .val (.int p4)] [(.int (Int32.ofNat ds.length)), (.int (p3 <<< (p4 &&& 31))), (.ref a2), (.int (0 : Int32)), (.ref u)])) rfl (by rw [hml]; rfl) (rest := []) rfl (hb hby d22_22) (by decide) (W := 0) (by show 2 * 0 + _ ≤ _; exact Nat.le_of_eq rfl) (by decide)
  have K9 := K1.trans kq9 (allS (Or.inl (List.mem_of_getElem? (i := 0) rfl)) all0)
  have vb9 : Arv Z h9 a2 kd .byte (Int32.ofNat vd.length) (vd.take oo ++ own_B ds ++ vd.drop (oo + ds.length)) (.int (0 : Int32)) := by
    have q := va9
    rw [hon, hmn] at q; exact q
  obtain ⟨fs, hr, hrun, hended, hW, hsame⟩ := X9.leave (v := none) (fun _ => rfl)
  refine ⟨_, _, pre0 _ ?_, hrun, hended, _, _, rfl, ?_, ⟨_, rfl⟩, hW, hsame.mono (by decide) (by decide)⟩
  ·
    show Steps p.tables e below (s₁.setTop (mkF m 0 #[.val (.ref a1), .val (.ref a2), .val (.int p3), .val (.int p4)] [])) _
    refine XS.aloadN X0.here hx rfl (hb hby d22_0) rfl rfl ?_
    show Steps p.tables e below (s₁.setTop (mkF m 1 #[.val (.ref a1), .val (.ref a2), .val (.int p3), .val (.int p4)] [(.ref a1)])) _
    refine st1.trans ?_
    show Steps p.tables e below (T1.setTop (mkF m 4 #[.val (.ref a1), .val (.ref a2), .val (.int p3), .val (.int p4)] [(.int (0 : Int32))])) _
    refine XS.iloadN X1.here hx rfl (hb hby d22_4) rfl ?_
    show Steps p.tables e below (T1.setTop (mkF m 5 #[.val (.ref a1), .val (.ref a2), .val (.int p3), .val (.int p4)] [(.int p4), (.int (0 : Int32))])) _
    refine XS.icmpNo X1.here hx rfl (hb hby d22_5) rfl (teq hk3).2 ?_
    show Steps p.tables e below (T1.setTop (mkF m 8 #[.val (.ref a1), .val (.ref a2), .val (.int p3), .val (.int p4)] [])) _
    refine XS.aloadN X1.here hx rfl (hb hby d22_8) rfl rfl ?_
    show Steps p.tables e below (T1.setTop (mkF m 9 #[.val (.ref a1), .val (.ref a2), .val (.int p3), .val (.int p4)] [(.ref a1)])) _
    refine st5 _ ?_
    show Steps p.tables e below (T5.setTop (mkF m 12 #[.val (.ref a1), .val (.ref a2), .val (.int p3), .val (.int p4)] [(.ref u)])) _
    refine XS.iconst X5.here hx rfl (hb hby d22_12) ?_
    show Steps p.tables e below (T5.setTop (mkF m 13 #[.val (.ref a1), .val (.ref a2), .val (.int p3), .val (.int p4)] [(.int (0 : Int32)), (.ref u)])) _
    refine XS.aloadN X5.here hx rfl (hb hby d22_13) rfl rfl ?_
    show Steps p.tables e below (T5.setTop (mkF m 14 #[.val (.ref a1), .val (.ref a2), .val (.int p3), .val (.int p4)] [(.ref a2), (.int (0 : Int32)), (.ref u)])) _
    refine XS.iloadN X5.here hx rfl (hb hby d22_14) rfl ?_
    show Steps p.tables e below (T5.setTop (mkF m 15 #[.val (.ref a1), .val (.ref a2), .val (.int p3), .val (.int p4)] [(.int p3), (.ref a2), (.int (0 : Int32)), (.ref u)])) _
    refine XS.iloadN X5.here hx rfl (hb hby d22_15) rfl ?_
    show Steps p.tables e below (T5.setTop (mkF m 16 #[.val (.ref a1), .val (.ref a2), .val (.int p3), .val (.int p4)] [(.int p4), (.int p3), (.ref a2), (.int (0 : Int32)), (.ref u)])) _
    refine XS.ishl X5.here hx rfl (hb hby d22_16) rfl ?_
    show Steps p.tables e below (T5.setTop (mkF m 17 #[.val (.ref a1), .val (.ref a2), .val (.int p3), .val (.int p4)] [(.int (p3 <<< (p4 &&& 31))), (.ref a2), (.int (0 : Int32)), (.ref u)])) _
    refine XS.aloadN X5.here hx rfl (hb hby d22_17) rfl rfl ?_
    show Steps p.tables e below (T5.setTop (mkF m 18 #[.val (.ref a1), .val (.ref a2), .val (.int p3), .val (.int p4)] [(.ref a1), (.int (p3 <<< (p4 &&& 31))), (.ref a2), (.int (0 : Int32)), (.ref u)])) _
    refine st6 _ ?_
    show Steps p.tables e below (T6.setTop (mkF m 21 #[.val (.ref a1), .val (.ref a2), .val (.int p3), .val (.int p4)] [(.ref u), (.int (p3 <<< (p4 &&& 31))), (.ref a2), (.int (0 : Int32)), (.ref u)])) _
    refine X6.arraylength hx (by rw [e6]; exact Aro8.1) (State.isArrayOf_alike hZ.alike Aro8.2.1) (g := (mkF m 21 #[.val (.ref a1), .val (.ref a2), .val (.int p3), .val (.int p4)] [(.ref u), (.int (p3 <<< (p4 &&& 31))), (.ref a2), (.int (0 : Int32)), (.ref u)])) rfl rfl (hb hby d22_21) _ ?_
    rw [len_of So8 No8]
    show Steps p.tables e below (T6.setTop (mkF m 22 #[.val (.ref a1), .val (.ref a2), .val (.int p3), .val (.int p4)] [(.int (Int32.ofNat ds.length)), (.int (p3 <<< (p4 &&& 31))), (.ref a2), (.int (0 : Int32)), (.ref u)])) _
    refine st9 _ ?_
    show Steps p.tables e below (T9.setTop (mkF m 25 #[.val (.ref a1), .val (.ref a2), .val (.int p3), .val (.int p4)] [])) _
    refine XS.goto X9.here hx rfl (pc0 := 25) (pc' := 43) rfl (hb hby d22_25) (by decide) (by decide) ?_
    show Steps p.tables e below (T9.setTop (mkF m 43 #[.val (.ref a1), .val (.ref a2), .val (.int p3), .val (.int p4)] [])) _
    exact X9.returnOut hx Bd.returns (hb hby d22_43) hr
  ·
    show Q22 Z a1 a2 p3 p4 u ku ds kd vd oo G1 h0 n0 _ T9.heap _
    rw [e9]
    exact ⟨rfl, N9, K9, vb9⟩
theorem d21_0 : decode jdk_68_method_71_code 0 = .ok (.getstatic 18, 3) := by decide +kernel
theorem d21_3 : decode jdk_68_method_71_code 3 = .ok (.ifCond .eq 18, 3) := by decide +kernel
theorem d21_6 : decode jdk_68_method_71_code 6 = .ok (.aload_n 0, 1) := by decide +kernel
theorem d21_7 : decode jdk_68_method_71_code 7 = .ok (.getfield 22, 3) := by decide +kernel
theorem d21_10 : decode jdk_68_method_71_code 10 = .ok (.aload_n 1, 1) := by decide +kernel
theorem d21_11 : decode jdk_68_method_71_code 11 = .ok (.invokevirtual 40, 3) := by decide +kernel
theorem d21_14 : decode jdk_68_method_71_code 14 = .ok (.if_icmp .eq 7, 3) := by decide +kernel
theorem d21_21 : decode jdk_68_method_71_code 21 = .ok (.return_, 1) := by decide +kernel
theorem pn_21 : plainName "java/lang/AbstractStringBuilder" = true := by first | (simp [plainName, overriddenIn]; done) | decide +kernel
theorem ef_21 (m : MethodId) (a1 : Addr) (a2 : Addr) : entryFrame m #[(.ref a1), (.ref a2)] 2 = (mkF m 0 #[.val (.ref a1), .val (.ref a2)] []) := by first | (simp [entryFrame, mkF, argsToLocals, Value.category]; done) | rfl
def Q21 (Z : State) (a1 : Addr) (a2 : Addr) (u : Addr) (ku : ClassId) (ds : List Int32) (G1 : Int32) (h0 : Heap) (n0 : Nat) (v : Option Value) (h : Heap) (L : List Loc) : Prop := v = none ∧ Fr n0 L ∧ h = h0
set_option maxRecDepth 65536 in
set_option maxHeartbeats 40000000 in
theorem rm21 (l : Launch) (Z : State) (a0 : Array Value) (hw : ∀ d ∈ tables_1, d.before a0 Z = true) (ws : List Jvm.Cond) (a1 : Addr) (a2 : Addr) (u : Addr) (ku : ClassId) (ds : List Int32) (G1 : Int32) (h0 : Heap) (n0 : Nat) (Z0 : n0 ≤ h0.size) (OLD0 : Old Z n0 h0) (SCS : Sta Z Z.heap "java/lang/String" "COMPACT_STRINGS" "Z" (.int G1)) (P5 : ¬ (G1 = (0 : Int32))) (E_a1 : Exa Z h0 a1 "java/lang/StringBuilder") (F_c : Fld Z h0 a1 "java/lang/AbstractStringBuilder" "coder" "B" (.int (0 : Int32))) (E_a2 : Exa Z h0 a2 "java/lang/String") (Fc_a2 : Fld Z h0 a2 "java/lang/String" "coder" "B" (.int (0 : Int32))) (Fv_a2 : Fld Z h0 a2 "java/lang/String" "value" "[B" (.ref u)) (Va_a2 : Arv Z h0 u ku .byte (Int32.ofNat ds.length) (own_B ds) (.int (0 : Int32))) :
    MetFree l (⟨"java/lang/AbstractStringBuilder", "inflateIfNeededFor", "(Ljava/lang/String;)V"⟩ : MethodName) (head1 (Jvm.Cond.code (⟨"java/lang/AbstractStringBuilder", "inflateIfNeededFor", "(Ljava/lang/String;)V"⟩ : MethodName) jdk_68_method_71_code 2 none :: ws) ({ frames := 1, cells := 0, slots := 0, locals := 13 } : Room)) (fun a U => a = #[(.ref a1), (.ref a2)] ∧ Z.Warmed39 U.vm ∧ U.heap = h0) (fun _ _ _ _ _ => True) (fun _ U o U' => ∃ v L, o = .returned v ∧ Q21 Z a1 a2 u ku ds G1 h0 n0 v U'.heap L ∧ FrameEnd U o U' L ({ frames := 1, cells := 0, slots := 0, locals := 13 } : Room).cells ({ frames := 1, cells := 0, slots := 0, locals := 13 } : Room).slots) := by
  refine MetFree.of_bodySF (plainFor_of_name pn_21) hisR ?_
  intro p e s m args below meth c s₁ Bd hml0 hP hK
  obtain ⟨rfl, hZ, hh⟩ := hP
  have hx := Bd.exec
  have hby := Bd.bytes
  have hml : c.maxLocals = 2 := hml0
  have hown : s.vm.findClass "java/lang/AbstractStringBuilder" = some m.cls := findClass_of_methodNamed Bd.named
  have hnm := (name_of_methodNamed Bd.named Bd.method).1
  have X0 : Stand p l e ({ frames := 1, cells := 0, slots := 0, locals := 13 } : Room) s m #[(.ref a1), (.ref a2)] below meth c s₁ [] 0 0 := Stand.of_body Bd
  have e0 : s₁.heap = h0 := by rw [← hh, Bd.state]; rfl
  have N0 := Fr.nil n0
  have K0 := Keep.refl h0 ([] : List Addr)
  have pre0 : ∀ t, Steps p.tables e below (s₁.setTop (mkF m 0 #[.val (.ref a1), .val (.ref a2)] [])) t → Steps p.tables e below (s₁.setTop (entryFrame m #[(.ref a1), (.ref a2)] 2)) t := fun t k => castTop (ef_21 m a1 a2) k
  have q1 := SCS.ext (OLD0.keep K0 all0).2
  obtain ⟨T2, X2, e2, st2⟩ := getS2 X0 hx hZ hown (host := "") (Or.inl (hw _ (List.mem_of_getElem? (i := 52) rfl))) Via.refl e0 q1 (g := (mkF m 0 #[.val (.ref a1), .val (.ref a2)] [])) rfl (hb hby d21_0)
  have hk3 : ¬ (G1 = (0 : Int32)) := P5
  obtain ⟨T4, X4, e4, st4⟩ := getF X2 hx hZ hown (host := "") (Or.inl (hw _ (List.mem_of_getElem? (i := 55) rfl))) Via.refl e2 F_c (g := (mkF m 7 #[.val (.ref a1), .val (.ref a2)] [(.ref a1)])) rfl rfl (hb hby d21_7)
  have OL6 : Old Z n0 h0 := OLD0.keep K0 all0
  obtain ⟨cq5, kq5, q5a, q5b, q5c⟩ := isOf hZ e4 E_a2
  obtain ⟨_, _, ⟨T5, L5, k5, n5⟩, -, X5, ⟨Lc5, hQ5, l5, y5, z5⟩, st5⟩ := X4.virtualBack hx (y := (⟨"java/lang/String", "coder", "()B"⟩ : MethodName)) (z := (⟨"java/lang/String", "coder", "()B"⟩ : MethodName)) hown (mvT hZ (hw _ (List.mem_of_getElem? (i := 121) rfl))) (mvT hZ (hw _ (List.mem_of_getElem? (i := 74) rfl))) (notFace_of_selects (args := #[]) (mvT hZ (hw _ (List.mem_of_getElem? (i := 76) rfl)))) (mvT hZ (hw _ (List.mem_of_getElem? (i := 76) rfl))) (mvT hZ (hw _ (List.mem_of_getElem? (i := 75) rfl))) (by decide) (backOf (W := 1) (rm13 l Z a0 hw [] a2 G1 h0 n0 (Nat.le_trans Z0 K0.1) OL6 SCS P5 E_a2 Fc_a2) hZ (hw _ (List.mem_of_getElem? (i := 77) rfl)) (hw _ (List.mem_of_getElem? (i := 1) rfl)) (by decide) (by decide)) q5a q5c (g := (mkF m 11 #[.val (.ref a1), .val (.ref a2)] [(.ref a2), (.int (0 : Int32))])) rfl (by rw [hml]; rfl) (Steps.refl _) (argsL := []) (rest := [(.int (0 : Int32))]) (lenOf pd___B rfl) rfl (by show 2 * 0 + _ ≤ _; exact Nat.le_of_eq rfl) (hb hby d21_11) (fun _ _ => ⟨rfl, e4, (by decide : 0 + 0 ≤ _), (by decide : 0 + 0 ≤ _)⟩)
  dsimp only [Pt.U, Pt.locs, Pt.cells, Pt.slots] at X5 l5 y5 z5 st5 hQ5
  subst l5 y5 z5
  obtain ⟨rfl, N5q, hq5⟩ := hQ5
  have N5 := Fr.app N0 N5q
  have E5 : Ext h0 T5.heap := by rw [hq5]; exact ⟨Nat.le_refl _, fun _ _ q => q⟩
  have K5 := K0.ext E5
  obtain ⟨fs, hr, hrun, hended, hW, hsame⟩ := X5.leave (v := none) (fun _ => rfl)
  refine ⟨_, _, pre0 _ ?_, hrun, hended, _, _, rfl, ?_, ⟨_, rfl⟩, hW, hsame.mono (by decide) (by decide)⟩
  ·
    show Steps p.tables e below (s₁.setTop (mkF m 0 #[.val (.ref a1), .val (.ref a2)] [])) _
    refine st2 _ ?_
    show Steps p.tables e below (T2.setTop (mkF m 3 #[.val (.ref a1), .val (.ref a2)] [(.int G1)])) _
    refine XS.ifNo X2.here hx rfl (hb hby d21_3) rfl ((if0 _ _).trans (feq hk3).1) ?_
    show Steps p.tables e below (T2.setTop (mkF m 6 #[.val (.ref a1), .val (.ref a2)] [])) _
    refine XS.aloadN X2.here hx rfl (hb hby d21_6) rfl rfl ?_
    show Steps p.tables e below (T2.setTop (mkF m 7 #[.val (.ref a1), .val (.ref a2)] [(.ref a1)])) _
    refine st4 _ ?_
    show Steps p.tables e below (T4.setTop (mkF m 10 #[.val (.ref a1), .val (.ref a2)] [(.int (0 : Int32))])) _
    refine XS.aloadN X4.here hx rfl (hb hby d21_10) rfl rfl ?_
    show Steps p.tables e below (T4.setTop (mkF m 11 #[.val (.ref a1), .val (.ref a2)] [(.ref a2), (.int (0 : Int32))])) _
    refine st5.trans ?_
    show Steps p.tables e below (T5.setTop (mkF m 14 #[.val (.ref a1), .val (.ref a2)] [(.int (0 : Int32)), (.int (0 : Int32))])) _
    refine XS.icmpYes X5.here hx rfl (pc0 := 14) (pc' := 21) rfl (hb hby d21_14) rfl (teq (by decide : (0 : Int32) = (0 : Int32))).1 (by decide) (by decide) ?_
    show Steps p.tables e below (T5.setTop (mkF m 21 #[.val (.ref a1), .val (.ref a2)] [])) _
    exact X5.returnOut hx Bd.returns (hb hby d21_21) hr
  ·
    show Q21 Z a1 a2 u ku ds G1 h0 n0 _ T5.heap _
    exact ⟨rfl, N5, hq5⟩
theorem d20_0 : decode jdk_68_method_73_code 0 = .ok (.aload_n 0, 1) := by decide +kernel
theorem d20_1 : decode jdk_68_method_73_code 1 = .ok (.aload_n 2, 1) := by decide +kernel
theorem d20_2 : decode jdk_68_method_73_code 2 = .ok (.invokevirtual 397, 3) := by decide +kernel
theorem d20_5 : decode jdk_68_method_73_code 5 = .ok (.aload_n 2, 1) := by decide +kernel
theorem d20_6 : decode jdk_68_method_73_code 6 = .ok (.aload_n 0, 1) := by decide +kernel
theorem d20_7 : decode jdk_68_method_73_code 7 = .ok (.getfield 15, 3) := by decide +kernel
theorem d20_10 : decode jdk_68_method_73_code 10 = .ok (.iload_n 1, 1) := by decide +kernel
theorem d20_11 : decode jdk_68_method_73_code 11 = .ok (.aload_n 0, 1) := by decide +kernel
theorem d20_12 : decode jdk_68_method_73_code 12 = .ok (.getfield 22, 3) := by decide +kernel
theorem d20_15 : decode jdk_68_method_73_code 15 = .ok (.invokevirtual 399, 3) := by decide +kernel
theorem d20_18 : decode jdk_68_method_73_code 18 = .ok (.return_, 1) := by decide +kernel
theorem pn_20 : plainName "java/lang/AbstractStringBuilder" = true := by first | (simp [plainName, overriddenIn]; done) | decide +kernel
theorem pd__Ljava_lang_String__V : parseMethodDescriptor "(Ljava/lang/String;)V" = some ⟨[(.object "java/lang/String")], none⟩ := by decide +kernel
theorem pd___BIB_V : parseMethodDescriptor "([BIB)V" = some ⟨[(.array .byte), .int, .byte], none⟩ := by decide +kernel
theorem ef_20 (m : MethodId) (a1 : Addr) (p2 : Int32) (a3 : Addr) : entryFrame m #[(.ref a1), (.int p2), (.ref a3)] 3 = (mkF m 0 #[.val (.ref a1), .val (.int p2), .val (.ref a3)] []) := by first | (simp [entryFrame, mkF, argsToLocals, Value.category]; done) | rfl
def Q20 (Z : State) (a1 : Addr) (p2 : Int32) (a3 : Addr) (t : Addr) (u : Addr) (ku : ClassId) (ds : List Int32) (kd : ClassId) (vd : List Value) (oo : Nat) (G1 : Int32) (h0 : Heap) (n0 : Nat) (v : Option Value) (h : Heap) (L : List Loc) : Prop := v = none ∧ Fr n0 L ∧ Keep h0 h [t] ∧ Arv Z h t kd .byte (Int32.ofNat vd.length) (vd.take oo ++ own_B ds ++ vd.drop (oo + ds.length)) (.int (0 : Int32))
set_option maxRecDepth 65536 in
set_option maxHeartbeats 40000000 in
theorem rm20 (l : Launch) (Z : State) (a0 : Array Value) (hw : ∀ d ∈ tables_1, d.before a0 Z = true) (ws : List Jvm.Cond) (a1 : Addr) (p2 : Int32) (a3 : Addr) (t : Addr) (u : Addr) (ku : ClassId) (ds : List Int32) (kd : ClassId) (vd : List Value) (oo : Nat) (G1 : Int32) (h0 : Heap) (n0 : Nat) (Z0 : n0 ≤ h0.size) (OLD0 : Old Z n0 h0) (SCS : Sta Z Z.heap "java/lang/String" "COMPACT_STRINGS" "Z" (.int G1)) (P5 : ¬ (G1 = (0 : Int32))) (g_t : n0 ≤ t) (E_a1 : Exa Z h0 a1 "java/lang/StringBuilder") (Gv_a1 : Fld Z h0 a1 "java/lang/AbstractStringBuilder" "value" "[B" (.ref t)) (Gc_a1 : Fld Z h0 a1 "java/lang/AbstractStringBuilder" "coder" "B" (.int (0 : Int32))) (E_a3 : Exa Z h0 a3 "java/lang/String") (Fc_a3 : Fld Z h0 a3 "java/lang/String" "coder" "B" (.int (0 : Int32))) (Fv_a3 : Fld Z h0 a3 "java/lang/String" "value" "[B" (.ref u)) (Va_a3 : Arv Z h0 u ku .byte (Int32.ofNat ds.length) (own_B ds) (.int (0 : Int32))) (Vd : Arv Z h0 t kd .byte (Int32.ofNat vd.length) vd (.int (0 : Int32))) (hvl : vd.length ≤ 4000) (ho : oo + ds.length ≤ vd.length) (hp2 : p2 = Int32.ofNat oo) :
    MetFree l (⟨"java/lang/AbstractStringBuilder", "putStringAt", "(ILjava/lang/String;)V"⟩ : MethodName) (head1 (Jvm.Cond.code (⟨"java/lang/AbstractStringBuilder", "putStringAt", "(ILjava/lang/String;)V"⟩ : MethodName) jdk_68_method_73_code 3 none :: ws) ({ frames := 2, cells := 0, slots := 0, locals := 33 } : Room)) (fun a U => a = #[(.ref a1), (.int p2), (.ref a3)] ∧ Z.Warmed39 U.vm ∧ U.heap = h0) (fun _ _ _ _ _ => True) (fun _ U o U' => ∃ v L, o = .returned v ∧ Q20 Z a1 p2 a3 t u ku ds kd vd oo G1 h0 n0 v U'.heap L ∧ FrameEnd U o U' L ({ frames := 2, cells := 0, slots := 0, locals := 33 } : Room).cells ({ frames := 2, cells := 0, slots := 0, locals := 33 } : Room).slots) := by
  refine MetFree.of_bodySF (plainFor_of_name pn_20) hisR ?_
  intro p e s m args below meth c s₁ Bd hml0 hP hK
  obtain ⟨rfl, hZ, hh⟩ := hP
  have hx := Bd.exec
  have hby := Bd.bytes
  have hml : c.maxLocals = 3 := hml0
  have hown : s.vm.findClass "java/lang/AbstractStringBuilder" = some m.cls := findClass_of_methodNamed Bd.named
  have hnm := (name_of_methodNamed Bd.named Bd.method).1
  have X0 : Stand p l e ({ frames := 2, cells := 0, slots := 0, locals := 33 } : Room) s m #[(.ref a1), (.int p2), (.ref a3)] below meth c s₁ [] 0 0 := Stand.of_body Bd
  have e0 : s₁.heap = h0 := by rw [← hh, Bd.state]; rfl
  have N0 := Fr.nil n0
  have K0 := Keep.refl h0 ([t] : List Addr)
  have pre0 : ∀ t, Steps p.tables e below (s₁.setTop (mkF m 0 #[.val (.ref a1), .val (.int p2), .val (.ref a3)] [])) t → Steps p.tables e below (s₁.setTop (entryFrame m #[(.ref a1), (.int p2), (.ref a3)] 3)) t := fun t k => castTop (ef_20 m a1 p2 a3) k
  have OL2 : Old Z n0 h0 := OLD0.keep K0 (allS g_t all0)
  obtain ⟨cq1, kq1, q1a, q1b, q1c⟩ := isOf hZ e0 E_a1
  obtain ⟨_, _, ⟨T1, L1, k1, n1⟩, -, X1, ⟨Lc1, hQ1, l1, y1, z1⟩, st1⟩ := X0.virtualBack hx (y := (⟨"java/lang/AbstractStringBuilder", "inflateIfNeededFor", "(Ljava/lang/String;)V"⟩ : MethodName)) (z := (⟨"java/lang/AbstractStringBuilder", "inflateIfNeededFor", "(Ljava/lang/String;)V"⟩ : MethodName)) hown (mvT hZ (hw _ (List.mem_of_getElem? (i := 116) rfl))) (mvT hZ (own_decl (hw _ (List.mem_of_getElem? (i := 117) rfl)) (hw _ (List.mem_of_getElem? (i := 120) rfl)))) (notFace_of_selects (args := #[]) (mvT hZ (hw _ (List.mem_of_getElem? (i := 119) rfl)))) (mvT hZ (hw _ (List.mem_of_getElem? (i := 119) rfl))) (mvT hZ (hw _ (List.mem_of_getElem? (i := 117) rfl))) (by decide) (backOf (W := 0) (rm21 l Z a0 hw [] a1 a3 u ku ds G1 h0 n0 (Nat.le_trans Z0 K0.1) OL2 SCS P5 E_a1 Gc_a1 E_a3 Fc_a3 Fv_a3 Va_a3) hZ (hw _ (List.mem_of_getElem? (i := 120) rfl)) (hw _ (List.mem_of_getElem? (i := 49) rfl)) (by decide) (by decide)) q1a q1c (g := (mkF m 2 #[.val (.ref a1), .val (.int p2), .val (.ref a3)] [(.ref a3), (.ref a1)])) rfl (by rw [hml]; rfl) (Steps.refl _) (argsL := [(.ref a3)]) (rest := []) (lenOf pd__Ljava_lang_String__V rfl) rfl (by show 2 * 0 + _ ≤ _; exact Nat.le_of_eq rfl) (hb hby d20_2) (fun _ _ => ⟨rfl, e0, (by decide : 0 + 0 ≤ _), (by decide : 0 + 0 ≤ _)⟩)
  dsimp only [Pt.U, Pt.locs, Pt.cells, Pt.slots] at X1 l1 y1 z1 st1 hQ1
  subst l1 y1 z1
  obtain ⟨rfl, N1q, hq1⟩ := hQ1
  have N1 := Fr.app N0 N1q
  have E1 : Ext h0 T1.heap := by rw [hq1]; exact ⟨Nat.le_refl _, fun _ _ q => q⟩
  have K1 := K0.ext E1
  have c3 := (Gv_a1.ext E1)
  obtain ⟨T4, X4, e4, st4⟩ := getF X1 hx hZ hown (host := "") (Or.inl (hw _ (List.mem_of_getElem? (i := 53) rfl))) Via.refl rfl c3 (g := (mkF m 7 #[.val (.ref a1), .val (.int p2), .val (.ref a3)] [(.ref a1), (.ref a3)])) rfl rfl (hb hby d20_7)
  have c5 := (Gc_a1.ext E1)
  obtain ⟨T6, X6, e6, st6⟩ := getF X4 hx hZ hown (host := "") (Or.inl (hw _ (List.mem_of_getElem? (i := 55) rfl))) Via.refl e4 c5 (g := (mkF m 12 #[.val (.ref a1), .val (.int p2), .val (.ref a3)] [(.ref a1), (.int p2), (.ref t), (.ref a3)])) rfl rfl (hb hby d20_12)
  have OL8 : Old Z n0 T1.heap := OLD0.keep K1 (allS g_t all0)
  have c9 := (E_a3.ext E1)
  have c10 := (Fc_a3.ext E1)
  have c11 := (Fv_a3.ext E1)
  have c12 := (Va_a3.ext E1)
  have c13 := (Vd.ext E1)
  obtain ⟨cq7, kq7, q7a, q7b, q7c⟩ := isOf hZ e6 c9
  obtain ⟨_, _, ⟨T7, L7, k7, n7⟩, -, X7, ⟨Lc7, hQ7, l7, y7, z7⟩, st7⟩ := X6.virtualBack hx (y := (⟨"java/lang/String", "getBytes", "([BIB)V"⟩ : MethodName)) (z := (⟨"java/lang/String", "getBytes", "([BIB)V"⟩ : MethodName)) hown (mvT hZ (hw _ (List.mem_of_getElem? (i := 122) rfl))) (mvT hZ (hw _ (List.mem_of_getElem? (i := 123) rfl))) (notFace_of_selects (args := #[]) (mvT hZ (hw _ (List.mem_of_getElem? (i := 125) rfl)))) (mvT hZ (hw _ (List.mem_of_getElem? (i := 125) rfl))) (mvT hZ (hw _ (List.mem_of_getElem? (i := 124) rfl))) (by decide) (backOf (W := 0) (rm22 l Z a0 hw [] a3 t p2 (0 : Int32) u ku ds kd vd oo G1 T1.heap n0 (Nat.le_trans Z0 K1.1) OL8 SCS P5 g_t c9 c10 c11 c12 c13 hvl ho hp2 rfl) hZ (hw _ (List.mem_of_getElem? (i := 126) rfl)) (hw _ (List.mem_of_getElem? (i := 1) rfl)) (by decide) (by decide)) q7a q7c (g := (mkF m 15 #[.val (.ref a1), .val (.int p2), .val (.ref a3)] [(.int (0 : Int32)), (.int p2), (.ref t), (.ref a3)])) rfl (by rw [hml]; rfl) (Steps.refl _) (argsL := [(.ref t), (.int p2), (.int (0 : Int32))]) (rest := []) (lenOf pd___BIB_V rfl) rfl (by show 2 * 0 + _ ≤ _; exact Nat.le_of_eq rfl) (hb hby d20_15) (fun _ _ => ⟨rfl, e6, (by decide : 0 + 0 ≤ _), (by decide : 0 + 0 ≤ _)⟩)
  dsimp only [Pt.U, Pt.locs, Pt.cells, Pt.slots] at X7 l7 y7 z7 st7 hQ7
  subst l7 y7 z7
  obtain ⟨rfl, N7q, kq7, vt7⟩ := hQ7
  have N7 := Fr.app N1 N7q
  have K7 := K1.trans kq7 (allS (Or.inl (List.mem_of_getElem? (i := 0) rfl)) all0)
  obtain ⟨fs, hr, hrun, hended, hW, hsame⟩ := X7.leave (v := none) (fun _ => rfl)
  refine ⟨_, _, pre0 _ ?_, hrun, hended, _, _, rfl, ?_, ⟨_, rfl⟩, hW, hsame.mono (by decide) (by decide)⟩
  ·
    show Steps p.tables e below (s₁.setTop (mkF m 0 #[.val (.ref a1), .val (.int p2), .val (.ref a3)] [])) _
    refine XS.aloadN X0.here hx rfl (hb hby d20_0) rfl rfl ?_
    show Steps p.tables e below (s₁.setTop (mkF m 1 #[.val (.ref a1), .val (.int p2), .val (.ref a3)] [(.ref a1)])) _
    refine XS.aloadN X0.here hx rfl (hb hby d20_1) rfl rfl ?_
    show Steps p.tables e below (s₁.setTop (mkF m 2 #[.val (.ref a1), .val (.int p2), .val (.ref a3)] [(.ref a3), (.ref a1)])) _
    refine st1.trans ?_
    show Steps p.tables e below (T1.setTop (mkF m 5 #[.val (.ref a1), .val (.int p2), .val (.ref a3)] [])) _
    refine XS.aloadN X1.here hx rfl (hb hby d20_5) rfl rfl ?_
    show Steps p.tables e below (T1.setTop (mkF m 6 #[.val (.ref a1), .val (.int p2), .val (.ref a3)] [(.ref a3)])) _
    refine XS.aloadN X1.here hx rfl (hb hby d20_6) rfl rfl ?_
    show Steps p.tables e below (T1.setTop (mkF m 7 #[.val (.ref a1), .val (.int p2), .val (.ref a3)] [(.ref a1), (.ref a3)])) _
    refine st4 _ ?_
    show Steps p.tables e below (T4.setTop (mkF m 10 #[.val (.ref a1), .val (.int p2), .val (.ref a3)] [(.ref t), (.ref a3)])) _
    refine XS.iloadN X4.here hx rfl (hb hby d20_10) rfl ?_
    show Steps p.tables e below (T4.setTop (mkF m 11 #[.val (.ref a1), .val (.int p2), .val (.ref a3)] [(.int p2), (.ref t), (.ref a3)])) _
    refine XS.aloadN X4.here hx rfl (hb hby d20_11) rfl rfl ?_
    show Steps p.tables e below (T4.setTop (mkF m 12 #[.val (.ref a1), .val (.int p2), .val (.ref a3)] [(.ref a1), (.int p2), (.ref t), (.ref a3)])) _
    refine st6 _ ?_
    show Steps p.tables e below (T6.setTop (mkF m 15 #[.val (.ref a1), .val (.int p2), .val (.ref a3)] [(.int (0 : Int32)), (.int p2), (.ref t), (.ref a3)])) _
    refine st7.trans ?_
    show Steps p.tables e below (T7.setTop (mkF m 18 #[.val (.ref a1), .val (.int p2), .val (.ref a3)] [])) _
    exact X7.returnOut hx Bd.returns (hb hby d20_18) hr
  ·
    show Q20 Z a1 p2 a3 t u ku ds kd vd oo G1 h0 n0 _ T7.heap _
    exact ⟨rfl, N7, K7, vt7⟩
theorem d14_0 : decode jdk_68_method_9_code 0 = .ok (.aload_n 0, 1) := by decide +kernel
theorem d14_1 : decode jdk_68_method_9_code 1 = .ok (.getfield 15, 3) := by decide +kernel
theorem d14_4 : decode jdk_68_method_9_code 4 = .ok (.arraylength, 1) := by decide +kernel
theorem d14_5 : decode jdk_68_method_9_code 5 = .ok (.aload_n 0, 1) := by decide +kernel
theorem d14_6 : decode jdk_68_method_9_code 6 = .ok (.getfield 22, 3) := by decide +kernel
theorem d14_9 : decode jdk_68_method_9_code 9 = .ok (.ishr, 1) := by decide +kernel
theorem d14_10 : decode jdk_68_method_9_code 10 = .ok (.istore_n 2, 1) := by decide +kernel
theorem d14_11 : decode jdk_68_method_9_code 11 = .ok (.iload_n 1, 1) := by decide +kernel
theorem d14_12 : decode jdk_68_method_9_code 12 = .ok (.iload_n 2, 1) := by decide +kernel
theorem d14_13 : decode jdk_68_method_9_code 13 = .ok (.isub, 1) := by decide +kernel
theorem d14_14 : decode jdk_68_method_9_code 14 = .ok (.ifCond .le 24, 3) := by decide +kernel
theorem d14_38 : decode jdk_68_method_9_code 38 = .ok (.return_, 1) := by decide +kernel
theorem pn_14 : plainName "java/lang/AbstractStringBuilder" = true := by first | (simp [plainName, overriddenIn]; done) | decide +kernel
theorem ef_14 (m : MethodId) (a1 : Addr) (p2 : Int32) : entryFrame m #[(.ref a1), (.int p2)] 3 = (mkF m 0 #[.val (.ref a1), .val (.int p2), .unset] []) := by first | (simp [entryFrame, mkF, argsToLocals, Value.category]; done) | rfl
def Q14 (Z : State) (a1 : Addr) (p2 : Int32) (t : Addr) (kd : ClassId) (N : Int32) (vd : List Value) (h0 : Heap) (n0 : Nat) (v : Option Value) (h : Heap) (L : List Loc) : Prop := v = none ∧ Fr n0 L ∧ h = h0
set_option maxRecDepth 65536 in
set_option maxHeartbeats 40000000 in
theorem rm14 (l : Launch) (Z : State) (a0 : Array Value) (hw : ∀ d ∈ tables_1, d.before a0 Z = true) (ws : List Jvm.Cond) (a1 : Addr) (p2 : Int32) (t : Addr) (kd : ClassId) (N : Int32) (vd : List Value) (h0 : Heap) (n0 : Nat) (Z0 : n0 ≤ h0.size) (E_a1 : Exa Z h0 a1 "java/lang/StringBuilder") (Gv_a1 : Fld Z h0 a1 "java/lang/AbstractStringBuilder" "value" "[B" (.ref t)) (Gc_a1 : Fld Z h0 a1 "java/lang/AbstractStringBuilder" "coder" "B" (.int (0 : Int32))) (Vd : Arv Z h0 t kd .byte N vd (.int (0 : Int32))) (hle : ¬ (0 : Int32) < (p2 - N)) :
    MetFree l (⟨"java/lang/AbstractStringBuilder", "ensureCapacityInternal", "(I)V"⟩ : MethodName) (head1 (Jvm.Cond.code (⟨"java/lang/AbstractStringBuilder", "ensureCapacityInternal", "(I)V"⟩ : MethodName) jdk_68_method_9_code 3 none :: ws) ({ frames := 0, cells := 0, slots := 0, locals := 0 } : Room)) (fun a U => a = #[(.ref a1), (.int p2)] ∧ Z.Warmed39 U.vm ∧ U.heap = h0) (fun _ _ _ _ _ => True) (fun _ U o U' => ∃ v L, o = .returned v ∧ Q14 Z a1 p2 t kd N vd h0 n0 v U'.heap L ∧ FrameEnd U o U' L ({ frames := 0, cells := 0, slots := 0, locals := 0 } : Room).cells ({ frames := 0, cells := 0, slots := 0, locals := 0 } : Room).slots) := by
  refine MetFree.of_bodySF (plainFor_of_name pn_14) hisR ?_
  intro p e s m args below meth c s₁ Bd hml0 hP hK
  obtain ⟨rfl, hZ, hh⟩ := hP
  have hx := Bd.exec
  have hby := Bd.bytes
  have hml : c.maxLocals = 3 := hml0
  have hown : s.vm.findClass "java/lang/AbstractStringBuilder" = some m.cls := findClass_of_methodNamed Bd.named
  have hnm := (name_of_methodNamed Bd.named Bd.method).1
  have X0 : Stand p l e ({ frames := 0, cells := 0, slots := 0, locals := 0 } : Room) s m #[(.ref a1), (.int p2)] below meth c s₁ [] 0 0 := Stand.of_body Bd
  have e0 : s₁.heap = h0 := by rw [← hh, Bd.state]; rfl
  have N0 := Fr.nil n0
  have K0 := Keep.refl h0 ([] : List Addr)
  have pre0 : ∀ t, Steps p.tables e below (s₁.setTop (mkF m 0 #[.val (.ref a1), .val (.int p2), .unset] [])) t → Steps p.tables e below (s₁.setTop (entryFrame m #[(.ref a1), (.int p2)] 3)) t := fun t k => castTop (ef_14 m a1 p2) k
  obtain ⟨T1, X1, e1, st1⟩ := getF X0 hx hZ hown (host := "") (Or.inl (hw _ (List.mem_of_getElem? (i := 53) rfl))) Via.refl e0 Gv_a1 (g := (mkF m 1 #[.val (.ref a1), .val (.int p2), .unset] [(.ref a1)])) rfl rfl (hb hby d14_1)
  obtain ⟨clo2, Aro2, -, So2, No2, -, -⟩ := id Vd
  obtain ⟨T3, X3, e3, st3⟩ := getF X1 hx hZ hown (host := "") (Or.inl (hw _ (List.mem_of_getElem? (i := 55) rfl))) Via.refl e1 Gc_a1 (g := (mkF m 6 #[.val (.ref a1), .val (.int p2), .unset] [(.ref a1), (.int N)])) rfl rfl (hb hby d14_6)
  have hk4 : ¬ ((0 : Int32) < (p2 - (N >>> ((0 : Int32) &&& 31)))) := (by rw [own_shr0]; exact hle)
  obtain ⟨fs, hr, hrun, hended, hW, hsame⟩ := X3.leave (v := none) (fun _ => rfl)
  refine ⟨_, _, pre0 _ ?_, hrun, hended, _, _, rfl, ?_, ⟨_, rfl⟩, hW, hsame.mono (by decide) (by decide)⟩
  ·
    show Steps p.tables e below (s₁.setTop (mkF m 0 #[.val (.ref a1), .val (.int p2), .unset] [])) _
    refine XS.aloadN X0.here hx rfl (hb hby d14_0) rfl rfl ?_
    show Steps p.tables e below (s₁.setTop (mkF m 1 #[.val (.ref a1), .val (.int p2), .unset] [(.ref a1)])) _
    refine st1 _ ?_
    show Steps p.tables e below (T1.setTop (mkF m 4 #[.val (.ref a1), .val (.int p2), .unset] [(.ref t)])) _
    refine X1.arraylength hx (by rw [e1]; exact Aro2.1) (State.isArrayOf_alike hZ.alike Aro2.2.1) (g := (mkF m 4 #[.val (.ref a1), .val (.int p2), .unset] [(.ref t)])) rfl rfl (hb hby d14_4) _ ?_
    rw [len_of So2 No2]
    show Steps p.tables e below (T1.setTop (mkF m 5 #[.val (.ref a1), .val (.int p2), .unset] [(.int N)])) _
    refine XS.aloadN X1.here hx rfl (hb hby d14_5) rfl rfl ?_
    show Steps p.tables e below (T1.setTop (mkF m 6 #[.val (.ref a1), .val (.int p2), .unset] [(.ref a1), (.int N)])) _
    refine st3 _ ?_
    show Steps p.tables e below (T3.setTop (mkF m 9 #[.val (.ref a1), .val (.int p2), .unset] [(.int (0 : Int32)), (.int N)])) _
    refine XS.ishr X3.here hx rfl (hb hby d14_9) rfl ?_
    show Steps p.tables e below (T3.setTop (mkF m 10 #[.val (.ref a1), .val (.int p2), .unset] [(.int (N >>> ((0 : Int32) &&& 31)))])) _
    refine XS.istoreN X3.here hx rfl (hb hby d14_10) rfl (l' := #[.val (.ref a1), .val (.int p2), .val (.int (N >>> ((0 : Int32) &&& 31)))]) rfl ?_
    show Steps p.tables e below (T3.setTop (mkF m 11 #[.val (.ref a1), .val (.int p2), .val (.int (N >>> ((0 : Int32) &&& 31)))] [])) _
    refine XS.iloadN X3.here hx rfl (hb hby d14_11) rfl ?_
    show Steps p.tables e below (T3.setTop (mkF m 12 #[.val (.ref a1), .val (.int p2), .val (.int (N >>> ((0 : Int32) &&& 31)))] [(.int p2)])) _
    refine XS.iloadN X3.here hx rfl (hb hby d14_12) rfl ?_
    show Steps p.tables e below (T3.setTop (mkF m 13 #[.val (.ref a1), .val (.int p2), .val (.int (N >>> ((0 : Int32) &&& 31)))] [(.int (N >>> ((0 : Int32) &&& 31))), (.int p2)])) _
    refine XS.isub X3.here hx rfl (hb hby d14_13) rfl ?_
    show Steps p.tables e below (T3.setTop (mkF m 14 #[.val (.ref a1), .val (.int p2), .val (.int (N >>> ((0 : Int32) &&& 31)))] [(.int (p2 - (N >>> ((0 : Int32) &&& 31))))])) _
    refine XS.ifYes X3.here hx rfl (pc0 := 14) (pc' := 38) rfl (hb hby d14_14) rfl ((if0 _ _).trans (flt hk4).2.2.2) (by decide) (by decide) ?_
    show Steps p.tables e below (T3.setTop (mkF m 38 #[.val (.ref a1), .val (.int p2), .val (.int (N >>> ((0 : Int32) &&& 31)))] [])) _
    exact X3.returnOut hx Bd.returns (hb hby d14_38) hr
  ·
    show Q14 Z a1 p2 t kd N vd h0 n0 _ T3.heap _
    rw [e3]
    exact ⟨rfl, N0, rfl⟩
theorem d15_0 : decode jdk_68_method_10_code 0 = .ok (.aload_n 0, 1) := by decide +kernel
theorem d15_1 : decode jdk_68_method_10_code 1 = .ok (.getfield 15, 3) := by decide +kernel
theorem d15_4 : decode jdk_68_method_10_code 4 = .ok (.arraylength, 1) := by decide +kernel
theorem d15_5 : decode jdk_68_method_10_code 5 = .ok (.istore_n 2, 1) := by decide +kernel
theorem d15_6 : decode jdk_68_method_10_code 6 = .ok (.iload_n 1, 1) := by decide +kernel
theorem d15_7 : decode jdk_68_method_10_code 7 = .ok (.aload_n 0, 1) := by decide +kernel
theorem d15_8 : decode jdk_68_method_10_code 8 = .ok (.getfield 22, 3) := by decide +kernel
theorem d15_11 : decode jdk_68_method_10_code 11 = .ok (.ishl, 1) := by decide +kernel
theorem d15_12 : decode jdk_68_method_10_code 12 = .ok (.istore_n 3, 1) := by decide +kernel
theorem d15_13 : decode jdk_68_method_10_code 13 = .ok (.iload_n 3, 1) := by decide +kernel
theorem d15_14 : decode jdk_68_method_10_code 14 = .ok (.iload_n 2, 1) := by decide +kernel
theorem d15_15 : decode jdk_68_method_10_code 15 = .ok (.isub, 1) := by decide +kernel
theorem d15_16 : decode jdk_68_method_10_code 16 = .ok (.istore 4, 2) := by decide +kernel
theorem d15_18 : decode jdk_68_method_10_code 18 = .ok (.iload_n 2, 1) := by decide +kernel
theorem d15_19 : decode jdk_68_method_10_code 19 = .ok (.iload 4, 2) := by decide +kernel
theorem d15_21 : decode jdk_68_method_10_code 21 = .ok (.iload_n 2, 1) := by decide +kernel
theorem d15_22 : decode jdk_68_method_10_code 22 = .ok (.iconst 2, 1) := by decide +kernel
theorem d15_23 : decode jdk_68_method_10_code 23 = .ok (.aload_n 0, 1) := by decide +kernel
theorem d15_24 : decode jdk_68_method_10_code 24 = .ok (.getfield 22, 3) := by decide +kernel
theorem d15_27 : decode jdk_68_method_10_code 27 = .ok (.ishl, 1) := by decide +kernel
theorem d15_28 : decode jdk_68_method_10_code 28 = .ok (.iadd, 1) := by decide +kernel
theorem d15_29 : decode jdk_68_method_10_code 29 = .ok (.invokestatic 114, 3) := by decide +kernel
theorem d15_32 : decode jdk_68_method_10_code 32 = .ok (.istore 5, 2) := by decide +kernel
theorem d15_34 : decode jdk_68_method_10_code 34 = .ok (.iload 5, 2) := by decide +kernel
theorem d15_36 : decode jdk_68_method_10_code 36 = .ok (.ldc 39, 2) := by decide +kernel
theorem d15_38 : decode jdk_68_method_10_code 38 = .ok (.if_icmp .ne 13, 3) := by decide +kernel
theorem d15_51 : decode jdk_68_method_10_code 51 = .ok (.iload 5, 2) := by decide +kernel
theorem d15_53 : decode jdk_68_method_10_code 53 = .ok (.aload_n 0, 1) := by decide +kernel
theorem d15_54 : decode jdk_68_method_10_code 54 = .ok (.getfield 22, 3) := by decide +kernel
theorem d15_57 : decode jdk_68_method_10_code 57 = .ok (.ishr, 1) := by decide +kernel
theorem d15_58 : decode jdk_68_method_10_code 58 = .ok (.ireturn, 1) := by decide +kernel
theorem pn_15 : plainName "java/lang/AbstractStringBuilder" = true := by first | (simp [plainName, overriddenIn]; done) | decide +kernel
theorem pd__III_I : parseMethodDescriptor "(III)I" = some ⟨[.int, .int, .int], some .int⟩ := by decide +kernel
theorem ef_15 (m : MethodId) (a1 : Addr) (p2 : Int32) : entryFrame m #[(.ref a1), (.int p2)] 6 = (mkF m 0 #[.val (.ref a1), .val (.int p2), .unset, .unset, .unset, .unset] []) := by first | (simp [entryFrame, mkF, argsToLocals, Value.category]; done) | rfl
def Q15 (Z : State) (a1 : Addr) (p2 : Int32) (t : Addr) (kd : ClassId) (N : Int32) (vd : List Value) (h0 : Heap) (n0 : Nat) (v : Option Value) (h : Heap) (L : List Loc) : Prop := v = some (.int (34 : Int32)) ∧ Fr n0 L ∧ h = h0
set_option maxRecDepth 65536 in
set_option maxHeartbeats 40000000 in
theorem rm15 (l : Launch) (Z : State) (a0 : Array Value) (hw : ∀ d ∈ tables_1, d.before a0 Z = true) (ws : List Jvm.Cond) (a1 : Addr) (p2 : Int32) (t : Addr) (kd : ClassId) (N : Int32) (vd : List Value) (h0 : Heap) (n0 : Nat) (Z0 : n0 ≤ h0.size) (E_a1 : Exa Z h0 a1 "java/lang/StringBuilder") (Gv_a1 : Fld Z h0 a1 "java/lang/AbstractStringBuilder" "value" "[B" (.ref t)) (Gc_a1 : Fld Z h0 a1 "java/lang/AbstractStringBuilder" "coder" "B" (.int (0 : Int32))) (Vd : Arv Z h0 t kd .byte N vd (.int (0 : Int32))) (hp : p2 = (17 : Int32) ∧ N = (16 : Int32)) :
    MetFree l (⟨"java/lang/AbstractStringBuilder", "newCapacity", "(I)I"⟩ : MethodName) (head1 (Jvm.Cond.code (⟨"java/lang/AbstractStringBuilder", "newCapacity", "(I)I"⟩ : MethodName) jdk_68_method_10_code 6 (some .int) :: ws) ({ frames := 2, cells := 0, slots := 0, locals := 29 } : Room)) (fun a U => a = #[(.ref a1), (.int p2)] ∧ Z.Warmed39 U.vm ∧ U.heap = h0) (fun _ _ _ _ _ => True) (fun _ U o U' => ∃ v L, o = .returned v ∧ Q15 Z a1 p2 t kd N vd h0 n0 v U'.heap L ∧ FrameEnd U o U' L ({ frames := 2, cells := 0, slots := 0, locals := 29 } : Room).cells ({ frames := 2, cells := 0, slots := 0, locals := 29 } : Room).slots) := by
  refine MetFree.of_bodySF (plainFor_of_name pn_15) hisR ?_
  intro p e s m args below meth c s₁ Bd hml0 hP hK
  obtain ⟨rfl, hZ, hh⟩ := hP
  have hx := Bd.exec
  have hby := Bd.bytes
  have hml : c.maxLocals = 6 := hml0
  have hown : s.vm.findClass "java/lang/AbstractStringBuilder" = some m.cls := findClass_of_methodNamed Bd.named
  have hnm := (name_of_methodNamed Bd.named Bd.method).1
  have X0 : Stand p l e ({ frames := 2, cells := 0, slots := 0, locals := 29 } : Room) s m #[(.ref a1), (.int p2)] below meth c s₁ [] 0 0 := Stand.of_body Bd
  have e0 : s₁.heap = h0 := by rw [← hh, Bd.state]; rfl
  have N0 := Fr.nil n0
  have K0 := Keep.refl h0 ([] : List Addr)
  have pre0 : ∀ t, Steps p.tables e below (s₁.setTop (mkF m 0 #[.val (.ref a1), .val (.int p2), .unset, .unset, .unset, .unset] [])) t → Steps p.tables e below (s₁.setTop (entryFrame m #[(.ref a1), (.int p2)] 6)) t := fun t k => castTop (ef_15 m a1 p2) k
  obtain ⟨T1, X1, e1, st1⟩ := getF X0 hx hZ hown (host := "") (Or.inl (hw _ (List.mem_of_getElem? (i := 53) rfl))) Via.refl e0 Gv_a1 (g := (mkF m 1 #[.val (.ref a1), .val (.int p2), .unset, .unset, .unset, .unset] [(.ref a1)])) rfl rfl (hb hby d15_1)
  obtain ⟨clo2, Aro2, -, So2, No2, -, -⟩ := id Vd
  obtain ⟨T3, X3, e3, st3⟩ := getF X1 hx hZ hown (host := "") (Or.inl (hw _ (List.mem_of_getElem? (i := 55) rfl))) Via.refl e1 Gc_a1 (g := (mkF m 8 #[.val (.ref a1), .val (.int p2), .val (.int N), .unset, .unset, .unset] [(.ref a1), (.int p2)])) rfl rfl (hb hby d15_8)
  obtain ⟨T4, X4, e4, st4⟩ := getF X3 hx hZ hown (host := "") (Or.inl (hw _ (List.mem_of_getElem? (i := 55) rfl))) Via.refl e3 Gc_a1 (g := (mkF m 24 #[.val (.ref a1), .val (.int p2), .val (.int N), .val (.int (p2 <<< ((0 : Int32) &&& 31))), .val (.int ((p2 <<< ((0 : Int32) &&& 31)) - N)), .unset] [(.ref a1), (.int (2 : Int32)), (.int N), (.int ((p2 <<< ((0 : Int32) &&& 31)) - N)), (.int N)])) rfl rfl (hb hby d15_24)
  obtain ⟨_, _, ⟨T5, L5, k5, n5⟩, -, X5, ⟨Lc5, hQ5, l5, y5, z5⟩, st5⟩ := Jvm.LawKit.callS X4 hx (y := (⟨"jdk/internal/util/ArraysSupport", "newLength", "(III)I"⟩ : MethodName)) hown (mvT hZ (hw _ (List.mem_of_getElem? (i := 90) rfl))) (mvT hZ (hw _ (List.mem_of_getElem? (i := 91) rfl))) (mvT hZ (hw _ (List.mem_of_getElem? (i := 92) rfl))) (mvT hZ (hw _ (List.mem_of_getElem? (i := 93) rfl))) (by decide) (backOf (W := 0) (rm16 l Z a0 hw [] N ((p2 <<< ((0 : Int32) &&& 31)) - N) (N + ((2 : Int32) <<< ((0 : Int32) &&& 31))) h0 n0 (Nat.le_trans Z0 K0.1) (by rw [hp.1, hp.2]; decide) (by rw [hp.2]; decide) (by rw [hp.2]; decide)) hZ (hw _ (List.mem_of_getElem? (i := 93) rfl)) (hw _ (List.mem_of_getElem? (i := 92) rfl)) (by decide) (by decide)) (g := (mkF m 29 #[.val (.ref a1), .val (.int p2), .val (.int N), .val (.int (p2 <<< ((0 : Int32) &&& 31))), .val (.int ((p2 <<< ((0 : Int32) &&& 31)) - N)), .unset] [(.int (N + ((2 : Int32) <<< ((0 : Int32) &&& 31)))), (.int ((p2 <<< ((0 : Int32) &&& 31)) - N)), (.int N)])) rfl (by rw [hml]; rfl) (argsL := [(.int N), (.int ((p2 <<< ((0 : Int32) &&& 31)) - N)), (.int (N + ((2 : Int32) <<< ((0 : Int32) &&& 31))))]) (rest := []) (lenOf pd__III_I rfl) rfl (by show 2 * 0 + _ ≤ _; exact Nat.le_of_eq rfl) (hb hby d15_29) (fun _ _ => ⟨rfl, e4, (by decide : 0 + 0 ≤ _), (by decide : 0 + 0 ≤ _)⟩)
  dsimp only [Pt.U, Pt.locs, Pt.cells, Pt.slots] at X5 l5 y5 z5 st5 hQ5
  subst l5 y5 z5
  obtain ⟨rfl, N5q, hq5⟩ := hQ5
  have N5 := Fr.app N0 N5q
  have E5 : Ext h0 T5.heap := by rw [hq5]; exact ⟨Nat.le_refl _, fun _ _ q => q⟩
  have K5 := K0.ext E5
  have hk6 : ¬ ((N + (N + ((2 : Int32) <<< ((0 : Int32) &&& 31)))) = (2147483647 : Int32)) := (by rw [hp.2]; decide)
  have c7 := (Gc_a1.ext E5)
  obtain ⟨T8, X8, e8, st8⟩ := getF X5 hx hZ hown (host := "") (Or.inl (hw _ (List.mem_of_getElem? (i := 55) rfl))) Via.refl rfl c7 (g := (mkF m 54 #[.val (.ref a1), .val (.int p2), .val (.int N), .val (.int (p2 <<< ((0 : Int32) &&& 31))), .val (.int ((p2 <<< ((0 : Int32) &&& 31)) - N)), .val (.int (N + (N + ((2 : Int32) <<< ((0 : Int32) &&& 31)))))] [(.ref a1), (.int (N + (N + ((2 : Int32) <<< ((0 : Int32) &&& 31)))))])) rfl rfl (hb hby d15_54)
  have hv : (34 : Int32) = ((N + (N + ((2 : Int32) <<< ((0 : Int32) &&& 31)))) >>> ((0 : Int32) &&& 31)) := by rw [hp.2]; decide
  obtain ⟨fs, hr, hrun, hended, hW, hsame⟩ := X8.leave (v := some (.int (34 : Int32))) (fun h => by rw [Bd.returns] at h; cases h)
  refine ⟨_, _, pre0 _ ?_, hrun, hended, _, _, rfl, ?_, ⟨_, rfl⟩, hW, hsame.mono (by decide) (by decide)⟩
  ·
    show Steps p.tables e below (s₁.setTop (mkF m 0 #[.val (.ref a1), .val (.int p2), .unset, .unset, .unset, .unset] [])) _
    refine XS.aloadN X0.here hx rfl (hb hby d15_0) rfl rfl ?_
    show Steps p.tables e below (s₁.setTop (mkF m 1 #[.val (.ref a1), .val (.int p2), .unset, .unset, .unset, .unset] [(.ref a1)])) _
    refine st1 _ ?_
    show Steps p.tables e below (T1.setTop (mkF m 4 #[.val (.ref a1), .val (.int p2), .unset, .unset, .unset, .unset] [(.ref t)])) _
    refine X1.arraylength hx (by rw [e1]; exact Aro2.1) (State.isArrayOf_alike hZ.alike Aro2.2.1) (g := (mkF m 4 #[.val (.ref a1), .val (.int p2), .unset, .unset, .unset, .unset] [(.ref t)])) rfl rfl (hb hby d15_4) _ ?_
    rw [len_of So2 No2]
    show Steps p.tables e below (T1.setTop (mkF m 5 #[.val (.ref a1), .val (.int p2), .unset, .unset, .unset, .unset] [(.int N)])) _
    refine XS.istoreN X1.here hx rfl (hb hby d15_5) rfl (l' := #[.val (.ref a1), .val (.int p2), .val (.int N), .unset, .unset, .unset]) rfl ?_
    show Steps p.tables e below (T1.setTop (mkF m 6 #[.val (.ref a1), .val (.int p2), .val (.int N), .unset, .unset, .unset] [])) _
    refine XS.iloadN X1.here hx rfl (hb hby d15_6) rfl ?_
    show Steps p.tables e below (T1.setTop (mkF m 7 #[.val (.ref a1), .val (.int p2), .val (.int N), .unset, .unset, .unset] [(.int p2)])) _
    refine XS.aloadN X1.here hx rfl (hb hby d15_7) rfl rfl ?_
    show Steps p.tables e below (T1.setTop (mkF m 8 #[.val (.ref a1), .val (.int p2), .val (.int N), .unset, .unset, .unset] [(.ref a1), (.int p2)])) _
    refine st3 _ ?_
    show Steps p.tables e below (T3.setTop (mkF m 11 #[.val (.ref a1), .val (.int p2), .val (.int N), .unset, .unset, .unset] [(.int (0 : Int32)), (.int p2)])) _
    refine XS.ishl X3.here hx rfl (hb hby d15_11) rfl ?_
    show Steps p.tables e below (T3.setTop (mkF m 12 #[.val (.ref a1), .val (.int p2), .val (.int N), .unset, .unset, .unset] [(.int (p2 <<< ((0 : Int32) &&& 31)))])) _
    refine XS.istoreN X3.here hx rfl (hb hby d15_12) rfl (l' := #[.val (.ref a1), .val (.int p2), .val (.int N), .val (.int (p2 <<< ((0 : Int32) &&& 31))), .unset, .unset]) rfl ?_
    show Steps p.tables e below (T3.setTop (mkF m 13 #[.val (.ref a1), .val (.int p2), .val (.int N), .val (.int (p2 <<< ((0 : Int32) &&& 31))), .unset, .unset] [])) _
    refine XS.iloadN X3.here hx rfl (hb hby d15_13) rfl ?_
    show Steps p.tables e below (T3.setTop (mkF m 14 #[.val (.ref a1), .val (.int p2), .val (.int N), .val (.int (p2 <<< ((0 : Int32) &&& 31))), .unset, .unset] [(.int (p2 <<< ((0 : Int32) &&& 31)))])) _
    refine XS.iloadN X3.here hx rfl (hb hby d15_14) rfl ?_
    show Steps p.tables e below (T3.setTop (mkF m 15 #[.val (.ref a1), .val (.int p2), .val (.int N), .val (.int (p2 <<< ((0 : Int32) &&& 31))), .unset, .unset] [(.int N), (.int (p2 <<< ((0 : Int32) &&& 31)))])) _
    refine XS.isub X3.here hx rfl (hb hby d15_15) rfl ?_
    show Steps p.tables e below (T3.setTop (mkF m 16 #[.val (.ref a1), .val (.int p2), .val (.int N), .val (.int (p2 <<< ((0 : Int32) &&& 31))), .unset, .unset] [(.int ((p2 <<< ((0 : Int32) &&& 31)) - N))])) _
    refine XS.istore X3.here hx rfl (hb hby d15_16) rfl (l' := #[.val (.ref a1), .val (.int p2), .val (.int N), .val (.int (p2 <<< ((0 : Int32) &&& 31))), .val (.int ((p2 <<< ((0 : Int32) &&& 31)) - N)), .unset]) rfl ?_
    show Steps p.tables e below (T3.setTop (mkF m 18 #[.val (.ref a1), .val (.int p2), .val (.int N), .val (.int (p2 <<< ((0 : Int32) &&& 31))), .val (.int ((p2 <<< ((0 : Int32) &&& 31)) - N)), .unset] [])) _
    refine XS.iloadN X3.here hx rfl (hb hby d15_18) rfl ?_
    show Steps p.tables e below (T3.setTop (mkF m 19 #[.val (.ref a1), .val (.int p2), .val (.int N), .val (.int (p2 <<< ((0 : Int32) &&& 31))), .val (.int ((p2 <<< ((0 : Int32) &&& 31)) - N)), .unset] [(.int N)])) _
    refine XS.iload X3.here hx rfl (hb hby d15_19) rfl ?_
    show Steps p.tables e below (T3.setTop (mkF m 21 #[.val (.ref a1), .val (.int p2), .val (.int N), .val (.int (p2 <<< ((0 : Int32) &&& 31))), .val (.int ((p2 <<< ((0 : Int32) &&& 31)) - N)), .unset] [(.int ((p2 <<< ((0 : Int32) &&& 31)) - N)), (.int N)])) _
    refine XS.iloadN X3.here hx rfl (hb hby d15_21) rfl ?_
    show Steps p.tables e below (T3.setTop (mkF m 22 #[.val (.ref a1), .val (.int p2), .val (.int N), .val (.int (p2 <<< ((0 : Int32) &&& 31))), .val (.int ((p2 <<< ((0 : Int32) &&& 31)) - N)), .unset] [(.int N), (.int ((p2 <<< ((0 : Int32) &&& 31)) - N)), (.int N)])) _
    refine XS.iconst X3.here hx rfl (hb hby d15_22) ?_
    show Steps p.tables e below (T3.setTop (mkF m 23 #[.val (.ref a1), .val (.int p2), .val (.int N), .val (.int (p2 <<< ((0 : Int32) &&& 31))), .val (.int ((p2 <<< ((0 : Int32) &&& 31)) - N)), .unset] [(.int (2 : Int32)), (.int N), (.int ((p2 <<< ((0 : Int32) &&& 31)) - N)), (.int N)])) _
    refine XS.aloadN X3.here hx rfl (hb hby d15_23) rfl rfl ?_
    show Steps p.tables e below (T3.setTop (mkF m 24 #[.val (.ref a1), .val (.int p2), .val (.int N), .val (.int (p2 <<< ((0 : Int32) &&& 31))), .val (.int ((p2 <<< ((0 : Int32) &&& 31)) - N)), .unset] [(.ref a1), (.int (2 : Int32)), (.int N), (.int ((p2 <<< ((0 : Int32) &&& 31)) - N)), (.int N)])) _
    refine st4 _ ?_
    show Steps p.tables e below (T4.setTop (mkF m 27 #[.val (.ref a1), .val (.int p2), .val (.int N), .val (.int (p2 <<< ((0 : Int32) &&& 31))), .val (.int ((p2 <<< ((0 : Int32) &&& 31)) - N)), .unset] [(.int (0 : Int32)), (.int (2 : Int32)), (.int N), (.int ((p2 <<< ((0 : Int32) &&& 31)) - N)), (.int N)])) _
    refine XS.ishl X4.here hx rfl (hb hby d15_27) rfl ?_
    show Steps p.tables e below (T4.setTop (mkF m 28 #[.val (.ref a1), .val (.int p2), .val (.int N), .val (.int (p2 <<< ((0 : Int32) &&& 31))), .val (.int ((p2 <<< ((0 : Int32) &&& 31)) - N)), .unset] [(.int ((2 : Int32) <<< ((0 : Int32) &&& 31))), (.int N), (.int ((p2 <<< ((0 : Int32) &&& 31)) - N)), (.int N)])) _
    refine XS.iadd X4.here hx rfl (hb hby d15_28) rfl ?_
    show Steps p.tables e below (T4.setTop (mkF m 29 #[.val (.ref a1), .val (.int p2), .val (.int N), .val (.int (p2 <<< ((0 : Int32) &&& 31))), .val (.int ((p2 <<< ((0 : Int32) &&& 31)) - N)), .unset] [(.int (N + ((2 : Int32) <<< ((0 : Int32) &&& 31)))), (.int ((p2 <<< ((0 : Int32) &&& 31)) - N)), (.int N)])) _
    refine st5 _ ?_
    show Steps p.tables e below (T5.setTop (mkF m 32 #[.val (.ref a1), .val (.int p2), .val (.int N), .val (.int (p2 <<< ((0 : Int32) &&& 31))), .val (.int ((p2 <<< ((0 : Int32) &&& 31)) - N)), .unset] [(.int (N + (N + ((2 : Int32) <<< ((0 : Int32) &&& 31)))))])) _
    refine XS.istore X5.here hx rfl (hb hby d15_32) rfl (l' := #[.val (.ref a1), .val (.int p2), .val (.int N), .val (.int (p2 <<< ((0 : Int32) &&& 31))), .val (.int ((p2 <<< ((0 : Int32) &&& 31)) - N)), .val (.int (N + (N + ((2 : Int32) <<< ((0 : Int32) &&& 31)))))]) rfl ?_
    show Steps p.tables e below (T5.setTop (mkF m 34 #[.val (.ref a1), .val (.int p2), .val (.int N), .val (.int (p2 <<< ((0 : Int32) &&& 31))), .val (.int ((p2 <<< ((0 : Int32) &&& 31)) - N)), .val (.int (N + (N + ((2 : Int32) <<< ((0 : Int32) &&& 31)))))] [])) _
    refine XS.iload X5.here hx rfl (hb hby d15_34) rfl ?_
    show Steps p.tables e below (T5.setTop (mkF m 36 #[.val (.ref a1), .val (.int p2), .val (.int N), .val (.int (p2 <<< ((0 : Int32) &&& 31))), .val (.int ((p2 <<< ((0 : Int32) &&& 31)) - N)), .val (.int (N + (N + ((2 : Int32) <<< ((0 : Int32) &&& 31)))))] [(.int (N + (N + ((2 : Int32) <<< ((0 : Int32) &&& 31)))))])) _
    refine X5.ldcInt hx hown (mvT hZ (hw _ (List.mem_of_getElem? (i := 99) rfl))) (g := (mkF m 36 #[.val (.ref a1), .val (.int p2), .val (.int N), .val (.int (p2 <<< ((0 : Int32) &&& 31))), .val (.int ((p2 <<< ((0 : Int32) &&& 31)) - N)), .val (.int (N + (N + ((2 : Int32) <<< ((0 : Int32) &&& 31)))))] [(.int (N + (N + ((2 : Int32) <<< ((0 : Int32) &&& 31)))))])) rfl (hb hby d15_36) _ ?_
    show Steps p.tables e below (T5.setTop (mkF m 38 #[.val (.ref a1), .val (.int p2), .val (.int N), .val (.int (p2 <<< ((0 : Int32) &&& 31))), .val (.int ((p2 <<< ((0 : Int32) &&& 31)) - N)), .val (.int (N + (N + ((2 : Int32) <<< ((0 : Int32) &&& 31)))))] [(.int (2147483647 : Int32)), (.int (N + (N + ((2 : Int32) <<< ((0 : Int32) &&& 31)))))])) _
    refine XS.icmpYes X5.here hx rfl (pc0 := 38) (pc' := 51) rfl (hb hby d15_38) rfl (feq hk6).2 (by decide) (by decide) ?_
    show Steps p.tables e below (T5.setTop (mkF m 51 #[.val (.ref a1), .val (.int p2), .val (.int N), .val (.int (p2 <<< ((0 : Int32) &&& 31))), .val (.int ((p2 <<< ((0 : Int32) &&& 31)) - N)), .val (.int (N + (N + ((2 : Int32) <<< ((0 : Int32) &&& 31)))))] [])) _
    refine XS.iload X5.here hx rfl (hb hby d15_51) rfl ?_
    show Steps p.tables e below (T5.setTop (mkF m 53 #[.val (.ref a1), .val (.int p2), .val (.int N), .val (.int (p2 <<< ((0 : Int32) &&& 31))), .val (.int ((p2 <<< ((0 : Int32) &&& 31)) - N)), .val (.int (N + (N + ((2 : Int32) <<< ((0 : Int32) &&& 31)))))] [(.int (N + (N + ((2 : Int32) <<< ((0 : Int32) &&& 31)))))])) _
    refine XS.aloadN X5.here hx rfl (hb hby d15_53) rfl rfl ?_
    show Steps p.tables e below (T5.setTop (mkF m 54 #[.val (.ref a1), .val (.int p2), .val (.int N), .val (.int (p2 <<< ((0 : Int32) &&& 31))), .val (.int ((p2 <<< ((0 : Int32) &&& 31)) - N)), .val (.int (N + (N + ((2 : Int32) <<< ((0 : Int32) &&& 31)))))] [(.ref a1), (.int (N + (N + ((2 : Int32) <<< ((0 : Int32) &&& 31)))))])) _
    refine st8 _ ?_
    show Steps p.tables e below (T8.setTop (mkF m 57 #[.val (.ref a1), .val (.int p2), .val (.int N), .val (.int (p2 <<< ((0 : Int32) &&& 31))), .val (.int ((p2 <<< ((0 : Int32) &&& 31)) - N)), .val (.int (N + (N + ((2 : Int32) <<< ((0 : Int32) &&& 31)))))] [(.int (0 : Int32)), (.int (N + (N + ((2 : Int32) <<< ((0 : Int32) &&& 31)))))])) _
    refine XS.ishr X8.here hx rfl (hb hby d15_57) rfl ?_
    show Steps p.tables e below (T8.setTop (mkF m 58 #[.val (.ref a1), .val (.int p2), .val (.int N), .val (.int (p2 <<< ((0 : Int32) &&& 31))), .val (.int ((p2 <<< ((0 : Int32) &&& 31)) - N)), .val (.int (N + (N + ((2 : Int32) <<< ((0 : Int32) &&& 31)))))] [(.int ((N + (N + ((2 : Int32) <<< ((0 : Int32) &&& 31)))) >>> ((0 : Int32) &&& 31)))])) _
    rw [hv] at hr
    exact retI X8 hx Bd.returns (hb hby d15_58) hr
  ·
    show Q15 Z a1 p2 t kd N vd h0 n0 _ T8.heap _
    rw [e8]
    exact ⟨rfl, N5, hq5⟩
theorem d18_0 : decode jdk_65_method_121_code 0 = .ok (.iload_n 1, 1) := by decide +kernel
theorem d18_1 : decode jdk_65_method_121_code 1 = .ok (.aload_n 0, 1) := by decide +kernel
theorem d18_2 : decode jdk_65_method_121_code 2 = .ok (.arraylength, 1) := by decide +kernel
theorem d18_3 : decode jdk_65_method_121_code 3 = .ok (.if_icmp .ne 11, 3) := by decide +kernel
theorem d18_14 : decode jdk_65_method_121_code 14 = .ok (.iload_n 1, 1) := by decide +kernel
theorem d18_15 : decode jdk_65_method_121_code 15 = .ok (.newarray .byte, 2) := by decide +kernel
theorem d18_17 : decode jdk_65_method_121_code 17 = .ok (.astore_n 2, 1) := by decide +kernel
theorem d18_18 : decode jdk_65_method_121_code 18 = .ok (.aload_n 0, 1) := by decide +kernel
theorem d18_19 : decode jdk_65_method_121_code 19 = .ok (.iconst 0, 1) := by decide +kernel
theorem d18_20 : decode jdk_65_method_121_code 20 = .ok (.aload_n 2, 1) := by decide +kernel
theorem d18_21 : decode jdk_65_method_121_code 21 = .ok (.iconst 0, 1) := by decide +kernel
theorem d18_22 : decode jdk_65_method_121_code 22 = .ok (.aload_n 0, 1) := by decide +kernel
theorem d18_23 : decode jdk_65_method_121_code 23 = .ok (.arraylength, 1) := by decide +kernel
theorem d18_24 : decode jdk_65_method_121_code 24 = .ok (.iload_n 1, 1) := by decide +kernel
theorem d18_25 : decode jdk_65_method_121_code 25 = .ok (.invokestatic 304, 3) := by decide +kernel
theorem d18_28 : decode jdk_65_method_121_code 28 = .ok (.invokestatic 150, 3) := by decide +kernel
theorem d18_31 : decode jdk_65_method_121_code 31 = .ok (.aload_n 2, 1) := by decide +kernel
theorem d18_32 : decode jdk_65_method_121_code 32 = .ok (.areturn, 1) := by decide +kernel
theorem pn_18 : plainName "java/util/Arrays" = true := by first | (simp [plainName, overriddenIn]; done) | decide +kernel
theorem ef_18 (m : MethodId) (a1 : Addr) (p2 : Int32) : entryFrame m #[(.ref a1), (.int p2)] 3 = (mkF m 0 #[.val (.ref a1), .val (.int p2), .unset] []) := by first | (simp [entryFrame, mkF, argsToLocals, Value.category]; done) | rfl
def Q18 (Z : State) (a1 : Addr) (p2 : Int32) (kd : ClassId) (N : Int32) (h0 : Heap) (n0 : Nat) (v : Option Value) (h : Heap) (L : List Loc) : Prop := ∃ (b : Addr) (k : ClassId), v = some (.ref b) ∧ Fr n0 L ∧ Keep h0 h [] ∧ n0 ≤ b ∧ h0.size ≤ b ∧ Arv Z h b k .byte (34 : Int32) (List.replicate 34 (Value.int (0 : Int32))) (.int (0 : Int32))
set_option maxRecDepth 65536 in
set_option maxHeartbeats 40000000 in
theorem rm18 (l : Launch) (Z : State) (a0 : Array Value) (hw : ∀ d ∈ tables_1, d.before a0 Z = true) (ws : List Jvm.Cond) (a1 : Addr) (p2 : Int32) (kd : ClassId) (N : Int32) (h0 : Heap) (n0 : Nat) (Z0 : n0 ≤ h0.size) (Vd : Arv Z h0 a1 kd .byte N (List.replicate 16 (Value.int (0 : Int32))) (.int (0 : Int32))) (hp : p2 = (34 : Int32) ∧ N = (16 : Int32)) :
    MetFree l (⟨"java/util/Arrays", "copyOf", "([BI)[B"⟩ : MethodName) (head1 (Jvm.Cond.code (⟨"java/util/Arrays", "copyOf", "([BI)[B"⟩ : MethodName) jdk_65_method_121_code 3 (some (.array .byte)) :: ws) ({ frames := 1, cells := 1, slots := 34, locals := 18 } : Room)) (fun a U => a = #[(.ref a1), (.int p2)] ∧ Z.Warmed39 U.vm ∧ U.heap = h0) (fun _ _ _ _ _ => True) (fun _ U o U' => ∃ v L, o = .returned v ∧ Q18 Z a1 p2 kd N h0 n0 v U'.heap L ∧ FrameEnd U o U' L ({ frames := 1, cells := 1, slots := 34, locals := 18 } : Room).cells ({ frames := 1, cells := 1, slots := 34, locals := 18 } : Room).slots) := by
  refine MetFree.of_bodySF (plainFor_of_name pn_18) hisR ?_
  intro p e s m args below meth c s₁ Bd hml0 hP hK
  obtain ⟨rfl, hZ, hh⟩ := hP
  have hx := Bd.exec
  have hby := Bd.bytes
  have hml : c.maxLocals = 3 := hml0
  have hown : s.vm.findClass "java/util/Arrays" = some m.cls := findClass_of_methodNamed Bd.named
  have hnm := (name_of_methodNamed Bd.named Bd.method).1
  have X0 : Stand p l e ({ frames := 1, cells := 1, slots := 34, locals := 18 } : Room) s m #[(.ref a1), (.int p2)] below meth c s₁ [] 0 0 := Stand.of_body Bd
  have e0 : s₁.heap = h0 := by rw [← hh, Bd.state]; rfl
  have N0 := Fr.nil n0
  have K0 := Keep.refl h0 ([] : List Addr)
  have pre0 : ∀ t, Steps p.tables e below (s₁.setTop (mkF m 0 #[.val (.ref a1), .val (.int p2), .unset] [])) t → Steps p.tables e below (s₁.setTop (entryFrame m #[(.ref a1), (.int p2)] 3)) t := fun t k => castTop (ef_18 m a1 p2) k
  obtain ⟨clo1, Aro1, -, So1, No1, -, -⟩ := id Vd
  have hk2 : ¬ (p2 = N) := (by rw [hp.1, hp.2]; decide)
  obtain ⟨T3, h3, k3, X3, e3, E3, A3, st3⟩ := newP X0 hx hZ (hw _ (List.mem_of_getElem? (i := 3) rfl)) e0 (g := (mkF m 15 #[.val (.ref a1), .val (.int p2), .unset] [(.int p2)])) rfl (hb hby d18_15) rfl (by rw [hp.1]; decide) (cap := 34) (by rw [hp.1]; decide) (by decide) (by decide) (by decide)
  obtain ⟨b3, g3⟩ : ∃ z, z = h0.size := ⟨_, rfl⟩
  rw [← g3] at A3 st3
  have g_b3 : n0 ≤ b3 := Nat.le_trans (Nat.le_trans Z0 K0.1) (Nat.le_of_eq g3.symm)
  have sz_b3 : h0.size ≤ b3 := Nat.le_trans K0.1 (Nat.le_of_eq g3.symm)
  have ne_a1_b3 : a1 ≠ b3 := Nat.ne_of_lt (Nat.lt_of_lt_of_le Vd.lt (Nat.le_of_eq g3.symm))
  have K3 := K0.ext E3
  have V_b3 : Arv Z h3 b3 k3 .byte p2 (List.replicate 34 (Value.int (0 : Int32))) (.int (0 : Int32)) := (Arv.new A3 (by rw [hp.1]; decide)).pad (pad_rep [] (.int (0 : Int32)) 34)
  have c4 := (Vd.ext E3)
  obtain ⟨clo5, Aro5, -, So5, No5, -, -⟩ := id c4
  obtain ⟨_, _, ⟨T6, L6, k6, n6⟩, -, X6, ⟨Lc6, hQ6, l6, y6, z6⟩, st6⟩ := Jvm.LawKit.callS X3 hx (y := (⟨"java/lang/Math", "min", "(II)I"⟩ : MethodName)) hown (mvT hZ (hw _ (List.mem_of_getElem? (i := 104) rfl))) (mvT hZ (hw _ (List.mem_of_getElem? (i := 105) rfl))) (mvT hZ (hw _ (List.mem_of_getElem? (i := 96) rfl))) (mvT hZ (hw _ (List.mem_of_getElem? (i := 106) rfl))) (by decide) (backOf (W := 4) (rm19 l Z a0 hw [] N p2 h3 n0 (Nat.le_trans Z0 K3.1)) hZ (hw _ (List.mem_of_getElem? (i := 106) rfl)) (hw _ (List.mem_of_getElem? (i := 96) rfl)) (by decide) (by decide)) (g := (mkF m 25 #[.val (.ref a1), .val (.int p2), .val (.ref b3)] [(.int p2), (.int N), (.int (0 : Int32)), (.ref b3), (.int (0 : Int32)), (.ref a1)])) rfl (by rw [hml]; rfl) (argsL := [(.int N), (.int p2)]) (rest := [(.int (0 : Int32)), (.ref b3), (.int (0 : Int32)), (.ref a1)]) (lenOf pd__II_I rfl) rfl (by show 2 * 0 + _ ≤ _; exact Nat.le_of_eq rfl) (hb hby d18_25) (fun _ _ => ⟨rfl, e3, (by decide : 1 + 0 ≤ _), (by decide : 34 + 0 ≤ _)⟩)
  dsimp only [Pt.U, Pt.locs, Pt.cells, Pt.slots] at X6 l6 y6 z6 st6 hQ6
  subst l6 y6 z6
  obtain ⟨rfl, N6q, hq6⟩ := hQ6
  have N6 := Fr.app N0 N6q
  have E6 : Ext h3 T6.heap := by rw [hq6]; exact ⟨Nat.le_refl _, fun _ _ q => q⟩
  have K6 := K3.ext E6
  have hmin : (if p2 < N then p2 else N) = (16 : Int32) := by rw [hp.1, hp.2]; decide
  have hzn : (0 : Int32).toNatClampNeg = 0 := rfl
  have h16 : (16 : Int32).toNatClampNeg = 16 := rfl
  have c8 := (c4.ext E6)
  have c9 := (V_b3.ext E6)
  obtain ⟨T7, h7, L7, X7, e7, N7, kq7, va7, st7⟩ := cpA X6 hx hZ hown (hw _ (List.mem_of_getElem? (i := 107) rfl)) (hw _ (List.mem_of_getElem? (i := 110) rfl)) (hw _ (List.mem_of_getElem? (i := 108) rfl)) (hw _ (List.mem_of_getElem? (i := 109) rfl)) rfl c8 c9 (Or.inl ⟨rfl, rfl⟩) (by decide) (by decide) (by rw [hmin]; decide) (by rw [hmin, hp.2]; decide) (by rw [hmin, hp.1]; decide) (us := (List.replicate 16 (Value.int (0 : Int32)))) (by rw [hmin]; rfl) (by rw [hmin]; decide) N6 g_b3 (g := (mkF m 28 #[.val (.ref a1), .val (.int p2), .val (.ref b3)] [(.int (if p2 < N then p2 else N)), (.int (0 : Int32)), (.ref b3), (.int (0 : Int32)), (.ref a1)])) rfl (by rw [hml]; rfl) (rest := []) rfl (hb hby d18_28) (by decide) (W := 0) (by show 2 * 0 + _ ≤ _; exact Nat.le_of_eq rfl) (by decide)
  have K7 := K6.trans kq7 (allS (Or.inr sz_b3) all0)
  have vb7 : Arv Z h7 b3 k3 .byte p2 (List.replicate 34 (Value.int (0 : Int32))) (.int (0 : Int32)) := by
    have q := va7
    rw [hmin] at q; exact q
  obtain ⟨fs, hr, hrun, hended, hW, hsame⟩ := X7.leave (v := some (.ref b3)) (fun h => by rw [Bd.returns] at h; cases h)
  refine ⟨_, _, pre0 _ ?_, hrun, hended, _, _, rfl, ?_, ⟨_, rfl⟩, hW, hsame.mono (by decide) (by decide)⟩
  ·
    show Steps p.tables e below (s₁.setTop (mkF m 0 #[.val (.ref a1), .val (.int p2), .unset] [])) _
    refine XS.iloadN X0.here hx rfl (hb hby d18_0) rfl ?_
    show Steps p.tables e below (s₁.setTop (mkF m 1 #[.val (.ref a1), .val (.int p2), .unset] [(.int p2)])) _
    refine XS.aloadN X0.here hx rfl (hb hby d18_1) rfl rfl ?_
    show Steps p.tables e below (s₁.setTop (mkF m 2 #[.val (.ref a1), .val (.int p2), .unset] [(.ref a1), (.int p2)])) _
    refine X0.arraylength hx (by rw [e0]; exact Aro1.1) (State.isArrayOf_alike hZ.alike Aro1.2.1) (g := (mkF m 2 #[.val (.ref a1), .val (.int p2), .unset] [(.ref a1), (.int p2)])) rfl rfl (hb hby d18_2) _ ?_
    rw [len_of So1 No1]
    show Steps p.tables e below (s₁.setTop (mkF m 3 #[.val (.ref a1), .val (.int p2), .unset] [(.int N), (.int p2)])) _
    refine XS.icmpYes X0.here hx rfl (pc0 := 3) (pc' := 14) rfl (hb hby d18_3) rfl (feq hk2).2 (by decide) (by decide) ?_
    show Steps p.tables e below (s₁.setTop (mkF m 14 #[.val (.ref a1), .val (.int p2), .unset] [])) _
    refine XS.iloadN X0.here hx rfl (hb hby d18_14) rfl ?_
    show Steps p.tables e below (s₁.setTop (mkF m 15 #[.val (.ref a1), .val (.int p2), .unset] [(.int p2)])) _
    refine st3 _ ?_
    show Steps p.tables e below (T3.setTop (mkF m 17 #[.val (.ref a1), .val (.int p2), .unset] [(.ref b3)])) _
    refine XS.astoreN X3.here hx rfl (hb hby d18_17) rfl rfl (l' := #[.val (.ref a1), .val (.int p2), .val (.ref b3)]) rfl ?_
    show Steps p.tables e below (T3.setTop (mkF m 18 #[.val (.ref a1), .val (.int p2), .val (.ref b3)] [])) _
    refine XS.aloadN X3.here hx rfl (hb hby d18_18) rfl rfl ?_
    show Steps p.tables e below (T3.setTop (mkF m 19 #[.val (.ref a1), .val (.int p2), .val (.ref b3)] [(.ref a1)])) _
    refine XS.iconst X3.here hx rfl (hb hby d18_19) ?_
    show Steps p.tables e below (T3.setTop (mkF m 20 #[.val (.ref a1), .val (.int p2), .val (.ref b3)] [(.int (0 : Int32)), (.ref a1)])) _
    refine XS.aloadN X3.here hx rfl (hb hby d18_20) rfl rfl ?_
    show Steps p.tables e below (T3.setTop (mkF m 21 #[.val (.ref a1), .val (.int p2), .val (.ref b3)] [(.ref b3), (.int (0 : Int32)), (.ref a1)])) _
    refine XS.iconst X3.here hx rfl (hb hby d18_21) ?_
    show Steps p.tables e below (T3.setTop (mkF m 22 #[.val (.ref a1), .val (.int p2), .val (.ref b3)] [(.int (0 : Int32)), (.ref b3), (.int (0 : Int32)), (.ref a1)])) _
    refine XS.aloadN X3.here hx rfl (hb hby d18_22) rfl rfl ?_
    show Steps p.tables e below (T3.setTop (mkF m 23 #[.val (.ref a1), .val (.int p2), .val (.ref b3)] [(.ref a1), (.int (0 : Int32)), (.ref b3), (.int (0 : Int32)), (.ref a1)])) _
    refine X3.arraylength hx (by rw [e3]; exact Aro5.1) (State.isArrayOf_alike hZ.alike Aro5.2.1) (g := (mkF m 23 #[.val (.ref a1), .val (.int p2), .val (.ref b3)] [(.ref a1), (.int (0 : Int32)), (.ref b3), (.int (0 : Int32)), (.ref a1)])) rfl rfl (hb hby d18_23) _ ?_
    rw [len_of So5 No5]
    show Steps p.tables e below (T3.setTop (mkF m 24 #[.val (.ref a1), .val (.int p2), .val (.ref b3)] [(.int N), (.int (0 : Int32)), (.ref b3), (.int (0 : Int32)), (.ref a1)])) _
    refine XS.iloadN X3.here hx rfl (hb hby d18_24) rfl ?_
    show Steps p.tables e below (T3.setTop (mkF m 25 #[.val (.ref a1), .val (.int p2), .val (.ref b3)] [(.int p2), (.int N), (.int (0 : Int32)), (.ref b3), (.int (0 : Int32)), (.ref a1)])) _
    refine st6 _ ?_
    show Steps p.tables e below (T6.setTop (mkF m 28 #[.val (.ref a1), .val (.int p2), .val (.ref b3)] [(.int (if p2 < N then p2 else N)), (.int (0 : Int32)), (.ref b3), (.int (0 : Int32)), (.ref a1)])) _
    refine st7 _ ?_
    show Steps p.tables e below (T7.setTop (mkF m 31 #[.val (.ref a1), .val (.int p2), .val (.ref b3)] [])) _
    refine XS.aloadN X7.here hx rfl (hb hby d18_31) rfl rfl ?_
    show Steps p.tables e below (T7.setTop (mkF m 32 #[.val (.ref a1), .val (.int p2), .val (.ref b3)] [(.ref b3)])) _
    jvm_step X7.here [X7.here.top, hx, (hb hby d18_32), X7.method', Bd.returns, Value.isRef, FieldType.isReference]
    first | (intro acts; rw [hr _ acts rfl rfl rfl]) | rw [hr _ _ rfl rfl rfl]
    exact Steps.refl _
  ·
    show Q18 Z a1 p2 kd N h0 n0 _ T7.heap _
    rw [e7]
    exact ⟨_, _, rfl, N7, K7, g_b3, sz_b3, by have q := vb7; rw [hp.1] at q; exact q⟩
theorem d14_17 : decode jdk_68_method_9_code 17 = .ok (.aload_n 0, 1) := by decide +kernel
theorem d14_18 : decode jdk_68_method_9_code 18 = .ok (.aload_n 0, 1) := by decide +kernel
theorem d14_19 : decode jdk_68_method_9_code 19 = .ok (.getfield 15, 3) := by decide +kernel
theorem d14_22 : decode jdk_68_method_9_code 22 = .ok (.aload_n 0, 1) := by decide +kernel
theorem d14_23 : decode jdk_68_method_9_code 23 = .ok (.iload_n 1, 1) := by decide +kernel
theorem d14_24 : decode jdk_68_method_9_code 24 = .ok (.invokevirtual 104, 3) := by decide +kernel
theorem d14_27 : decode jdk_68_method_9_code 27 = .ok (.aload_n 0, 1) := by decide +kernel
theorem d14_28 : decode jdk_68_method_9_code 28 = .ok (.getfield 22, 3) := by decide +kernel
theorem d14_31 : decode jdk_68_method_9_code 31 = .ok (.ishl, 1) := by decide +kernel
theorem d14_32 : decode jdk_68_method_9_code 32 = .ok (.invokestatic 108, 3) := by decide +kernel
theorem d14_35 : decode jdk_68_method_9_code 35 = .ok (.putfield 15, 3) := by decide +kernel
theorem pd__I_I : parseMethodDescriptor "(I)I" = some ⟨[.int], some .int⟩ := by decide +kernel
theorem pd___BI__B : parseMethodDescriptor "([BI)[B" = some ⟨[(.array .byte), .int], some (.array .byte)⟩ := by decide +kernel
theorem ef_rmEG (m : MethodId) (a1 : Addr) (p2 : Int32) : entryFrame m #[(.ref a1), (.int p2)] 3 = (mkF m 0 #[.val (.ref a1), .val (.int p2), .unset] []) := by first | (simp [entryFrame, mkF, argsToLocals, Value.category]; done) | rfl
def QrmEG (Z : State) (a1 : Addr) (p2 : Int32) (t : Addr) (kd : ClassId) (N : Int32) (cn : Int32) (h0 : Heap) (n0 : Nat) (v : Option Value) (h : Heap) (L : List Loc) : Prop := ∃ (b : Addr) (k : ClassId), v = none ∧ Fr n0 L ∧ Keep h0 h [a1] ∧ n0 ≤ b ∧ h0.size ≤ b ∧ Arv Z h b k .byte (34 : Int32) (List.replicate 34 (Value.int (0 : Int32))) (.int (0 : Int32)) ∧ Fld Z h a1 "java/lang/AbstractStringBuilder" "value" "[B" (.ref b) ∧ Fld Z h a1 "java/lang/AbstractStringBuilder" "coder" "B" (.int (0 : Int32)) ∧ Fld Z h a1 "java/lang/AbstractStringBuilder" "count" "I" (.int cn)
set_option maxRecDepth 65536 in
set_option maxHeartbeats 40000000 in
theorem rmEG (l : Launch) (Z : State) (a0 : Array Value) (hw : ∀ d ∈ tables_1, d.before a0 Z = true) (ws : List Jvm.Cond) (a1 : Addr) (p2 : Int32) (t : Addr) (kd : ClassId) (N : Int32) (cn : Int32) (h0 : Heap) (n0 : Nat) (Z0 : n0 ≤ h0.size) (g_a1 : n0 ≤ a1) (E_a1 : Exa Z h0 a1 "java/lang/StringBuilder") (Gv_a1 : Fld Z h0 a1 "java/lang/AbstractStringBuilder" "value" "[B" (.ref t)) (Gc_a1 : Fld Z h0 a1 "java/lang/AbstractStringBuilder" "coder" "B" (.int (0 : Int32))) (Gn_a1 : Fld Z h0 a1 "java/lang/AbstractStringBuilder" "count" "I" (.int cn)) (Vd : Arv Z h0 t kd .byte N (List.replicate 16 (Value.int (0 : Int32))) (.int (0 : Int32))) (hp : p2 = (17 : Int32) ∧ N = (16 : Int32)) :
    MetFree l (⟨"java/lang/AbstractStringBuilder", "ensureCapacityInternal", "(I)V"⟩ : MethodName) (head1 (Jvm.Cond.code (⟨"java/lang/AbstractStringBuilder", "ensureCapacityInternal", "(I)V"⟩ : MethodName) jdk_68_method_9_code 3 none :: ws) ({ frames := 3, cells := 1, slots := 34, locals := 48 } : Room)) (fun a U => a = #[(.ref a1), (.int p2)] ∧ Z.Warmed39 U.vm ∧ U.heap = h0) (fun _ _ _ _ _ => True) (fun _ U o U' => ∃ v L, o = .returned v ∧ QrmEG Z a1 p2 t kd N cn h0 n0 v U'.heap L ∧ FrameEnd U o U' L ({ frames := 3, cells := 1, slots := 34, locals := 48 } : Room).cells ({ frames := 3, cells := 1, slots := 34, locals := 48 } : Room).slots) := by
  refine MetFree.of_bodySF (plainFor_of_name pn_14) hisR ?_
  intro p e s m args below meth c s₁ Bd hml0 hP hK
  obtain ⟨rfl, hZ, hh⟩ := hP
  have hx := Bd.exec
  have hby := Bd.bytes
  have hml : c.maxLocals = 3 := hml0
  have hown : s.vm.findClass "java/lang/AbstractStringBuilder" = some m.cls := findClass_of_methodNamed Bd.named
  have hnm := (name_of_methodNamed Bd.named Bd.method).1
  have X0 : Stand p l e ({ frames := 3, cells := 1, slots := 34, locals := 48 } : Room) s m #[(.ref a1), (.int p2)] below meth c s₁ [] 0 0 := Stand.of_body Bd
  have e0 : s₁.heap = h0 := by rw [← hh, Bd.state]; rfl
  have N0 := Fr.nil n0
  have K0 := Keep.refl h0 ([a1] : List Addr)
  have pre0 : ∀ t, Steps p.tables e below (s₁.setTop (mkF m 0 #[.val (.ref a1), .val (.int p2), .unset] [])) t → Steps p.tables e below (s₁.setTop (entryFrame m #[(.ref a1), (.int p2)] 3)) t := fun t k => castTop (ef_rmEG m a1 p2) k
  have nta : t ≠ a1 := Ne.symm (E_a1.neArv Vd (hw _ (List.mem_of_getElem? (i := 40) rfl)))
  obtain ⟨T1, X1, e1, st1⟩ := getF X0 hx hZ hown (host := "") (Or.inl (hw _ (List.mem_of_getElem? (i := 53) rfl))) Via.refl e0 Gv_a1 (g := (mkF m 1 #[.val (.ref a1), .val (.int p2), .unset] [(.ref a1)])) rfl rfl (hb hby d14_1)
  obtain ⟨clo2, Aro2, -, So2, No2, -, -⟩ := id Vd
  obtain ⟨T3, X3, e3, st3⟩ := getF X1 hx hZ hown (host := "") (Or.inl (hw _ (List.mem_of_getElem? (i := 55) rfl))) Via.refl e1 Gc_a1 (g := (mkF m 6 #[.val (.ref a1), .val (.int p2), .unset] [(.ref a1), (.int N)])) rfl rfl (hb hby d14_6)
  have hk4 : (0 : Int32) < (p2 - (N >>> ((0 : Int32) &&& 31))) := (by rw [own_shr0, hp.1, hp.2]; decide)
  obtain ⟨T5, X5, e5, st5⟩ := getF X3 hx hZ hown (host := "") (Or.inl (hw _ (List.mem_of_getElem? (i := 53) rfl))) Via.refl e3 Gv_a1 (g := (mkF m 19 #[.val (.ref a1), .val (.int p2), .val (.int (N >>> ((0 : Int32) &&& 31)))] [(.ref a1), (.ref a1)])) rfl rfl (hb hby d14_19)
  obtain ⟨cq6, kq6, q6a, q6b, q6c⟩ := isOf hZ e5 E_a1
  obtain ⟨_, _, ⟨T6, L6, k6, n6⟩, -, X6, ⟨Lc6, hQ6, l6, y6, z6⟩, st6⟩ := X5.virtualBack hx (y := (⟨"java/lang/AbstractStringBuilder", "newCapacity", "(I)I"⟩ : MethodName)) (z := (⟨"java/lang/AbstractStringBuilder", "newCapacity", "(I)I"⟩ : MethodName)) hown (mvT hZ (hw _ (List.mem_of_getElem? (i := 85) rfl))) (mvT hZ (own_decl (hw _ (List.mem_of_getElem? (i := 86) rfl)) (hw _ (List.mem_of_getElem? (i := 89) rfl)))) (notFace_of_selects (args := #[]) (mvT hZ (hw _ (List.mem_of_getElem? (i := 88) rfl)))) (mvT hZ (hw _ (List.mem_of_getElem? (i := 88) rfl))) (mvT hZ (hw _ (List.mem_of_getElem? (i := 86) rfl))) (by decide) (backOf (W := 2) (rm15 l Z a0 hw [] a1 p2 t kd N (List.replicate 16 (Value.int (0 : Int32))) h0 n0 (Nat.le_trans Z0 K0.1) E_a1 Gv_a1 Gc_a1 Vd hp) hZ (hw _ (List.mem_of_getElem? (i := 89) rfl)) (hw _ (List.mem_of_getElem? (i := 49) rfl)) (by decide) (by decide)) q6a q6c (g := (mkF m 24 #[.val (.ref a1), .val (.int p2), .val (.int (N >>> ((0 : Int32) &&& 31)))] [(.int p2), (.ref a1), (.ref t), (.ref a1)])) rfl (by rw [hml]; rfl) (Steps.refl _) (argsL := [(.int p2)]) (rest := [(.ref t), (.ref a1)]) (lenOf pd__I_I rfl) rfl (by show 2 * 0 + _ ≤ _; exact Nat.le_of_eq rfl) (hb hby d14_24) (fun _ _ => ⟨rfl, e5, (by decide : 0 + 0 ≤ _), (by decide : 0 + 0 ≤ _)⟩)
  dsimp only [Pt.U, Pt.locs, Pt.cells, Pt.slots] at X6 l6 y6 z6 st6 hQ6
  subst l6 y6 z6
  obtain ⟨rfl, N6q, hq6⟩ := hQ6
  have N6 := Fr.app N0 N6q
  have E6 : Ext h0 T6.heap := by rw [hq6]; exact ⟨Nat.le_refl _, fun _ _ q => q⟩
  have K6 := K0.ext E6
  have c7 := (Gc_a1.ext E6)
  obtain ⟨T8, X8, e8, st8⟩ := getF X6 hx hZ hown (host := "") (Or.inl (hw _ (List.mem_of_getElem? (i := 55) rfl))) Via.refl rfl c7 (g := (mkF m 28 #[.val (.ref a1), .val (.int p2), .val (.int (N >>> ((0 : Int32) &&& 31)))] [(.ref a1), (.int (34 : Int32)), (.ref t), (.ref a1)])) rfl rfl (hb hby d14_28)
  have c10 := (E_a1.ext E6)
  have c11 := (Gv_a1.ext E6)
  have c12 := (Gn_a1.ext E6)
  have c13 := (Vd.ext E6)
  obtain ⟨_, _, ⟨T9, L9, k9, n9⟩, -, X9, ⟨Lc9, hQ9, l9, y9, z9⟩, st9⟩ := Jvm.LawKit.callS X8 hx (y := (⟨"java/util/Arrays", "copyOf", "([BI)[B"⟩ : MethodName)) hown (mvT hZ (hw _ (List.mem_of_getElem? (i := 100) rfl))) (mvT hZ (hw _ (List.mem_of_getElem? (i := 101) rfl))) (mvT hZ (hw _ (List.mem_of_getElem? (i := 102) rfl))) (mvT hZ (hw _ (List.mem_of_getElem? (i := 103) rfl))) (by decide) (backOf (W := 1) (rm18 l Z a0 hw [] t ((34 : Int32) <<< ((0 : Int32) &&& 31)) kd N T6.heap n0 (Nat.le_trans Z0 K6.1) c13 ⟨by decide, hp.2⟩) hZ (hw _ (List.mem_of_getElem? (i := 103) rfl)) (hw _ (List.mem_of_getElem? (i := 102) rfl)) (by decide) (by decide)) (g := (mkF m 32 #[.val (.ref a1), .val (.int p2), .val (.int (N >>> ((0 : Int32) &&& 31)))] [(.int ((34 : Int32) <<< ((0 : Int32) &&& 31))), (.ref t), (.ref a1)])) rfl (by rw [hml]; rfl) (argsL := [(.ref t), (.int ((34 : Int32) <<< ((0 : Int32) &&& 31)))]) (rest := [(.ref a1)]) (lenOf pd___BI__B rfl) rfl (by show 2 * 0 + _ ≤ _; exact Nat.le_of_eq rfl) (hb hby d14_32) (fun _ _ => ⟨rfl, e8, (by decide : 0 + 1 ≤ _), (by decide : 0 + 34 ≤ _)⟩)
  dsimp only [Pt.U, Pt.locs, Pt.cells, Pt.slots] at X9 l9 y9 z9 st9 hQ9
  subst l9 y9 z9
  obtain ⟨b9, kb9, rfl, N9q, kq9, gg9, u9, va9⟩ := hQ9
  have N9 := Fr.app N6 N9q
  have K9 := K6.trans kq9 all0
  have sz_b9 : h0.size ≤ b9 := Nat.le_trans K6.1 u9
  have g_b9 := gg9
  have ne_a1_b9 : a1 ≠ b9 := Nat.ne_of_lt (Nat.lt_of_lt_of_le c12.lt u9)
  have ne_t_b9 : t ≠ b9 := Nat.ne_of_lt (Nat.lt_of_lt_of_le c13.lt u9)
  have c14 := (c10.keep kq9)
  have c15 := (c11.keep kq9 nin0)
  obtain ⟨T16, h16, X16, e16, W16, st16⟩ := putF X9 hx hZ hown (host := "") (Or.inl (hw _ (List.mem_of_getElem? (i := 53) rfl))) Via.refl rfl c15 c14 (Or.inl (hw _ (List.mem_of_getElem? (i := 54) rfl))) (hw _ (List.mem_of_getElem? (i := 40) rfl)) (ty := (.array .byte)) (by decide) rfl rfl (g := (mkF m 35 #[.val (.ref a1), .val (.int p2), .val (.int (N >>> ((0 : Int32) &&& 31)))] [(.ref b9), (.ref a1)])) rfl rfl (hb hby d14_35)
  have Fw16 := c15.same W16
  have K16 := K9.wr W16 (Or.inl (List.mem_of_getElem? (i := 0) rfl))
  have N16 := Fr.snoc X16 N9 g_a1
  have c17 := (va9.other W16 (Ne.symm ne_a1_b9))
  have c18 := ((c7.keep kq9 nin0).other W16 (Or.inr (slot_ne (Or.inl (hw _ (List.mem_of_getElem? (i := 56) rfl))) (Or.inl (hw _ (List.mem_of_getElem? (i := 54) rfl))) (by decide) (t := .byte) (t' := (.array .byte)) (by decide) (by decide))))
  have c19 := ((c12.keep kq9 nin0).other W16 (Or.inr (slot_ne (Or.inl (hw _ (List.mem_of_getElem? (i := 79) rfl))) (Or.inl (hw _ (List.mem_of_getElem? (i := 54) rfl))) (by decide) (t := .int) (t' := (.array .byte)) (by decide) (by decide))))
  obtain ⟨fs, hr, hrun, hended, hW, hsame⟩ := X16.leave (v := none) (fun _ => rfl)
  refine ⟨_, _, pre0 _ ?_, hrun, hended, _, _, rfl, ?_, ⟨_, rfl⟩, hW, hsame.mono (by decide) (by decide)⟩
  ·
    show Steps p.tables e below (s₁.setTop (mkF m 0 #[.val (.ref a1), .val (.int p2), .unset] [])) _
    refine XS.aloadN X0.here hx rfl (hb hby d14_0) rfl rfl ?_
    show Steps p.tables e below (s₁.setTop (mkF m 1 #[.val (.ref a1), .val (.int p2), .unset] [(.ref a1)])) _
    refine st1 _ ?_
    show Steps p.tables e below (T1.setTop (mkF m 4 #[.val (.ref a1), .val (.int p2), .unset] [(.ref t)])) _
    refine X1.arraylength hx (by rw [e1]; exact Aro2.1) (State.isArrayOf_alike hZ.alike Aro2.2.1) (g := (mkF m 4 #[.val (.ref a1), .val (.int p2), .unset] [(.ref t)])) rfl rfl (hb hby d14_4) _ ?_
    rw [len_of So2 No2]
    show Steps p.tables e below (T1.setTop (mkF m 5 #[.val (.ref a1), .val (.int p2), .unset] [(.int N)])) _
    refine XS.aloadN X1.here hx rfl (hb hby d14_5) rfl rfl ?_
    show Steps p.tables e below (T1.setTop (mkF m 6 #[.val (.ref a1), .val (.int p2), .unset] [(.ref a1), (.int N)])) _
    refine st3 _ ?_
    show Steps p.tables e below (T3.setTop (mkF m 9 #[.val (.ref a1), .val (.int p2), .unset] [(.int (0 : Int32)), (.int N)])) _
    refine XS.ishr X3.here hx rfl (hb hby d14_9) rfl ?_
    show Steps p.tables e below (T3.setTop (mkF m 10 #[.val (.ref a1), .val (.int p2), .unset] [(.int (N >>> ((0 : Int32) &&& 31)))])) _
    refine XS.istoreN X3.here hx rfl (hb hby d14_10) rfl (l' := #[.val (.ref a1), .val (.int p2), .val (.int (N >>> ((0 : Int32) &&& 31)))]) rfl ?_
    show Steps p.tables e below (T3.setTop (mkF m 11 #[.val (.ref a1), .val (.int p2), .val (.int (N >>> ((0 : Int32) &&& 31)))] [])) _
    refine XS.iloadN X3.here hx rfl (hb hby d14_11) rfl ?_
    show Steps p.tables e below (T3.setTop (mkF m 12 #[.val (.ref a1), .val (.int p2), .val (.int (N >>> ((0 : Int32) &&& 31)))] [(.int p2)])) _
    refine XS.iloadN X3.here hx rfl (hb hby d14_12) rfl ?_
    show Steps p.tables e below (T3.setTop (mkF m 13 #[.val (.ref a1), .val (.int p2), .val (.int (N >>> ((0 : Int32) &&& 31)))] [(.int (N >>> ((0 : Int32) &&& 31))), (.int p2)])) _
    refine XS.isub X3.here hx rfl (hb hby d14_13) rfl ?_
    show Steps p.tables e below (T3.setTop (mkF m 14 #[.val (.ref a1), .val (.int p2), .val (.int (N >>> ((0 : Int32) &&& 31)))] [(.int (p2 - (N >>> ((0 : Int32) &&& 31))))])) _
    refine XS.ifNo X3.here hx rfl (hb hby d14_14) rfl ((if0 _ _).trans (tlt hk4).2.2.2) ?_
    show Steps p.tables e below (T3.setTop (mkF m 17 #[.val (.ref a1), .val (.int p2), .val (.int (N >>> ((0 : Int32) &&& 31)))] [])) _
    refine XS.aloadN X3.here hx rfl (hb hby d14_17) rfl rfl ?_
    show Steps p.tables e below (T3.setTop (mkF m 18 #[.val (.ref a1), .val (.int p2), .val (.int (N >>> ((0 : Int32) &&& 31)))] [(.ref a1)])) _
    refine XS.aloadN X3.here hx rfl (hb hby d14_18) rfl rfl ?_
    show Steps p.tables e below (T3.setTop (mkF m 19 #[.val (.ref a1), .val (.int p2), .val (.int (N >>> ((0 : Int32) &&& 31)))] [(.ref a1), (.ref a1)])) _
    refine st5 _ ?_
    show Steps p.tables e below (T5.setTop (mkF m 22 #[.val (.ref a1), .val (.int p2), .val (.int (N >>> ((0 : Int32) &&& 31)))] [(.ref t), (.ref a1)])) _
    refine XS.aloadN X5.here hx rfl (hb hby d14_22) rfl rfl ?_
    show Steps p.tables e below (T5.setTop (mkF m 23 #[.val (.ref a1), .val (.int p2), .val (.int (N >>> ((0 : Int32) &&& 31)))] [(.ref a1), (.ref t), (.ref a1)])) _
    refine XS.iloadN X5.here hx rfl (hb hby d14_23) rfl ?_
    show Steps p.tables e below (T5.setTop (mkF m 24 #[.val (.ref a1), .val (.int p2), .val (.int (N >>> ((0 : Int32) &&& 31)))] [(.int p2), (.ref a1), (.ref t), (.ref a1)])) _
    refine st6.trans ?_
    show Steps p.tables e below (T6.setTop (mkF m 27 #[.val (.ref a1), .val (.int p2), .val (.int (N >>> ((0 : Int32) &&& 31)))] [(.int (34 : Int32)), (.ref t), (.ref a1)])) _
    refine XS.aloadN X6.here hx rfl (hb hby d14_27) rfl rfl ?_
    show Steps p.tables e below (T6.setTop (mkF m 28 #[.val (.ref a1), .val (.int p2), .val (.int (N >>> ((0 : Int32) &&& 31)))] [(.ref a1), (.int (34 : Int32)), (.ref t), (.ref a1)])) _
    refine st8 _ ?_
    show Steps p.tables e below (T8.setTop (mkF m 31 #[.val (.ref a1), .val (.int p2), .val (.int (N >>> ((0 : Int32) &&& 31)))] [(.int (0 : Int32)), (.int (34 : Int32)), (.ref t), (.ref a1)])) _
    refine XS.ishl X8.here hx rfl (hb hby d14_31) rfl ?_
    show Steps p.tables e below (T8.setTop (mkF m 32 #[.val (.ref a1), .val (.int p2), .val (.int (N >>> ((0 : Int32) &&& 31)))] [(.int ((34 : Int32) <<< ((0 : Int32) &&& 31))), (.ref t), (.ref a1)])) _
    refine st9 _ ?_
    show Steps p.tables e below (T9.setTop (mkF m 35 #[.val (.ref a1), .val (.int p2), .val (.int (N >>> ((0 : Int32) &&& 31)))] [(.ref b9), (.ref a1)])) _
    refine st16 _ ?_
    show Steps p.tables e below (T16.setTop (mkF m 38 #[.val (.ref a1), .val (.int p2), .val (.int (N >>> ((0 : Int32) &&& 31)))] [])) _
    exact X16.returnOut hx Bd.returns (hb hby d14_38) hr
  ·
    show QrmEG Z a1 p2 t kd N cn h0 n0 _ T16.heap _
    rw [e16]
    exact ⟨_, _, rfl, N16, K16, g_b9, sz_b9, c17, Fw16, c18, c19⟩
theorem d11_0 : decode jdk_68_method_22_code 0 = .ok (.aload_n 1, 1) := by decide +kernel
theorem d11_1 : decode jdk_68_method_22_code 1 = .ok (.ifnonnull 8, 3) := by decide +kernel
theorem d11_9 : decode jdk_68_method_22_code 9 = .ok (.aload_n 1, 1) := by decide +kernel
theorem d11_10 : decode jdk_68_method_22_code 10 = .ok (.invokevirtual 32, 3) := by decide +kernel
theorem d11_13 : decode jdk_68_method_22_code 13 = .ok (.istore_n 2, 1) := by decide +kernel
theorem d11_14 : decode jdk_68_method_22_code 14 = .ok (.aload_n 0, 1) := by decide +kernel
theorem d11_15 : decode jdk_68_method_22_code 15 = .ok (.aload_n 0, 1) := by decide +kernel
theorem d11_16 : decode jdk_68_method_22_code 16 = .ok (.getfield 79, 3) := by decide +kernel
theorem d11_19 : decode jdk_68_method_22_code 19 = .ok (.iload_n 2, 1) := by decide +kernel
theorem d11_20 : decode jdk_68_method_22_code 20 = .ok (.iadd, 1) := by decide +kernel
theorem d11_21 : decode jdk_68_method_22_code 21 = .ok (.invokevirtual 100, 3) := by decide +kernel
theorem d11_24 : decode jdk_68_method_22_code 24 = .ok (.aload_n 0, 1) := by decide +kernel
theorem d11_25 : decode jdk_68_method_22_code 25 = .ok (.aload_n 0, 1) := by decide +kernel
theorem d11_26 : decode jdk_68_method_22_code 26 = .ok (.getfield 79, 3) := by decide +kernel
theorem d11_29 : decode jdk_68_method_22_code 29 = .ok (.aload_n 1, 1) := by decide +kernel
theorem d11_30 : decode jdk_68_method_22_code 30 = .ok (.invokevirtual 208, 3) := by decide +kernel
theorem d11_33 : decode jdk_68_method_22_code 33 = .ok (.aload_n 0, 1) := by decide +kernel
theorem d11_34 : decode jdk_68_method_22_code 34 = .ok (.dup, 1) := by decide +kernel
theorem d11_35 : decode jdk_68_method_22_code 35 = .ok (.getfield 79, 3) := by decide +kernel
theorem d11_38 : decode jdk_68_method_22_code 38 = .ok (.iload_n 2, 1) := by decide +kernel
theorem d11_39 : decode jdk_68_method_22_code 39 = .ok (.iadd, 1) := by decide +kernel
theorem d11_40 : decode jdk_68_method_22_code 40 = .ok (.putfield 79, 3) := by decide +kernel
theorem d11_43 : decode jdk_68_method_22_code 43 = .ok (.aload_n 0, 1) := by decide +kernel
theorem d11_44 : decode jdk_68_method_22_code 44 = .ok (.areturn, 1) := by decide +kernel
theorem pn_11 : plainName "java/lang/AbstractStringBuilder" = true := by first | (simp [plainName, overriddenIn]; done) | decide +kernel
theorem pd___I : parseMethodDescriptor "()I" = some ⟨[], some .int⟩ := by decide +kernel
theorem pd__I_V : parseMethodDescriptor "(I)V" = some ⟨[.int], none⟩ := by decide +kernel
theorem pd__ILjava_lang_String__V : parseMethodDescriptor "(ILjava/lang/String;)V" = some ⟨[.int, (.object "java/lang/String")], none⟩ := by decide +kernel
theorem ef_11 (m : MethodId) (a1 : Addr) (a2 : Addr) : entryFrame m #[(.ref a1), (.ref a2)] 3 = (mkF m 0 #[.val (.ref a1), .val (.ref a2), .unset] []) := by first | (simp [entryFrame, mkF, argsToLocals, Value.category]; done) | rfl
def Q11 (Z : State) (a1 : Addr) (a2 : Addr) (t : Addr) (kd : ClassId) (cs : List Int32) (ds : List Int32) (r : Nat) (G1 : Int32) (h0 : Heap) (n0 : Nat) (v : Option Value) (h : Heap) (L : List Loc) : Prop := v = some (.ref a1) ∧ Fr n0 L ∧ Keep h0 h [a1, t] ∧ own_sb Z h a1 t kd (cs ++ ds) (r - ds.length)
set_option maxRecDepth 65536 in
set_option maxHeartbeats 40000000 in
theorem rm11 (l : Launch) (Z : State) (a0 : Array Value) (hw : ∀ d ∈ tables_1, d.before a0 Z = true) (ws : List Jvm.Cond) (a1 : Addr) (a2 : Addr) (t : Addr) (kd : ClassId) (cs : List Int32) (ds : List Int32) (r : Nat) (G1 : Int32) (h0 : Heap) (n0 : Nat) (Z0 : n0 ≤ h0.size) (OLD0 : Old Z n0 h0) (SCS : Sta Z Z.heap "java/lang/String" "COMPACT_STRINGS" "Z" (.int G1)) (P5 : ¬ (G1 = (0 : Int32))) (g_a1 : n0 ≤ a1) (g_t : n0 ≤ t) (SBh : own_sb Z h0 a1 t kd cs r) (XSt : own_str Z h0 a2 ds) (hcs : ∀ c ∈ ds, own_c255 c) (hm : ds.length ≤ 4000) (hrr : ds.length ≤ r) (hcr : cs.length + r ≤ 4000) :
    MetFree l (⟨"java/lang/AbstractStringBuilder", "append", "(Ljava/lang/String;)Ljava/lang/AbstractStringBuilder;"⟩ : MethodName) (head1 (Jvm.Cond.code (⟨"java/lang/AbstractStringBuilder", "append", "(Ljava/lang/String;)Ljava/lang/AbstractStringBuilder;"⟩ : MethodName) jdk_68_method_22_code 3 (some (.object "java/lang/AbstractStringBuilder")) :: ws) ({ frames := 3, cells := 0, slots := 0, locals := 47 } : Room)) (fun a U => a = #[(.ref a1), (.ref a2)] ∧ Z.Warmed39 U.vm ∧ U.heap = h0) (fun _ _ _ _ _ => True) (fun _ U o U' => ∃ v L, o = .returned v ∧ Q11 Z a1 a2 t kd cs ds r G1 h0 n0 v U'.heap L ∧ FrameEnd U o U' L ({ frames := 3, cells := 0, slots := 0, locals := 47 } : Room).cells ({ frames := 3, cells := 0, slots := 0, locals := 47 } : Room).slots) := by
  refine MetFree.of_bodySF (plainFor_of_name pn_11) hisR ?_
  intro p e s m args below meth c s₁ Bd hml0 hP hK
  obtain ⟨rfl, hZ, hh⟩ := hP
  have hx := Bd.exec
  have hby := Bd.bytes
  have hml : c.maxLocals = 3 := hml0
  have hown : s.vm.findClass "java/lang/AbstractStringBuilder" = some m.cls := findClass_of_methodNamed Bd.named
  have hnm := (name_of_methodNamed Bd.named Bd.method).1
  have X0 : Stand p l e ({ frames := 3, cells := 0, slots := 0, locals := 47 } : Room) s m #[(.ref a1), (.ref a2)] below meth c s₁ [] 0 0 := Stand.of_body Bd
  have e0 : s₁.heap = h0 := by rw [← hh, Bd.state]; rfl
  have N0 := Fr.nil n0
  have K0 := Keep.refl h0 ([a1, t] : List Addr)
  have pre0 : ∀ t, Steps p.tables e below (s₁.setTop (mkF m 0 #[.val (.ref a1), .val (.ref a2), .unset] [])) t → Steps p.tables e below (s₁.setTop (entryFrame m #[(.ref a1), (.ref a2)] 3)) t := fun t k => castTop (ef_11 m a1 a2) k
  obtain ⟨E_a1, Gv_a1, Gc_a1, Gn_a1, Vd⟩ := id SBh
  obtain ⟨u, ku, E_a2, Fc_a2, Fv_a2, Va_a2⟩ := id XSt
  have nta : t ≠ a1 := Ne.symm (E_a1.neArv Vd (hw _ (List.mem_of_getElem? (i := 40) rfl)))
  have OL2 : Old Z n0 h0 := OLD0.keep K0 (allS g_a1 (allS g_t all0))
  obtain ⟨cq1, kq1, q1a, q1b, q1c⟩ := isOf hZ e0 E_a2
  obtain ⟨_, _, ⟨T1, L1, k1, n1⟩, -, X1, ⟨Lc1, hQ1, l1, y1, z1⟩, st1⟩ := X0.virtualBack hx (y := (⟨"java/lang/String", "length", "()I"⟩ : MethodName)) (z := (⟨"java/lang/String", "length", "()I"⟩ : MethodName)) hown (mvT hZ (hw _ (List.mem_of_getElem? (i := 68) rfl))) (mvT hZ (hw _ (List.mem_of_getElem? (i := 69) rfl))) (notFace_of_selects (args := #[]) (mvT hZ (hw _ (List.mem_of_getElem? (i := 71) rfl)))) (mvT hZ (hw _ (List.mem_of_getElem? (i := 71) rfl))) (mvT hZ (hw _ (List.mem_of_getElem? (i := 70) rfl))) (by decide) (StrChars.Road.lenW (W := 0) hZ (hwsL a0 Z hw) (kI := 4) (hw _ (List.mem_of_getElem? (i := 2) rfl)) E_a2 Fv_a2 Fc_a2 Va_a2 (StrChars.Road.codOf rfl (fun c hc => (hcs c hc).2)) (own_up hcs) (SCS.ext OL2.2) P5 hm (by decide) (by decide)) q1a q1c (g := (mkF m 10 #[.val (.ref a1), .val (.ref a2), .unset] [(.ref a2)])) rfl (by rw [hml]; rfl) (Steps.refl _) (argsL := []) (rest := []) (lenOf pd___I rfl) rfl (by show 2 * 0 + _ ≤ _; exact Nat.le_of_eq rfl) (hb hby d11_10) (fun _ _ => ⟨rfl, e0, (by decide : 0 + 0 ≤ _), (by decide : 0 + 0 ≤ _)⟩)
  dsimp only [Pt.U, Pt.locs, Pt.cells, Pt.slots] at X1 l1 y1 z1 st1 hQ1
  subst l1 y1 z1
  obtain ⟨rfl, rfl, hq1⟩ := hQ1
  try rw [List.append_nil] at X1
  have E1 : Ext h0 T1.heap := by rw [hq1]; exact ⟨Nat.le_refl _, fun _ _ q => q⟩
  have K1 := K0.ext E1
  have c3 := (Gn_a1.ext E1)
  obtain ⟨T4, X4, e4, st4⟩ := getF X1 hx hZ hown (host := "") (Or.inl (hw _ (List.mem_of_getElem? (i := 78) rfl))) Via.refl rfl c3 (g := (mkF m 16 #[.val (.ref a1), .val (.ref a2), .val (.int (Int32.ofNat ds.length))] [(.ref a1), (.ref a1)])) rfl rfl (hb hby d11_16)
  have c6 := (E_a1.ext E1)
  have c7 := (Gv_a1.ext E1)
  have c8 := (Gc_a1.ext E1)
  have c9 := (Vd.ext E1)
  obtain ⟨cq5, kq5, q5a, q5b, q5c⟩ := isOf hZ e4 c6
  obtain ⟨_, _, ⟨T5, L5, k5, n5⟩, -, X5, ⟨Lc5, hQ5, l5, y5, z5⟩, st5⟩ := X4.virtualBack hx (y := (⟨"java/lang/AbstractStringBuilder", "ensureCapacityInternal", "(I)V"⟩ : MethodName)) (z := (⟨"java/lang/AbstractStringBuilder", "ensureCapacityInternal", "(I)V"⟩ : MethodName)) hown (mvT hZ (hw _ (List.mem_of_getElem? (i := 80) rfl))) (mvT hZ (own_decl (hw _ (List.mem_of_getElem? (i := 81) rfl)) (hw _ (List.mem_of_getElem? (i := 84) rfl)))) (notFace_of_selects (args := #[]) (mvT hZ (hw _ (List.mem_of_getElem? (i := 83) rfl)))) (mvT hZ (hw _ (List.mem_of_getElem? (i := 83) rfl))) (mvT hZ (hw _ (List.mem_of_getElem? (i := 81) rfl))) (by decide) (backOf (W := 0) (rm14 l Z a0 hw [] a1 ((Int32.ofNat cs.length) + (Int32.ofNat ds.length)) t kd (Int32.ofNat (own_P cs r).length) (own_P cs r) T1.heap n0 (Nat.le_trans Z0 K1.1) c6 c7 c8 c9 (by rw [own_Pl]; exact own_le hrr hcr)) hZ (hw _ (List.mem_of_getElem? (i := 84) rfl)) (hw _ (List.mem_of_getElem? (i := 49) rfl)) (by decide) (by decide)) q5a q5c (g := (mkF m 21 #[.val (.ref a1), .val (.ref a2), .val (.int (Int32.ofNat ds.length))] [(.int ((Int32.ofNat cs.length) + (Int32.ofNat ds.length))), (.ref a1)])) rfl (by rw [hml]; rfl) (Steps.refl _) (argsL := [(.int ((Int32.ofNat cs.length) + (Int32.ofNat ds.length)))]) (rest := []) (lenOf pd__I_V rfl) rfl (by show 2 * 0 + _ ≤ _; exact Nat.le_of_eq rfl) (hb hby d11_21) (fun _ _ => ⟨rfl, e4, (by decide : 0 + 0 ≤ _), (by decide : 0 + 0 ≤ _)⟩)
  dsimp only [Pt.U, Pt.locs, Pt.cells, Pt.slots] at X5 l5 y5 z5 st5 hQ5
  subst l5 y5 z5
  obtain ⟨rfl, N5q, hq5⟩ := hQ5
  have N5 := Fr.app N0 N5q
  have E5 : Ext T1.heap T5.heap := by rw [hq5]; exact ⟨Nat.le_refl _, fun _ _ q => q⟩
  have K5 := K1.ext E5
  have c10 := (c3.ext E5)
  obtain ⟨T11, X11, e11, st11⟩ := getF X5 hx hZ hown (host := "") (Or.inl (hw _ (List.mem_of_getElem? (i := 78) rfl))) Via.refl rfl c10 (g := (mkF m 26 #[.val (.ref a1), .val (.ref a2), .val (.int (Int32.ofNat ds.length))] [(.ref a1), (.ref a1)])) rfl rfl (hb hby d11_26)
  have OL13 : Old Z n0 T5.heap := OLD0.keep K5 (allS g_a1 (allS g_t all0))
  have c14 := (c6.ext E5)
  have c15 := (c7.ext E5)
  have c16 := (c8.ext E5)
  have c17 := ((E_a2.ext E1).ext E5)
  have c18 := ((Fc_a2.ext E1).ext E5)
  have c19 := ((Fv_a2.ext E1).ext E5)
  have c20 := ((Va_a2.ext E1).ext E5)
  have c21 := (c9.ext E5)
  obtain ⟨cq12, kq12, q12a, q12b, q12c⟩ := isOf hZ e11 c14
  obtain ⟨_, _, ⟨T12, L12, k12, n12⟩, -, X12, ⟨Lc12, hQ12, l12, y12, z12⟩, st12⟩ := X11.virtualBack hx (y := (⟨"java/lang/AbstractStringBuilder", "putStringAt", "(ILjava/lang/String;)V"⟩ : MethodName)) (z := (⟨"java/lang/AbstractStringBuilder", "putStringAt", "(ILjava/lang/String;)V"⟩ : MethodName)) hown (mvT hZ (hw _ (List.mem_of_getElem? (i := 111) rfl))) (mvT hZ (own_decl (hw _ (List.mem_of_getElem? (i := 112) rfl)) (hw _ (List.mem_of_getElem? (i := 115) rfl)))) (notFace_of_selects (args := #[]) (mvT hZ (hw _ (List.mem_of_getElem? (i := 114) rfl)))) (mvT hZ (hw _ (List.mem_of_getElem? (i := 114) rfl))) (mvT hZ (hw _ (List.mem_of_getElem? (i := 112) rfl))) (by decide) (backOf (W := 0) (rm20 l Z a0 hw [] a1 (Int32.ofNat cs.length) a2 t u ku ds kd (own_P cs r) cs.length G1 T5.heap n0 (Nat.le_trans Z0 K5.1) OL13 SCS P5 g_t c14 c15 c16 c17 c18 c19 c20 c21 (by rw [own_Pl]; exact hcr) (by rw [own_Pl]; omega) rfl) hZ (hw _ (List.mem_of_getElem? (i := 115) rfl)) (hw _ (List.mem_of_getElem? (i := 49) rfl)) (by decide) (by decide)) q12a q12c (g := (mkF m 30 #[.val (.ref a1), .val (.ref a2), .val (.int (Int32.ofNat ds.length))] [(.ref a2), (.int (Int32.ofNat cs.length)), (.ref a1)])) rfl (by rw [hml]; rfl) (Steps.refl _) (argsL := [(.int (Int32.ofNat cs.length)), (.ref a2)]) (rest := []) (lenOf pd__ILjava_lang_String__V rfl) rfl (by show 2 * 0 + _ ≤ _; exact Nat.le_of_eq rfl) (hb hby d11_30) (fun _ _ => ⟨rfl, e11, (by decide : 0 + 0 ≤ _), (by decide : 0 + 0 ≤ _)⟩)
  dsimp only [Pt.U, Pt.locs, Pt.cells, Pt.slots] at X12 l12 y12 z12 st12 hQ12
  subst l12 y12 z12
  obtain ⟨rfl, N12q, kq12, vt12⟩ := hQ12
  have N12 := Fr.app N5 N12q
  have K12 := K5.trans kq12 (allS (Or.inl (List.mem_of_getElem? (i := 1) rfl)) all0)
  have c22 := (c10.keep kq12 (ninS (Ne.symm nta) nin0))
  obtain ⟨T23, X23, e23, st23⟩ := getF X12 hx hZ hown (host := "") (Or.inl (hw _ (List.mem_of_getElem? (i := 78) rfl))) Via.refl rfl c22 (g := (mkF m 35 #[.val (.ref a1), .val (.ref a2), .val (.int (Int32.ofNat ds.length))] [(.ref a1), (.ref a1)])) rfl rfl (hb hby d11_35)
  have c24 := (c14.keep kq12)
  obtain ⟨T25, h25, X25, e25, W25, st25⟩ := putF X23 hx hZ hown (host := "") (Or.inl (hw _ (List.mem_of_getElem? (i := 78) rfl))) Via.refl e23 c22 c24 (Or.inl (hw _ (List.mem_of_getElem? (i := 79) rfl))) (hw _ (List.mem_of_getElem? (i := 40) rfl)) (ty := .int) (by decide) rfl rfl (g := (mkF m 40 #[.val (.ref a1), .val (.ref a2), .val (.int (Int32.ofNat ds.length))] [(.int ((Int32.ofNat cs.length) + (Int32.ofNat ds.length))), (.ref a1)])) rfl rfl (hb hby d11_40)
  have Fw25 := c22.same W25
  have K25 := K12.wr W25 (Or.inl (List.mem_of_getElem? (i := 0) rfl))
  have N25 := Fr.snoc X25 N12 g_a1
  have c26 := (vt12.other W25 nta)
  have c27 := (c24.wr W25)
  have c28 := ((c15.keep kq12 (ninS (Ne.symm nta) nin0)).other W25 (Or.inr (slot_ne (Or.inl (hw _ (List.mem_of_getElem? (i := 54) rfl))) (Or.inl (hw _ (List.mem_of_getElem? (i := 79) rfl))) (by decide) (t := (.array .byte)) (t' := .int) (by decide) (by decide))))
  have c29 := ((c16.keep kq12 (ninS (Ne.symm nta) nin0)).other W25 (Or.inr (slot_ne (Or.inl (hw _ (List.mem_of_getElem? (i := 56) rfl))) (Or.inl (hw _ (List.mem_of_getElem? (i := 79) rfl))) (by decide) (t := .byte) (t' := .int) (by decide) (by decide))))
  obtain ⟨fs, hr, hrun, hended, hW, hsame⟩ := X25.leave (v := some (.ref a1)) (fun h => by rw [Bd.returns] at h; cases h)
  refine ⟨_, _, pre0 _ ?_, hrun, hended, _, _, rfl, ?_, ⟨_, rfl⟩, hW, hsame.mono (by decide) (by decide)⟩
  ·
    show Steps p.tables e below (s₁.setTop (mkF m 0 #[.val (.ref a1), .val (.ref a2), .unset] [])) _
    refine XS.aloadN X0.here hx rfl (hb hby d11_0) rfl rfl ?_
    show Steps p.tables e below (s₁.setTop (mkF m 1 #[.val (.ref a1), .val (.ref a2), .unset] [(.ref a2)])) _
    refine XS.ifnonnullYes X0.here hx rfl (pc0 := 1) (pc' := 9) rfl (hb hby d11_1) rfl (by decide) (by decide) ?_
    show Steps p.tables e below (s₁.setTop (mkF m 9 #[.val (.ref a1), .val (.ref a2), .unset] [])) _
    refine XS.aloadN X0.here hx rfl (hb hby d11_9) rfl rfl ?_
    show Steps p.tables e below (s₁.setTop (mkF m 10 #[.val (.ref a1), .val (.ref a2), .unset] [(.ref a2)])) _
    refine st1.trans ?_
    show Steps p.tables e below (T1.setTop (mkF m 13 #[.val (.ref a1), .val (.ref a2), .unset] [(.int (Int32.ofNat ds.length))])) _
    refine XS.istoreN X1.here hx rfl (hb hby d11_13) rfl (l' := #[.val (.ref a1), .val (.ref a2), .val (.int (Int32.ofNat ds.length))]) rfl ?_
    show Steps p.tables e below (T1.setTop (mkF m 14 #[.val (.ref a1), .val (.ref a2), .val (.int (Int32.ofNat ds.length))] [])) _
    refine XS.aloadN X1.here hx rfl (hb hby d11_14) rfl rfl ?_
    show Steps p.tables e below (T1.setTop (mkF m 15 #[.val (.ref a1), .val (.ref a2), .val (.int (Int32.ofNat ds.length))] [(.ref a1)])) _
    refine XS.aloadN X1.here hx rfl (hb hby d11_15) rfl rfl ?_
    show Steps p.tables e below (T1.setTop (mkF m 16 #[.val (.ref a1), .val (.ref a2), .val (.int (Int32.ofNat ds.length))] [(.ref a1), (.ref a1)])) _
    refine st4 _ ?_
    show Steps p.tables e below (T4.setTop (mkF m 19 #[.val (.ref a1), .val (.ref a2), .val (.int (Int32.ofNat ds.length))] [(.int (Int32.ofNat cs.length)), (.ref a1)])) _
    refine XS.iloadN X4.here hx rfl (hb hby d11_19) rfl ?_
    show Steps p.tables e below (T4.setTop (mkF m 20 #[.val (.ref a1), .val (.ref a2), .val (.int (Int32.ofNat ds.length))] [(.int (Int32.ofNat ds.length)), (.int (Int32.ofNat cs.length)), (.ref a1)])) _
    refine XS.iadd X4.here hx rfl (hb hby d11_20) rfl ?_
    show Steps p.tables e below (T4.setTop (mkF m 21 #[.val (.ref a1), .val (.ref a2), .val (.int (Int32.ofNat ds.length))] [(.int ((Int32.ofNat cs.length) + (Int32.ofNat ds.length))), (.ref a1)])) _
    refine st5.trans ?_
    show Steps p.tables e below (T5.setTop (mkF m 24 #[.val (.ref a1), .val (.ref a2), .val (.int (Int32.ofNat ds.length))] [])) _
    refine XS.aloadN X5.here hx rfl (hb hby d11_24) rfl rfl ?_
    show Steps p.tables e below (T5.setTop (mkF m 25 #[.val (.ref a1), .val (.ref a2), .val (.int (Int32.ofNat ds.length))] [(.ref a1)])) _
    refine XS.aloadN X5.here hx rfl (hb hby d11_25) rfl rfl ?_
    show Steps p.tables e below (T5.setTop (mkF m 26 #[.val (.ref a1), .val (.ref a2), .val (.int (Int32.ofNat ds.length))] [(.ref a1), (.ref a1)])) _
    refine st11 _ ?_
    show Steps p.tables e below (T11.setTop (mkF m 29 #[.val (.ref a1), .val (.ref a2), .val (.int (Int32.ofNat ds.length))] [(.int (Int32.ofNat cs.length)), (.ref a1)])) _
    refine XS.aloadN X11.here hx rfl (hb hby d11_29) rfl rfl ?_
    show Steps p.tables e below (T11.setTop (mkF m 30 #[.val (.ref a1), .val (.ref a2), .val (.int (Int32.ofNat ds.length))] [(.ref a2), (.int (Int32.ofNat cs.length)), (.ref a1)])) _
    refine st12.trans ?_
    show Steps p.tables e below (T12.setTop (mkF m 33 #[.val (.ref a1), .val (.ref a2), .val (.int (Int32.ofNat ds.length))] [])) _
    refine XS.aloadN X12.here hx rfl (hb hby d11_33) rfl rfl ?_
    show Steps p.tables e below (T12.setTop (mkF m 34 #[.val (.ref a1), .val (.ref a2), .val (.int (Int32.ofNat ds.length))] [(.ref a1)])) _
    refine XS.dup X12.here hx rfl (hb hby d11_34) rfl rfl ?_
    show Steps p.tables e below (T12.setTop (mkF m 35 #[.val (.ref a1), .val (.ref a2), .val (.int (Int32.ofNat ds.length))] [(.ref a1), (.ref a1)])) _
    refine st23 _ ?_
    show Steps p.tables e below (T23.setTop (mkF m 38 #[.val (.ref a1), .val (.ref a2), .val (.int (Int32.ofNat ds.length))] [(.int (Int32.ofNat cs.length)), (.ref a1)])) _
    refine XS.iloadN X23.here hx rfl (hb hby d11_38) rfl ?_
    show Steps p.tables e below (T23.setTop (mkF m 39 #[.val (.ref a1), .val (.ref a2), .val (.int (Int32.ofNat ds.length))] [(.int (Int32.ofNat ds.length)), (.int (Int32.ofNat cs.length)), (.ref a1)])) _
    refine XS.iadd X23.here hx rfl (hb hby d11_39) rfl ?_
    show Steps p.tables e below (T23.setTop (mkF m 40 #[.val (.ref a1), .val (.ref a2), .val (.int (Int32.ofNat ds.length))] [(.int ((Int32.ofNat cs.length) + (Int32.ofNat ds.length))), (.ref a1)])) _
    refine st25 _ ?_
    show Steps p.tables e below (T25.setTop (mkF m 43 #[.val (.ref a1), .val (.ref a2), .val (.int (Int32.ofNat ds.length))] [])) _
    refine XS.aloadN X25.here hx rfl (hb hby d11_43) rfl rfl ?_
    show Steps p.tables e below (T25.setTop (mkF m 44 #[.val (.ref a1), .val (.ref a2), .val (.int (Int32.ofNat ds.length))] [(.ref a1)])) _
    jvm_step X25.here [X25.here.top, hx, (hb hby d11_44), X25.method', Bd.returns, Value.isRef, FieldType.isReference]
    first | (intro acts; rw [hr _ acts rfl rfl rfl]) | rw [hr _ _ rfl rfl rfl]
    exact Steps.refl _
  ·
    show Q11 Z a1 a2 t kd cs ds r G1 h0 n0 _ T25.heap _
    rw [e25]
    exact ⟨rfl, N25, K25, ⟨c27, c28, c29, by rw [List.length_append, Int32.ofNat_add]; exact Fw25, by have q := c26; rw [own_put hrr] at q; rw [own_Pl] at q ⊢; rw [List.length_append, show cs.length + ds.length + (r - ds.length) = cs.length + r by omega]; exact q⟩⟩
theorem ef_rmAG (m : MethodId) (a1 : Addr) (a2 : Addr) : entryFrame m #[(.ref a1), (.ref a2)] 3 = (mkF m 0 #[.val (.ref a1), .val (.ref a2), .unset] []) := by first | (simp [entryFrame, mkF, argsToLocals, Value.category]; done) | rfl
def QrmAG (Z : State) (a1 : Addr) (a2 : Addr) (t : Addr) (kd : ClassId) (ds : List Int32) (G1 : Int32) (h0 : Heap) (n0 : Nat) (v : Option Value) (h : Heap) (L : List Loc) : Prop := ∃ (b : Addr) (k : ClassId), v = some (.ref a1) ∧ Fr n0 L ∧ Keep h0 h [a1] ∧ n0 ≤ b ∧ h0.size ≤ b ∧ own_sb Z h a1 b k ds 17
set_option maxRecDepth 65536 in
set_option maxHeartbeats 40000000 in
theorem rmAG (l : Launch) (Z : State) (a0 : Array Value) (hw : ∀ d ∈ tables_1, d.before a0 Z = true) (ws : List Jvm.Cond) (a1 : Addr) (a2 : Addr) (t : Addr) (kd : ClassId) (ds : List Int32) (G1 : Int32) (h0 : Heap) (n0 : Nat) (Z0 : n0 ≤ h0.size) (OLD0 : Old Z n0 h0) (SCS : Sta Z Z.heap "java/lang/String" "COMPACT_STRINGS" "Z" (.int G1)) (P5 : ¬ (G1 = (0 : Int32))) (g_a1 : n0 ≤ a1) (SBh : own_sb Z h0 a1 t kd [] 16) (XSt : own_str Z h0 a2 ds) (hcs : ∀ c ∈ ds, own_c255 c) (hm : ds.length = 17) :
    MetFree l (⟨"java/lang/AbstractStringBuilder", "append", "(Ljava/lang/String;)Ljava/lang/AbstractStringBuilder;"⟩ : MethodName) (head1 (Jvm.Cond.code (⟨"java/lang/AbstractStringBuilder", "append", "(Ljava/lang/String;)Ljava/lang/AbstractStringBuilder;"⟩ : MethodName) jdk_68_method_22_code 3 (some (.object "java/lang/AbstractStringBuilder")) :: ws) ({ frames := 4, cells := 1, slots := 34, locals := 62 } : Room)) (fun a U => a = #[(.ref a1), (.ref a2)] ∧ Z.Warmed39 U.vm ∧ U.heap = h0) (fun _ _ _ _ _ => True) (fun _ U o U' => ∃ v L, o = .returned v ∧ QrmAG Z a1 a2 t kd ds G1 h0 n0 v U'.heap L ∧ FrameEnd U o U' L ({ frames := 4, cells := 1, slots := 34, locals := 62 } : Room).cells ({ frames := 4, cells := 1, slots := 34, locals := 62 } : Room).slots) := by
  refine MetFree.of_bodySF (plainFor_of_name pn_11) hisR ?_
  intro p e s m args below meth c s₁ Bd hml0 hP hK
  obtain ⟨rfl, hZ, hh⟩ := hP
  have hx := Bd.exec
  have hby := Bd.bytes
  have hml : c.maxLocals = 3 := hml0
  have hown : s.vm.findClass "java/lang/AbstractStringBuilder" = some m.cls := findClass_of_methodNamed Bd.named
  have hnm := (name_of_methodNamed Bd.named Bd.method).1
  have X0 : Stand p l e ({ frames := 4, cells := 1, slots := 34, locals := 62 } : Room) s m #[(.ref a1), (.ref a2)] below meth c s₁ [] 0 0 := Stand.of_body Bd
  have e0 : s₁.heap = h0 := by rw [← hh, Bd.state]; rfl
  have N0 := Fr.nil n0
  have K0 := Keep.refl h0 ([a1] : List Addr)
  have pre0 : ∀ t, Steps p.tables e below (s₁.setTop (mkF m 0 #[.val (.ref a1), .val (.ref a2), .unset] [])) t → Steps p.tables e below (s₁.setTop (entryFrame m #[(.ref a1), (.ref a2)] 3)) t := fun t k => castTop (ef_rmAG m a1 a2) k
  obtain ⟨E_a1, Gv_a1, Gc_a1, Gn_a1, Vd⟩ := id SBh
  obtain ⟨u, ku, E_a2, Fc_a2, Fv_a2, Va_a2⟩ := id XSt
  have nta : t ≠ a1 := Ne.symm (E_a1.neArv Vd (hw _ (List.mem_of_getElem? (i := 40) rfl)))
  have nua : u ≠ a1 := Ne.symm (E_a1.neArv Va_a2 (hw _ (List.mem_of_getElem? (i := 40) rfl)))
  have n2a : a2 ≠ a1 := E_a2.ne E_a1 (by decide)
  have OL2 : Old Z n0 h0 := OLD0.keep K0 (allS g_a1 all0)
  obtain ⟨cq1, kq1, q1a, q1b, q1c⟩ := isOf hZ e0 E_a2
  obtain ⟨_, _, ⟨T1, L1, k1, n1⟩, -, X1, ⟨Lc1, hQ1, l1, y1, z1⟩, st1⟩ := X0.virtualBack hx (y := (⟨"java/lang/String", "length", "()I"⟩ : MethodName)) (z := (⟨"java/lang/String", "length", "()I"⟩ : MethodName)) hown (mvT hZ (hw _ (List.mem_of_getElem? (i := 68) rfl))) (mvT hZ (hw _ (List.mem_of_getElem? (i := 69) rfl))) (notFace_of_selects (args := #[]) (mvT hZ (hw _ (List.mem_of_getElem? (i := 71) rfl)))) (mvT hZ (hw _ (List.mem_of_getElem? (i := 71) rfl))) (mvT hZ (hw _ (List.mem_of_getElem? (i := 70) rfl))) (by decide) (StrChars.Road.lenW (W := 0) hZ (hwsL a0 Z hw) (kI := 4) (hw _ (List.mem_of_getElem? (i := 2) rfl)) E_a2 Fv_a2 Fc_a2 Va_a2 (StrChars.Road.codOf rfl (fun c hc => (hcs c hc).2)) (own_up hcs) (SCS.ext OL2.2) P5 (by rw [hm]; decide) (by decide) (by decide)) q1a q1c (g := (mkF m 10 #[.val (.ref a1), .val (.ref a2), .unset] [(.ref a2)])) rfl (by rw [hml]; rfl) (Steps.refl _) (argsL := []) (rest := []) (lenOf pd___I rfl) rfl (by show 2 * 0 + _ ≤ _; exact Nat.le_of_eq rfl) (hb hby d11_10) (fun _ _ => ⟨rfl, e0, (by decide : 0 + 0 ≤ _), (by decide : 0 + 0 ≤ _)⟩)
  dsimp only [Pt.U, Pt.locs, Pt.cells, Pt.slots] at X1 l1 y1 z1 st1 hQ1
  subst l1 y1 z1
  obtain ⟨rfl, rfl, hq1⟩ := hQ1
  try rw [List.append_nil] at X1
  have E1 : Ext h0 T1.heap := by rw [hq1]; exact ⟨Nat.le_refl _, fun _ _ q => q⟩
  have K1 := K0.ext E1
  have c3 := (Gn_a1.ext E1)
  obtain ⟨T4, X4, e4, st4⟩ := getF X1 hx hZ hown (host := "") (Or.inl (hw _ (List.mem_of_getElem? (i := 78) rfl))) Via.refl rfl c3 (g := (mkF m 16 #[.val (.ref a1), .val (.ref a2), .val (.int (Int32.ofNat ds.length))] [(.ref a1), (.ref a1)])) rfl rfl (hb hby d11_16)
  have c6 := (E_a1.ext E1)
  have c7 := (Gv_a1.ext E1)
  have c8 := (Gc_a1.ext E1)
  have c9 := (Vd.ext E1)
  have c10 := (E_a2.ext E1)
  have c11 := (Fc_a2.ext E1)
  have c12 := (Fv_a2.ext E1)
  have c13 := (Va_a2.ext E1)
  obtain ⟨cq5, kq5, q5a, q5b, q5c⟩ := isOf hZ e4 c6
  obtain ⟨_, _, ⟨T5, L5, k5, n5⟩, -, X5, ⟨Lc5, hQ5, l5, y5, z5⟩, st5⟩ := X4.virtualBack hx (y := (⟨"java/lang/AbstractStringBuilder", "ensureCapacityInternal", "(I)V"⟩ : MethodName)) (z := (⟨"java/lang/AbstractStringBuilder", "ensureCapacityInternal", "(I)V"⟩ : MethodName)) hown (mvT hZ (hw _ (List.mem_of_getElem? (i := 80) rfl))) (mvT hZ (own_decl (hw _ (List.mem_of_getElem? (i := 81) rfl)) (hw _ (List.mem_of_getElem? (i := 84) rfl)))) (notFace_of_selects (args := #[]) (mvT hZ (hw _ (List.mem_of_getElem? (i := 83) rfl)))) (mvT hZ (hw _ (List.mem_of_getElem? (i := 83) rfl))) (mvT hZ (hw _ (List.mem_of_getElem? (i := 81) rfl))) (by decide) (backOf (W := 0) (rmEG l Z a0 hw [] a1 ((0 : Int32) + (Int32.ofNat ds.length)) t kd (16 : Int32) (0 : Int32) T1.heap n0 (Nat.le_trans Z0 K1.1) g_a1 c6 c7 c8 c3 c9 ⟨by rw [hm]; decide, rfl⟩) hZ (hw _ (List.mem_of_getElem? (i := 84) rfl)) (hw _ (List.mem_of_getElem? (i := 49) rfl)) (by decide) (by decide)) q5a q5c (g := (mkF m 21 #[.val (.ref a1), .val (.ref a2), .val (.int (Int32.ofNat ds.length))] [(.int ((0 : Int32) + (Int32.ofNat ds.length))), (.ref a1)])) rfl (by rw [hml]; rfl) (Steps.refl _) (argsL := [(.int ((0 : Int32) + (Int32.ofNat ds.length)))]) (rest := []) (lenOf pd__I_V rfl) rfl (by show 2 * 0 + _ ≤ _; exact Nat.le_of_eq rfl) (hb hby d11_21) (fun _ _ => ⟨rfl, e4, (by decide : 0 + 1 ≤ _), (by decide : 0 + 34 ≤ _)⟩)
  dsimp only [Pt.U, Pt.locs, Pt.cells, Pt.slots] at X5 l5 y5 z5 st5 hQ5
  subst l5 y5 z5
  obtain ⟨b5, kb5, rfl, N5q, kq5, gg5, u5, vz5, fv5, fc5, fn5⟩ := hQ5
  have N5 := Fr.app N0 N5q
  have K5 := K1.trans kq5 (allS (Or.inl (List.mem_of_getElem? (i := 0) rfl)) all0)
  have sz_b5 : h0.size ≤ b5 := Nat.le_trans K1.1 u5
  have g_b5 := gg5
  have ne_a1_b5 : a1 ≠ b5 := Nat.ne_of_lt (Nat.lt_of_lt_of_le c3.lt u5)
  have ne_t_b5 : t ≠ b5 := Nat.ne_of_lt (Nat.lt_of_lt_of_le c9.lt u5)
  have ne_a2_b5 : a2 ≠ b5 := Nat.ne_of_lt (Nat.lt_of_lt_of_le c12.lt u5)
  have ne_u_b5 : u ≠ b5 := Nat.ne_of_lt (Nat.lt_of_lt_of_le c13.lt u5)
  have va5 : Arv Z T5.heap b5 kb5 .byte (Int32.ofNat (own_P [] 34).length) (own_P [] 34) (.int (0 : Int32)) := vz5
  obtain ⟨T14, X14, e14, st14⟩ := getF X5 hx hZ hown (host := "") (Or.inl (hw _ (List.mem_of_getElem? (i := 78) rfl))) Via.refl rfl fn5 (g := (mkF m 26 #[.val (.ref a1), .val (.ref a2), .val (.int (Int32.ofNat ds.length))] [(.ref a1), (.ref a1)])) rfl rfl (hb hby d11_26)
  have OL16 : Old Z n0 T5.heap := OLD0.keep K5 (allS g_a1 all0)
  have c17 := (c6.keep kq5)
  have c18 := (c10.keep kq5)
  have c19 := (c11.keep kq5 (ninS n2a nin0))
  have c20 := (c12.keep kq5 (ninS n2a nin0))
  have c21 := (c13.keep kq5 (ninS nua nin0))
  obtain ⟨cq15, kq15, q15a, q15b, q15c⟩ := isOf hZ e14 c17
  obtain ⟨_, _, ⟨T15, L15, k15, n15⟩, -, X15, ⟨Lc15, hQ15, l15, y15, z15⟩, st15⟩ := X14.virtualBack hx (y := (⟨"java/lang/AbstractStringBuilder", "putStringAt", "(ILjava/lang/String;)V"⟩ : MethodName)) (z := (⟨"java/lang/AbstractStringBuilder", "putStringAt", "(ILjava/lang/String;)V"⟩ : MethodName)) hown (mvT hZ (hw _ (List.mem_of_getElem? (i := 111) rfl))) (mvT hZ (own_decl (hw _ (List.mem_of_getElem? (i := 112) rfl)) (hw _ (List.mem_of_getElem? (i := 115) rfl)))) (notFace_of_selects (args := #[]) (mvT hZ (hw _ (List.mem_of_getElem? (i := 114) rfl)))) (mvT hZ (hw _ (List.mem_of_getElem? (i := 114) rfl))) (mvT hZ (hw _ (List.mem_of_getElem? (i := 112) rfl))) (by decide) (backOf (W := 0) (rm20 l Z a0 hw [] a1 (0 : Int32) a2 b5 u ku ds kb5 (own_P [] 34) 0 G1 T5.heap n0 (Nat.le_trans Z0 K5.1) OL16 SCS P5 g_b5 c17 fv5 fc5 c18 c19 c20 c21 va5 (by decide) (by rw [hm]; decide) rfl) hZ (hw _ (List.mem_of_getElem? (i := 115) rfl)) (hw _ (List.mem_of_getElem? (i := 49) rfl)) (by decide) (by decide)) q15a q15c (g := (mkF m 30 #[.val (.ref a1), .val (.ref a2), .val (.int (Int32.ofNat ds.length))] [(.ref a2), (.int (0 : Int32)), (.ref a1)])) rfl (by rw [hml]; rfl) (Steps.refl _) (argsL := [(.int (0 : Int32)), (.ref a2)]) (rest := []) (lenOf pd__ILjava_lang_String__V rfl) rfl (by show 2 * 0 + _ ≤ _; exact Nat.le_of_eq rfl) (hb hby d11_30) (fun _ _ => ⟨rfl, e14, (by decide : 1 + 0 ≤ _), (by decide : 34 + 0 ≤ _)⟩)
  dsimp only [Pt.U, Pt.locs, Pt.cells, Pt.slots] at X15 l15 y15 z15 st15 hQ15
  subst l15 y15 z15
  obtain ⟨rfl, N15q, kq15, vt15⟩ := hQ15
  have N15 := Fr.app N5 N15q
  have K15 := K5.trans kq15 (allS (Or.inr sz_b5) all0)
  have c22 := (fn5.keep kq15 (ninS ne_a1_b5 nin0))
  obtain ⟨T23, X23, e23, st23⟩ := getF X15 hx hZ hown (host := "") (Or.inl (hw _ (List.mem_of_getElem? (i := 78) rfl))) Via.refl rfl c22 (g := (mkF m 35 #[.val (.ref a1), .val (.ref a2), .val (.int (Int32.ofNat ds.length))] [(.ref a1), (.ref a1)])) rfl rfl (hb hby d11_35)
  have c24 := (c17.keep kq15)
  obtain ⟨T25, h25, X25, e25, W25, st25⟩ := putF X23 hx hZ hown (host := "") (Or.inl (hw _ (List.mem_of_getElem? (i := 78) rfl))) Via.refl e23 c22 c24 (Or.inl (hw _ (List.mem_of_getElem? (i := 79) rfl))) (hw _ (List.mem_of_getElem? (i := 40) rfl)) (ty := .int) (by decide) rfl rfl (g := (mkF m 40 #[.val (.ref a1), .val (.ref a2), .val (.int (Int32.ofNat ds.length))] [(.int ((0 : Int32) + (Int32.ofNat ds.length))), (.ref a1)])) rfl rfl (hb hby d11_40)
  have Fw25 := c22.same W25
  have K25 := K15.wr W25 (Or.inl (List.mem_of_getElem? (i := 0) rfl))
  have N25 := Fr.snoc X25 N15 g_a1
  have c26 := (vt15.other W25 (Ne.symm ne_a1_b5))
  have c27 := (c24.wr W25)
  have c28 := ((fv5.keep kq15 (ninS ne_a1_b5 nin0)).other W25 (Or.inr (slot_ne (Or.inl (hw _ (List.mem_of_getElem? (i := 54) rfl))) (Or.inl (hw _ (List.mem_of_getElem? (i := 79) rfl))) (by decide) (t := (.array .byte)) (t' := .int) (by decide) (by decide))))
  have c29 := ((fc5.keep kq15 (ninS ne_a1_b5 nin0)).other W25 (Or.inr (slot_ne (Or.inl (hw _ (List.mem_of_getElem? (i := 56) rfl))) (Or.inl (hw _ (List.mem_of_getElem? (i := 79) rfl))) (by decide) (t := .byte) (t' := .int) (by decide) (by decide))))
  obtain ⟨fs, hr, hrun, hended, hW, hsame⟩ := X25.leave (v := some (.ref a1)) (fun h => by rw [Bd.returns] at h; cases h)
  refine ⟨_, _, pre0 _ ?_, hrun, hended, _, _, rfl, ?_, ⟨_, rfl⟩, hW, hsame.mono (by decide) (by decide)⟩
  ·
    show Steps p.tables e below (s₁.setTop (mkF m 0 #[.val (.ref a1), .val (.ref a2), .unset] [])) _
    refine XS.aloadN X0.here hx rfl (hb hby d11_0) rfl rfl ?_
    show Steps p.tables e below (s₁.setTop (mkF m 1 #[.val (.ref a1), .val (.ref a2), .unset] [(.ref a2)])) _
    refine XS.ifnonnullYes X0.here hx rfl (pc0 := 1) (pc' := 9) rfl (hb hby d11_1) rfl (by decide) (by decide) ?_
    show Steps p.tables e below (s₁.setTop (mkF m 9 #[.val (.ref a1), .val (.ref a2), .unset] [])) _
    refine XS.aloadN X0.here hx rfl (hb hby d11_9) rfl rfl ?_
    show Steps p.tables e below (s₁.setTop (mkF m 10 #[.val (.ref a1), .val (.ref a2), .unset] [(.ref a2)])) _
    refine st1.trans ?_
    show Steps p.tables e below (T1.setTop (mkF m 13 #[.val (.ref a1), .val (.ref a2), .unset] [(.int (Int32.ofNat ds.length))])) _
    refine XS.istoreN X1.here hx rfl (hb hby d11_13) rfl (l' := #[.val (.ref a1), .val (.ref a2), .val (.int (Int32.ofNat ds.length))]) rfl ?_
    show Steps p.tables e below (T1.setTop (mkF m 14 #[.val (.ref a1), .val (.ref a2), .val (.int (Int32.ofNat ds.length))] [])) _
    refine XS.aloadN X1.here hx rfl (hb hby d11_14) rfl rfl ?_
    show Steps p.tables e below (T1.setTop (mkF m 15 #[.val (.ref a1), .val (.ref a2), .val (.int (Int32.ofNat ds.length))] [(.ref a1)])) _
    refine XS.aloadN X1.here hx rfl (hb hby d11_15) rfl rfl ?_
    show Steps p.tables e below (T1.setTop (mkF m 16 #[.val (.ref a1), .val (.ref a2), .val (.int (Int32.ofNat ds.length))] [(.ref a1), (.ref a1)])) _
    refine st4 _ ?_
    show Steps p.tables e below (T4.setTop (mkF m 19 #[.val (.ref a1), .val (.ref a2), .val (.int (Int32.ofNat ds.length))] [(.int (0 : Int32)), (.ref a1)])) _
    refine XS.iloadN X4.here hx rfl (hb hby d11_19) rfl ?_
    show Steps p.tables e below (T4.setTop (mkF m 20 #[.val (.ref a1), .val (.ref a2), .val (.int (Int32.ofNat ds.length))] [(.int (Int32.ofNat ds.length)), (.int (0 : Int32)), (.ref a1)])) _
    refine XS.iadd X4.here hx rfl (hb hby d11_20) rfl ?_
    show Steps p.tables e below (T4.setTop (mkF m 21 #[.val (.ref a1), .val (.ref a2), .val (.int (Int32.ofNat ds.length))] [(.int ((0 : Int32) + (Int32.ofNat ds.length))), (.ref a1)])) _
    refine st5.trans ?_
    show Steps p.tables e below (T5.setTop (mkF m 24 #[.val (.ref a1), .val (.ref a2), .val (.int (Int32.ofNat ds.length))] [])) _
    refine XS.aloadN X5.here hx rfl (hb hby d11_24) rfl rfl ?_
    show Steps p.tables e below (T5.setTop (mkF m 25 #[.val (.ref a1), .val (.ref a2), .val (.int (Int32.ofNat ds.length))] [(.ref a1)])) _
    refine XS.aloadN X5.here hx rfl (hb hby d11_25) rfl rfl ?_
    show Steps p.tables e below (T5.setTop (mkF m 26 #[.val (.ref a1), .val (.ref a2), .val (.int (Int32.ofNat ds.length))] [(.ref a1), (.ref a1)])) _
    refine st14 _ ?_
    show Steps p.tables e below (T14.setTop (mkF m 29 #[.val (.ref a1), .val (.ref a2), .val (.int (Int32.ofNat ds.length))] [(.int (0 : Int32)), (.ref a1)])) _
    refine XS.aloadN X14.here hx rfl (hb hby d11_29) rfl rfl ?_
    show Steps p.tables e below (T14.setTop (mkF m 30 #[.val (.ref a1), .val (.ref a2), .val (.int (Int32.ofNat ds.length))] [(.ref a2), (.int (0 : Int32)), (.ref a1)])) _
    refine st15.trans ?_
    show Steps p.tables e below (T15.setTop (mkF m 33 #[.val (.ref a1), .val (.ref a2), .val (.int (Int32.ofNat ds.length))] [])) _
    refine XS.aloadN X15.here hx rfl (hb hby d11_33) rfl rfl ?_
    show Steps p.tables e below (T15.setTop (mkF m 34 #[.val (.ref a1), .val (.ref a2), .val (.int (Int32.ofNat ds.length))] [(.ref a1)])) _
    refine XS.dup X15.here hx rfl (hb hby d11_34) rfl rfl ?_
    show Steps p.tables e below (T15.setTop (mkF m 35 #[.val (.ref a1), .val (.ref a2), .val (.int (Int32.ofNat ds.length))] [(.ref a1), (.ref a1)])) _
    refine st23 _ ?_
    show Steps p.tables e below (T23.setTop (mkF m 38 #[.val (.ref a1), .val (.ref a2), .val (.int (Int32.ofNat ds.length))] [(.int (0 : Int32)), (.ref a1)])) _
    refine XS.iloadN X23.here hx rfl (hb hby d11_38) rfl ?_
    show Steps p.tables e below (T23.setTop (mkF m 39 #[.val (.ref a1), .val (.ref a2), .val (.int (Int32.ofNat ds.length))] [(.int (Int32.ofNat ds.length)), (.int (0 : Int32)), (.ref a1)])) _
    refine XS.iadd X23.here hx rfl (hb hby d11_39) rfl ?_
    show Steps p.tables e below (T23.setTop (mkF m 40 #[.val (.ref a1), .val (.ref a2), .val (.int (Int32.ofNat ds.length))] [(.int ((0 : Int32) + (Int32.ofNat ds.length))), (.ref a1)])) _
    refine st25 _ ?_
    show Steps p.tables e below (T25.setTop (mkF m 43 #[.val (.ref a1), .val (.ref a2), .val (.int (Int32.ofNat ds.length))] [])) _
    refine XS.aloadN X25.here hx rfl (hb hby d11_43) rfl rfl ?_
    show Steps p.tables e below (T25.setTop (mkF m 44 #[.val (.ref a1), .val (.ref a2), .val (.int (Int32.ofNat ds.length))] [(.ref a1)])) _
    jvm_step X25.here [X25.here.top, hx, (hb hby d11_44), X25.method', Bd.returns, Value.isRef, FieldType.isReference]
    first | (intro acts; rw [hr _ acts rfl rfl rfl]) | rw [hr _ _ rfl rfl rfl]
    exact Steps.refl _
  ·
    show QrmAG Z a1 a2 t kd ds G1 h0 n0 _ T25.heap _
    rw [e25]
    exact ⟨_, _, rfl, N25, K25, g_b5, sz_b5, c27, c28, c29, by have q := Fw25; rw [Int32.zero_add] at q; exact q, by have q := c26; rw [show List.take 0 (own_P [] 34) ++ own_B ds ++ List.drop (0 + ds.length) (own_P [] 34) = own_P ([] ++ ds) (34 - ds.length) from own_put (cs := []) (by rw [hm]; decide), hm] at q; rw [own_Pl] at q ⊢; rw [hm]; exact q⟩
theorem d10_0 : decode jdk_67_method_7_code 0 = .ok (.aload_n 0, 1) := by decide +kernel
theorem d10_1 : decode jdk_67_method_7_code 1 = .ok (.aload_n 1, 1) := by decide +kernel
theorem d10_2 : decode jdk_67_method_7_code 2 = .ok (.invokespecial 29, 3) := by decide +kernel
theorem d10_5 : decode jdk_67_method_7_code 5 = .ok (.pop, 1) := by decide +kernel
theorem d10_6 : decode jdk_67_method_7_code 6 = .ok (.aload_n 0, 1) := by decide +kernel
theorem d10_7 : decode jdk_67_method_7_code 7 = .ok (.areturn, 1) := by decide +kernel
theorem pn_10 : plainName "java/lang/StringBuilder" = true := by first | (simp [plainName, overriddenIn]; done) | decide +kernel
theorem pd__Ljava_lang_String__Ljava_lang_AbstractStringBuilder_ : parseMethodDescriptor "(Ljava/lang/String;)Ljava/lang/AbstractStringBuilder;" = some ⟨[(.object "java/lang/String")], some (.object "java/lang/AbstractStringBuilder")⟩ := by decide +kernel
theorem ef_10 (m : MethodId) (a1 : Addr) (a2 : Addr) : entryFrame m #[(.ref a1), (.ref a2)] 2 = (mkF m 0 #[.val (.ref a1), .val (.ref a2)] []) := by first | (simp [entryFrame, mkF, argsToLocals, Value.category]; done) | rfl
def Q10 (Z : State) (a1 : Addr) (a2 : Addr) (t : Addr) (kd : ClassId) (cs : List Int32) (ds : List Int32) (r : Nat) (G1 : Int32) (h0 : Heap) (n0 : Nat) (v : Option Value) (h : Heap) (L : List Loc) : Prop := v = some (.ref a1) ∧ Fr n0 L ∧ Keep h0 h [a1, t] ∧ own_sb Z h a1 t kd (cs ++ ds) (r - ds.length)
set_option maxRecDepth 65536 in
set_option maxHeartbeats 40000000 in
theorem rm10 (l : Launch) (Z : State) (a0 : Array Value) (hw : ∀ d ∈ tables_1, d.before a0 Z = true) (ws : List Jvm.Cond) (a1 : Addr) (a2 : Addr) (t : Addr) (kd : ClassId) (cs : List Int32) (ds : List Int32) (r : Nat) (G1 : Int32) (h0 : Heap) (n0 : Nat) (Z0 : n0 ≤ h0.size) (OLD0 : Old Z n0 h0) (SCS : Sta Z Z.heap "java/lang/String" "COMPACT_STRINGS" "Z" (.int G1)) (P5 : ¬ (G1 = (0 : Int32))) (g_a1 : n0 ≤ a1) (g_t : n0 ≤ t) (SBh : own_sb Z h0 a1 t kd cs r) (XSt : own_str Z h0 a2 ds) (hcs : ∀ c ∈ ds, own_c255 c) (hm : ds.length ≤ 4000) (hrr : ds.length ≤ r) (hcr : cs.length + r ≤ 4000) :
    MetFree l (⟨"java/lang/StringBuilder", "append", "(Ljava/lang/String;)Ljava/lang/StringBuilder;"⟩ : MethodName) (head1 (Jvm.Cond.code (⟨"java/lang/StringBuilder", "append", "(Ljava/lang/String;)Ljava/lang/StringBuilder;"⟩ : MethodName) jdk_67_method_7_code 2 (some (.object "java/lang/StringBuilder")) :: ws) ({ frames := 4, cells := 0, slots := 0, locals := 61 } : Room)) (fun a U => a = #[(.ref a1), (.ref a2)] ∧ Z.Warmed39 U.vm ∧ U.heap = h0) (fun _ _ _ _ _ => True) (fun _ U o U' => ∃ v L, o = .returned v ∧ Q10 Z a1 a2 t kd cs ds r G1 h0 n0 v U'.heap L ∧ FrameEnd U o U' L ({ frames := 4, cells := 0, slots := 0, locals := 61 } : Room).cells ({ frames := 4, cells := 0, slots := 0, locals := 61 } : Room).slots) := by
  refine MetFree.of_bodySF (plainFor_of_name pn_10) hisR ?_
  intro p e s m args below meth c s₁ Bd hml0 hP hK
  obtain ⟨rfl, hZ, hh⟩ := hP
  have hx := Bd.exec
  have hby := Bd.bytes
  have hml : c.maxLocals = 2 := hml0
  have hown : s.vm.findClass "java/lang/StringBuilder" = some m.cls := findClass_of_methodNamed Bd.named
  have hnm := (name_of_methodNamed Bd.named Bd.method).1
  have X0 : Stand p l e ({ frames := 4, cells := 0, slots := 0, locals := 61 } : Room) s m #[(.ref a1), (.ref a2)] below meth c s₁ [] 0 0 := Stand.of_body Bd
  have e0 : s₁.heap = h0 := by rw [← hh, Bd.state]; rfl
  have N0 := Fr.nil n0
  have K0 := Keep.refl h0 ([a1, t] : List Addr)
  have pre0 : ∀ t, Steps p.tables e below (s₁.setTop (mkF m 0 #[.val (.ref a1), .val (.ref a2)] [])) t → Steps p.tables e below (s₁.setTop (entryFrame m #[(.ref a1), (.ref a2)] 2)) t := fun t k => castTop (ef_10 m a1 a2) k
  have E_a1 := SBh.1
  obtain ⟨_, _, ⟨T1, L1, k1, n1⟩, -, X1, ⟨Lc1, hQ1, l1, y1, z1⟩, st1⟩ := superBack X0 hx hZ (y := (⟨"java/lang/AbstractStringBuilder", "append", "(Ljava/lang/String;)Ljava/lang/AbstractStringBuilder;"⟩ : MethodName)) hown (hw _ (List.mem_of_getElem? (i := 63) rfl)) (own_same (x := (⟨"java/lang/AbstractStringBuilder", "append", "(Ljava/lang/String;)Ljava/lang/AbstractStringBuilder;"⟩ : MethodName)) (y := (⟨"java/lang/AbstractStringBuilder", "ensureCapacityInternal", "(I)V"⟩ : MethodName)) rfl (by decide) (hw _ (List.mem_of_getElem? (i := 64) rfl)) (hw _ (List.mem_of_getElem? (i := 83) rfl))) (hw _ (List.mem_of_getElem? (i := 64) rfl)) (hw _ (List.mem_of_getElem? (i := 65) rfl)) (by decide) (backOf (W := 0) (rm11 l Z a0 hw [] a1 a2 t kd cs ds r G1 h0 n0 (Nat.le_trans Z0 K0.1) OLD0 SCS P5 g_a1 g_t SBh XSt hcs hm hrr hcr) hZ (hw _ (List.mem_of_getElem? (i := 67) rfl)) (hw _ (List.mem_of_getElem? (i := 49) rfl)) (by decide) (by decide)) e0 (Ins.self E_a1) (g := (mkF m 2 #[.val (.ref a1), .val (.ref a2)] [(.ref a2), (.ref a1)])) rfl (by rw [hml]; rfl) (hw _ (List.mem_of_getElem? (i := 67) rfl)) (argsL := [(.ref a2)]) (rest := []) (lenOf pd__Ljava_lang_String__Ljava_lang_AbstractStringBuilder_ rfl) rfl (by show 2 * 0 + _ ≤ _; exact Nat.le_of_eq rfl) (hb hby d10_2) (fun _ _ => ⟨rfl, e0, (by decide : 0 + 0 ≤ _), (by decide : 0 + 0 ≤ _)⟩)
  dsimp only [Pt.U, Pt.locs, Pt.cells, Pt.slots] at X1 l1 y1 z1 st1 hQ1
  subst l1 y1 z1
  obtain ⟨rfl, N1q, kq1, sb1⟩ := hQ1
  have N1 := Fr.app N0 N1q
  have K1 := K0.trans kq1 (allS (Or.inl (List.mem_of_getElem? (i := 0) rfl)) (allS (Or.inl (List.mem_of_getElem? (i := 1) rfl)) all0))
  obtain ⟨fs, hr, hrun, hended, hW, hsame⟩ := X1.leave (v := some (.ref a1)) (fun h => by rw [Bd.returns] at h; cases h)
  refine ⟨_, _, pre0 _ ?_, hrun, hended, _, _, rfl, ?_, ⟨_, rfl⟩, hW, hsame.mono (by decide) (by decide)⟩
  ·
    show Steps p.tables e below (s₁.setTop (mkF m 0 #[.val (.ref a1), .val (.ref a2)] [])) _
    refine XS.aloadN X0.here hx rfl (hb hby d10_0) rfl rfl ?_
    show Steps p.tables e below (s₁.setTop (mkF m 1 #[.val (.ref a1), .val (.ref a2)] [(.ref a1)])) _
    refine XS.aloadN X0.here hx rfl (hb hby d10_1) rfl rfl ?_
    show Steps p.tables e below (s₁.setTop (mkF m 2 #[.val (.ref a1), .val (.ref a2)] [(.ref a2), (.ref a1)])) _
    refine st1.trans ?_
    show Steps p.tables e below (T1.setTop (mkF m 5 #[.val (.ref a1), .val (.ref a2)] [(.ref a1)])) _
    refine XS.pop X1.here hx rfl (hb hby d10_5) rfl rfl ?_
    show Steps p.tables e below (T1.setTop (mkF m 6 #[.val (.ref a1), .val (.ref a2)] [])) _
    refine XS.aloadN X1.here hx rfl (hb hby d10_6) rfl rfl ?_
    show Steps p.tables e below (T1.setTop (mkF m 7 #[.val (.ref a1), .val (.ref a2)] [(.ref a1)])) _
    jvm_step X1.here [X1.here.top, hx, (hb hby d10_7), X1.method', Bd.returns, Value.isRef, FieldType.isReference]
    first | (intro acts; rw [hr _ acts rfl rfl rfl]) | rw [hr _ _ rfl rfl rfl]
    exact Steps.refl _
  ·
    show Q10 Z a1 a2 t kd cs ds r G1 h0 n0 _ T1.heap _
    exact ⟨rfl, N1, K1, sb1⟩
theorem ef_rmSG (m : MethodId) (a1 : Addr) (a2 : Addr) : entryFrame m #[(.ref a1), (.ref a2)] 2 = (mkF m 0 #[.val (.ref a1), .val (.ref a2)] []) := by first | (simp [entryFrame, mkF, argsToLocals, Value.category]; done) | rfl
def QrmSG (Z : State) (a1 : Addr) (a2 : Addr) (t : Addr) (kd : ClassId) (ds : List Int32) (G1 : Int32) (h0 : Heap) (n0 : Nat) (v : Option Value) (h : Heap) (L : List Loc) : Prop := ∃ (b : Addr) (k : ClassId), v = some (.ref a1) ∧ Fr n0 L ∧ Keep h0 h [a1] ∧ n0 ≤ b ∧ h0.size ≤ b ∧ own_sb Z h a1 b k ds 17
set_option maxRecDepth 65536 in
set_option maxHeartbeats 40000000 in
theorem rmSG (l : Launch) (Z : State) (a0 : Array Value) (hw : ∀ d ∈ tables_1, d.before a0 Z = true) (ws : List Jvm.Cond) (a1 : Addr) (a2 : Addr) (t : Addr) (kd : ClassId) (ds : List Int32) (G1 : Int32) (h0 : Heap) (n0 : Nat) (Z0 : n0 ≤ h0.size) (OLD0 : Old Z n0 h0) (SCS : Sta Z Z.heap "java/lang/String" "COMPACT_STRINGS" "Z" (.int G1)) (P5 : ¬ (G1 = (0 : Int32))) (g_a1 : n0 ≤ a1) (SBh : own_sb Z h0 a1 t kd [] 16) (XSt : own_str Z h0 a2 ds) (hcs : ∀ c ∈ ds, own_c255 c) (hm : ds.length = 17) :
    MetFree l (⟨"java/lang/StringBuilder", "append", "(Ljava/lang/String;)Ljava/lang/StringBuilder;"⟩ : MethodName) (head1 (Jvm.Cond.code (⟨"java/lang/StringBuilder", "append", "(Ljava/lang/String;)Ljava/lang/StringBuilder;"⟩ : MethodName) jdk_67_method_7_code 2 (some (.object "java/lang/StringBuilder")) :: ws) ({ frames := 5, cells := 1, slots := 34, locals := 76 } : Room)) (fun a U => a = #[(.ref a1), (.ref a2)] ∧ Z.Warmed39 U.vm ∧ U.heap = h0) (fun _ _ _ _ _ => True) (fun _ U o U' => ∃ v L, o = .returned v ∧ QrmSG Z a1 a2 t kd ds G1 h0 n0 v U'.heap L ∧ FrameEnd U o U' L ({ frames := 5, cells := 1, slots := 34, locals := 76 } : Room).cells ({ frames := 5, cells := 1, slots := 34, locals := 76 } : Room).slots) := by
  refine MetFree.of_bodySF (plainFor_of_name pn_10) hisR ?_
  intro p e s m args below meth c s₁ Bd hml0 hP hK
  obtain ⟨rfl, hZ, hh⟩ := hP
  have hx := Bd.exec
  have hby := Bd.bytes
  have hml : c.maxLocals = 2 := hml0
  have hown : s.vm.findClass "java/lang/StringBuilder" = some m.cls := findClass_of_methodNamed Bd.named
  have hnm := (name_of_methodNamed Bd.named Bd.method).1
  have X0 : Stand p l e ({ frames := 5, cells := 1, slots := 34, locals := 76 } : Room) s m #[(.ref a1), (.ref a2)] below meth c s₁ [] 0 0 := Stand.of_body Bd
  have e0 : s₁.heap = h0 := by rw [← hh, Bd.state]; rfl
  have N0 := Fr.nil n0
  have K0 := Keep.refl h0 ([a1] : List Addr)
  have pre0 : ∀ t, Steps p.tables e below (s₁.setTop (mkF m 0 #[.val (.ref a1), .val (.ref a2)] [])) t → Steps p.tables e below (s₁.setTop (entryFrame m #[(.ref a1), (.ref a2)] 2)) t := fun t k => castTop (ef_rmSG m a1 a2) k
  have E_a1 := SBh.1
  obtain ⟨_, _, ⟨T1, L1, k1, n1⟩, -, X1, ⟨Lc1, hQ1, l1, y1, z1⟩, st1⟩ := superBack X0 hx hZ (y := (⟨"java/lang/AbstractStringBuilder", "append", "(Ljava/lang/String;)Ljava/lang/AbstractStringBuilder;"⟩ : MethodName)) hown (hw _ (List.mem_of_getElem? (i := 63) rfl)) (own_same (x := (⟨"java/lang/AbstractStringBuilder", "append", "(Ljava/lang/String;)Ljava/lang/AbstractStringBuilder;"⟩ : MethodName)) (y := (⟨"java/lang/AbstractStringBuilder", "ensureCapacityInternal", "(I)V"⟩ : MethodName)) rfl (by decide) (hw _ (List.mem_of_getElem? (i := 64) rfl)) (hw _ (List.mem_of_getElem? (i := 83) rfl))) (hw _ (List.mem_of_getElem? (i := 64) rfl)) (hw _ (List.mem_of_getElem? (i := 65) rfl)) (by decide) (backOf (W := 0) (rmAG l Z a0 hw [] a1 a2 t kd ds G1 h0 n0 (Nat.le_trans Z0 K0.1) OLD0 SCS P5 g_a1 SBh XSt hcs hm) hZ (hw _ (List.mem_of_getElem? (i := 67) rfl)) (hw _ (List.mem_of_getElem? (i := 49) rfl)) (by decide) (by decide)) e0 (Ins.self E_a1) (g := (mkF m 2 #[.val (.ref a1), .val (.ref a2)] [(.ref a2), (.ref a1)])) rfl (by rw [hml]; rfl) (hw _ (List.mem_of_getElem? (i := 67) rfl)) (argsL := [(.ref a2)]) (rest := []) (lenOf pd__Ljava_lang_String__Ljava_lang_AbstractStringBuilder_ rfl) rfl (by show 2 * 0 + _ ≤ _; exact Nat.le_of_eq rfl) (hb hby d10_2) (fun _ _ => ⟨rfl, e0, (by decide : 0 + 1 ≤ _), (by decide : 0 + 34 ≤ _)⟩)
  dsimp only [Pt.U, Pt.locs, Pt.cells, Pt.slots] at X1 l1 y1 z1 st1 hQ1
  subst l1 y1 z1
  obtain ⟨bb1, bk1, rfl, N1q, kq1, gg1, u1, sb1⟩ := hQ1
  have N1 := Fr.app N0 N1q
  have K1 := K0.trans kq1 (allS (Or.inl (List.mem_of_getElem? (i := 0) rfl)) all0)
  obtain ⟨fs, hr, hrun, hended, hW, hsame⟩ := X1.leave (v := some (.ref a1)) (fun h => by rw [Bd.returns] at h; cases h)
  refine ⟨_, _, pre0 _ ?_, hrun, hended, _, _, rfl, ?_, ⟨_, rfl⟩, hW, hsame.mono (by decide) (by decide)⟩
  ·
    show Steps p.tables e below (s₁.setTop (mkF m 0 #[.val (.ref a1), .val (.ref a2)] [])) _
    refine XS.aloadN X0.here hx rfl (hb hby d10_0) rfl rfl ?_
    show Steps p.tables e below (s₁.setTop (mkF m 1 #[.val (.ref a1), .val (.ref a2)] [(.ref a1)])) _
    refine XS.aloadN X0.here hx rfl (hb hby d10_1) rfl rfl ?_
    show Steps p.tables e below (s₁.setTop (mkF m 2 #[.val (.ref a1), .val (.ref a2)] [(.ref a2), (.ref a1)])) _
    refine st1.trans ?_
    show Steps p.tables e below (T1.setTop (mkF m 5 #[.val (.ref a1), .val (.ref a2)] [(.ref a1)])) _
    refine XS.pop X1.here hx rfl (hb hby d10_5) rfl rfl ?_
    show Steps p.tables e below (T1.setTop (mkF m 6 #[.val (.ref a1), .val (.ref a2)] [])) _
    refine XS.aloadN X1.here hx rfl (hb hby d10_6) rfl rfl ?_
    show Steps p.tables e below (T1.setTop (mkF m 7 #[.val (.ref a1), .val (.ref a2)] [(.ref a1)])) _
    jvm_step X1.here [X1.here.top, hx, (hb hby d10_7), X1.method', Bd.returns, Value.isRef, FieldType.isReference]
    first | (intro acts; rw [hr _ acts rfl rfl rfl]) | rw [hr _ _ rfl rfl rfl]
    exact Steps.refl _
  ·
    show QrmSG Z a1 a2 t kd ds G1 h0 n0 _ T1.heap _
    exact ⟨bb1, bk1, rfl, N1, K1, gg1, u1, sb1⟩
theorem d9_0 : decode jdk_68_method_2_code 0 = .ok (.aload_n 0, 1) := by decide +kernel
theorem d9_1 : decode jdk_68_method_2_code 1 = .ok (.invokespecial 3, 3) := by decide +kernel
theorem d9_4 : decode jdk_68_method_2_code 4 = .ok (.getstatic 18, 3) := by decide +kernel
theorem d9_7 : decode jdk_68_method_2_code 7 = .ok (.ifCond .eq 18, 3) := by decide +kernel
theorem d9_10 : decode jdk_68_method_2_code 10 = .ok (.aload_n 0, 1) := by decide +kernel
theorem d9_11 : decode jdk_68_method_2_code 11 = .ok (.iload_n 1, 1) := by decide +kernel
theorem d9_12 : decode jdk_68_method_2_code 12 = .ok (.newarray .byte, 2) := by decide +kernel
theorem d9_14 : decode jdk_68_method_2_code 14 = .ok (.putfield 15, 3) := by decide +kernel
theorem d9_17 : decode jdk_68_method_2_code 17 = .ok (.aload_n 0, 1) := by decide +kernel
theorem d9_18 : decode jdk_68_method_2_code 18 = .ok (.iconst 0, 1) := by decide +kernel
theorem d9_19 : decode jdk_68_method_2_code 19 = .ok (.putfield 22, 3) := by decide +kernel
theorem d9_22 : decode jdk_68_method_2_code 22 = .ok (.goto 16, 3) := by decide +kernel
theorem d9_38 : decode jdk_68_method_2_code 38 = .ok (.return_, 1) := by decide +kernel
theorem pn_9 : plainName "java/lang/AbstractStringBuilder" = true := by first | (simp [plainName, overriddenIn]; done) | decide +kernel
theorem ef_9 (m : MethodId) (a1 : Addr) (p2 : Int32) : entryFrame m #[(.ref a1), (.int p2)] 2 = (mkF m 0 #[.val (.ref a1), .val (.int p2)] []) := by first | (simp [entryFrame, mkF, argsToLocals, Value.category]; done) | rfl
def Q9 (Z : State) (a1 : Addr) (p2 : Int32) (G1 : Int32) (h0 : Heap) (n0 : Nat) (v : Option Value) (h : Heap) (L : List Loc) : Prop := ∃ (b : Addr) (k : ClassId), v = none ∧ Fr n0 L ∧ Keep h0 h [a1] ∧ n0 ≤ b ∧ h0.size ≤ b ∧ own_sb Z h a1 b k [] 16
set_option maxRecDepth 65536 in
set_option maxHeartbeats 40000000 in
theorem rm9 (l : Launch) (Z : State) (a0 : Array Value) (hw : ∀ d ∈ tables_1, d.before a0 Z = true) (ws : List Jvm.Cond) (a1 : Addr) (p2 : Int32) (G1 : Int32) (h0 : Heap) (n0 : Nat) (Z0 : n0 ≤ h0.size) (OLD0 : Old Z n0 h0) (SCS : Sta Z Z.heap "java/lang/String" "COMPACT_STRINGS" "Z" (.int G1)) (P5 : ¬ (G1 = (0 : Int32))) (g_a1 : n0 ≤ a1) (E_a1 : Exa Z h0 a1 "java/lang/StringBuilder") (Gv_a1 : Fld Z h0 a1 "java/lang/AbstractStringBuilder" "value" "[B" .null) (Gc_a1 : Fld Z h0 a1 "java/lang/AbstractStringBuilder" "coder" "B" (.int (0 : Int32))) (Gn_a1 : Fld Z h0 a1 "java/lang/AbstractStringBuilder" "count" "I" (.int (0 : Int32))) (hp2 : p2 = (16 : Int32)) :
    MetFree l (⟨"java/lang/AbstractStringBuilder", "<init>", "(I)V"⟩ : MethodName) (head1 (Jvm.Cond.code (⟨"java/lang/AbstractStringBuilder", "<init>", "(I)V"⟩ : MethodName) jdk_68_method_2_code 2 none :: ws) ({ frames := 1, cells := 1, slots := 16, locals := 12 } : Room)) (fun a U => a = #[(.ref a1), (.int p2)] ∧ Z.Warmed39 U.vm ∧ U.heap = h0) (fun _ _ _ _ _ => True) (fun _ U o U' => ∃ v L, o = .returned v ∧ Q9 Z a1 p2 G1 h0 n0 v U'.heap L ∧ FrameEnd U o U' L ({ frames := 1, cells := 1, slots := 16, locals := 12 } : Room).cells ({ frames := 1, cells := 1, slots := 16, locals := 12 } : Room).slots) := by
  refine MetFree.of_bodySF (plainFor_of_name pn_9) hisR ?_
  intro p e s m args below meth c s₁ Bd hml0 hP hK
  obtain ⟨rfl, hZ, hh⟩ := hP
  have hx := Bd.exec
  have hby := Bd.bytes
  have hml : c.maxLocals = 2 := hml0
  have hown : s.vm.findClass "java/lang/AbstractStringBuilder" = some m.cls := findClass_of_methodNamed Bd.named
  have hnm := (name_of_methodNamed Bd.named Bd.method).1
  have X0 : Stand p l e ({ frames := 1, cells := 1, slots := 16, locals := 12 } : Room) s m #[(.ref a1), (.int p2)] below meth c s₁ [] 0 0 := Stand.of_body Bd
  have e0 : s₁.heap = h0 := by rw [← hh, Bd.state]; rfl
  have N0 := Fr.nil n0
  have K0 := Keep.refl h0 ([a1] : List Addr)
  have pre0 : ∀ t, Steps p.tables e below (s₁.setTop (mkF m 0 #[.val (.ref a1), .val (.int p2)] [])) t → Steps p.tables e below (s₁.setTop (entryFrame m #[(.ref a1), (.int p2)] 2)) t := fun t k => castTop (ef_9 m a1 p2) k
  obtain ⟨T1, X1, e1, st1⟩ := initO X0 hx hZ hown (hw _ (List.mem_of_getElem? (i := 51) rfl)) (hw _ (List.mem_of_getElem? (i := 18) rfl)) (hw _ (List.mem_of_getElem? (i := 19) rfl)) e0 (g := (mkF m 1 #[.val (.ref a1), .val (.int p2)] [(.ref a1)])) rfl (by rw [hml]; rfl) rfl (hb hby d9_1) (by decide) (W := 0) (by show 2 * 0 + _ ≤ _; exact Nat.le_of_eq rfl) (by decide)
  have q2 := SCS.ext (OLD0.keep K0 (allS g_a1 all0)).2
  obtain ⟨T3, X3, e3, st3⟩ := getS2 X1 hx hZ hown (host := "") (Or.inl (hw _ (List.mem_of_getElem? (i := 52) rfl))) Via.refl e1 q2 (g := (mkF m 4 #[.val (.ref a1), .val (.int p2)] [])) rfl (hb hby d9_4)
  have hk4 : ¬ (G1 = (0 : Int32)) := P5
  obtain ⟨T5, h5, k5, X5, e5, E5, A5, st5⟩ := newP X3 hx hZ (hw _ (List.mem_of_getElem? (i := 3) rfl)) e3 (g := (mkF m 12 #[.val (.ref a1), .val (.int p2)] [(.int p2), (.ref a1)])) rfl (hb hby d9_12) rfl (by rw [hp2]; decide) (cap := 16) (by rw [hp2]; decide) (by decide) (by decide) (by decide)
  obtain ⟨b5, g5⟩ : ∃ z, z = h0.size := ⟨_, rfl⟩
  rw [← g5] at A5 st5
  have g_b5 : n0 ≤ b5 := Nat.le_trans (Nat.le_trans Z0 K0.1) (Nat.le_of_eq g5.symm)
  have sz_b5 : h0.size ≤ b5 := Nat.le_trans K0.1 (Nat.le_of_eq g5.symm)
  have ne_a1_b5 : a1 ≠ b5 := Nat.ne_of_lt (Nat.lt_of_lt_of_le E_a1.lt (Nat.le_of_eq g5.symm))
  have K5 := K0.ext E5
  have V_b5 : Arv Z h5 b5 k5 .byte p2 (List.replicate 16 (Value.int (0 : Int32))) (.int (0 : Int32)) := (Arv.new A5 (by rw [hp2]; decide)).pad (pad_rep [] (.int (0 : Int32)) 16)
  have c6 := (E_a1.ext E5)
  have c7 := (Gv_a1.ext E5)
  obtain ⟨T8, h8, X8, e8, W8, st8⟩ := putF X5 hx hZ hown (host := "") (Or.inl (hw _ (List.mem_of_getElem? (i := 53) rfl))) Via.refl e5 c7 c6 (Or.inl (hw _ (List.mem_of_getElem? (i := 54) rfl))) (hw _ (List.mem_of_getElem? (i := 40) rfl)) (ty := (.array .byte)) (by decide) rfl rfl (g := (mkF m 14 #[.val (.ref a1), .val (.int p2)] [(.ref b5), (.ref a1)])) rfl rfl (hb hby d9_14)
  have Fw8 := c7.same W8
  have K8 := K5.wr W8 (Or.inl (List.mem_of_getElem? (i := 0) rfl))
  have N8 := Fr.snoc X8 N0 g_a1
  have c9 := (c6.wr W8)
  have c10 := ((Gc_a1.ext E5).other W8 (Or.inr (slot_ne (Or.inl (hw _ (List.mem_of_getElem? (i := 56) rfl))) (Or.inl (hw _ (List.mem_of_getElem? (i := 54) rfl))) (by decide) (t := .byte) (t' := (.array .byte)) (by decide) (by decide))))
  obtain ⟨T11, h11, X11, e11, W11, st11⟩ := putFN X8 hx hZ hown (hw _ (List.mem_of_getElem? (i := 55) rfl)) Via.refl e8 c10 c9 (Or.inl (hw _ (List.mem_of_getElem? (i := 56) rfl))) (hw _ (List.mem_of_getElem? (i := 40) rfl)) (ty := .byte) (v := (.int (0 : Int32))) (v' := (.int (nar .byte (0 : Int32)))) (by decide) rfl (fits_nar_byte _) (g := (mkF m 19 #[.val (.ref a1), .val (.int p2)] [(.int (0 : Int32)), (.ref a1)])) rfl rfl (hb hby d9_19)
  have Fw11 := c10.same W11
  have K11 := K8.wr W11 (Or.inl (List.mem_of_getElem? (i := 0) rfl))
  have N11 := Fr.snoc X11 N8 g_a1
  have c12 := (c9.wr W11)
  have c13 := (Fw8.other W11 (Or.inr (slot_ne (Or.inl (hw _ (List.mem_of_getElem? (i := 54) rfl))) (Or.inl (hw _ (List.mem_of_getElem? (i := 56) rfl))) (by decide) (t := (.array .byte)) (t' := .byte) (by decide) (by decide))))
  have c14 := (((Gn_a1.ext E5).other W8 (Or.inr (slot_ne (Or.inl (hw _ (List.mem_of_getElem? (i := 79) rfl))) (Or.inl (hw _ (List.mem_of_getElem? (i := 54) rfl))) (by decide) (t := .int) (t' := (.array .byte)) (by decide) (by decide)))).other W11 (Or.inr (slot_ne (Or.inl (hw _ (List.mem_of_getElem? (i := 79) rfl))) (Or.inl (hw _ (List.mem_of_getElem? (i := 56) rfl))) (by decide) (t := .int) (t' := .byte) (by decide) (by decide))))
  have c15 := ((V_b5.other W8 (Ne.symm ne_a1_b5)).other W11 (Ne.symm ne_a1_b5))
  obtain ⟨fs, hr, hrun, hended, hW, hsame⟩ := X11.leave (v := none) (fun _ => rfl)
  refine ⟨_, _, pre0 _ ?_, hrun, hended, _, _, rfl, ?_, ⟨_, rfl⟩, hW, hsame.mono (by decide) (by decide)⟩
  ·
    show Steps p.tables e below (s₁.setTop (mkF m 0 #[.val (.ref a1), .val (.int p2)] [])) _
    refine XS.aloadN X0.here hx rfl (hb hby d9_0) rfl rfl ?_
    show Steps p.tables e below (s₁.setTop (mkF m 1 #[.val (.ref a1), .val (.int p2)] [(.ref a1)])) _
    refine st1 _ ?_
    show Steps p.tables e below (T1.setTop (mkF m 4 #[.val (.ref a1), .val (.int p2)] [])) _
    refine st3 _ ?_
    show Steps p.tables e below (T3.setTop (mkF m 7 #[.val (.ref a1), .val (.int p2)] [(.int G1)])) _
    refine XS.ifNo X3.here hx rfl (hb hby d9_7) rfl ((if0 _ _).trans (feq hk4).1) ?_
    show Steps p.tables e below (T3.setTop (mkF m 10 #[.val (.ref a1), .val (.int p2)] [])) _
    refine XS.aloadN X3.here hx rfl (hb hby d9_10) rfl rfl ?_
    show Steps p.tables e below (T3.setTop (mkF m 11 #[.val (.ref a1), .val (.int p2)] [(.ref a1)])) _
    refine XS.iloadN X3.here hx rfl (hb hby d9_11) rfl ?_
    show Steps p.tables e below (T3.setTop (mkF m 12 #[.val (.ref a1), .val (.int p2)] [(.int p2), (.ref a1)])) _
    refine st5 _ ?_
    show Steps p.tables e below (T5.setTop (mkF m 14 #[.val (.ref a1), .val (.int p2)] [(.ref b5), (.ref a1)])) _
    refine st8 _ ?_
    show Steps p.tables e below (T8.setTop (mkF m 17 #[.val (.ref a1), .val (.int p2)] [])) _
    refine XS.aloadN X8.here hx rfl (hb hby d9_17) rfl rfl ?_
    show Steps p.tables e below (T8.setTop (mkF m 18 #[.val (.ref a1), .val (.int p2)] [(.ref a1)])) _
    refine XS.iconst X8.here hx rfl (hb hby d9_18) ?_
    show Steps p.tables e below (T8.setTop (mkF m 19 #[.val (.ref a1), .val (.int p2)] [(.int (0 : Int32)), (.ref a1)])) _
    refine st11 _ ?_
    show Steps p.tables e below (T11.setTop (mkF m 22 #[.val (.ref a1), .val (.int p2)] [])) _
    refine XS.goto X11.here hx rfl (pc0 := 22) (pc' := 38) rfl (hb hby d9_22) (by decide) (by decide) ?_
    show Steps p.tables e below (T11.setTop (mkF m 38 #[.val (.ref a1), .val (.int p2)] [])) _
    exact X11.returnOut hx Bd.returns (hb hby d9_38) hr
  ·
    show Q9 Z a1 p2 G1 h0 n0 _ T11.heap _
    rw [e11]
    exact ⟨_, _, rfl, N11, K11, g_b5, sz_b5, c12, c13, Fw11, c14, by have q := c15; rw [hp2] at q; exact q⟩
theorem d8_0 : decode jdk_67_method_1_code 0 = .ok (.aload_n 0, 1) := by decide +kernel
theorem d8_1 : decode jdk_67_method_1_code 1 = .ok (.bipush 16, 2) := by decide +kernel
theorem d8_3 : decode jdk_67_method_1_code 3 = .ok (.invokespecial 1, 3) := by decide +kernel
theorem d8_6 : decode jdk_67_method_1_code 6 = .ok (.return_, 1) := by decide +kernel
theorem pn_8 : plainName "java/lang/StringBuilder" = true := by first | (simp [plainName, overriddenIn]; done) | decide +kernel
theorem ef_8 (m : MethodId) (a1 : Addr) : entryFrame m #[(.ref a1)] 1 = (mkF m 0 #[.val (.ref a1)] []) := by first | (simp [entryFrame, mkF, argsToLocals, Value.category]; done) | rfl
def Q8 (Z : State) (a1 : Addr) (G1 : Int32) (h0 : Heap) (n0 : Nat) (v : Option Value) (h : Heap) (L : List Loc) : Prop := ∃ (b : Addr) (k : ClassId), v = none ∧ Fr n0 L ∧ Keep h0 h [a1] ∧ n0 ≤ b ∧ h0.size ≤ b ∧ own_sb Z h a1 b k [] 16
set_option maxRecDepth 65536 in
set_option maxHeartbeats 40000000 in
theorem rm8 (l : Launch) (Z : State) (a0 : Array Value) (hw : ∀ d ∈ tables_1, d.before a0 Z = true) (ws : List Jvm.Cond) (a1 : Addr) (G1 : Int32) (h0 : Heap) (n0 : Nat) (Z0 : n0 ≤ h0.size) (OLD0 : Old Z n0 h0) (SCS : Sta Z Z.heap "java/lang/String" "COMPACT_STRINGS" "Z" (.int G1)) (P5 : ¬ (G1 = (0 : Int32))) (g_a1 : n0 ≤ a1) (E_a1 : Exa Z h0 a1 "java/lang/StringBuilder") (Gv_a1 : Fld Z h0 a1 "java/lang/AbstractStringBuilder" "value" "[B" .null) (Gc_a1 : Fld Z h0 a1 "java/lang/AbstractStringBuilder" "coder" "B" (.int (0 : Int32))) (Gn_a1 : Fld Z h0 a1 "java/lang/AbstractStringBuilder" "count" "I" (.int (0 : Int32))) :
    MetFree l (⟨"java/lang/StringBuilder", "<init>", "()V"⟩ : MethodName) (head1 (Jvm.Cond.code (⟨"java/lang/StringBuilder", "<init>", "()V"⟩ : MethodName) jdk_67_method_1_code 1 none :: ws) ({ frames := 2, cells := 1, slots := 16, locals := 25 } : Room)) (fun a U => a = #[(.ref a1)] ∧ Z.Warmed39 U.vm ∧ U.heap = h0) (fun _ _ _ _ _ => True) (fun _ U o U' => ∃ v L, o = .returned v ∧ Q8 Z a1 G1 h0 n0 v U'.heap L ∧ FrameEnd U o U' L ({ frames := 2, cells := 1, slots := 16, locals := 25 } : Room).cells ({ frames := 2, cells := 1, slots := 16, locals := 25 } : Room).slots) := by
  refine MetFree.of_bodySF (plainFor_of_name pn_8) hisR ?_
  intro p e s m args below meth c s₁ Bd hml0 hP hK
  obtain ⟨rfl, hZ, hh⟩ := hP
  have hx := Bd.exec
  have hby := Bd.bytes
  have hml : c.maxLocals = 1 := hml0
  have hown : s.vm.findClass "java/lang/StringBuilder" = some m.cls := findClass_of_methodNamed Bd.named
  have hnm := (name_of_methodNamed Bd.named Bd.method).1
  have X0 : Stand p l e ({ frames := 2, cells := 1, slots := 16, locals := 25 } : Room) s m #[(.ref a1)] below meth c s₁ [] 0 0 := Stand.of_body Bd
  have e0 : s₁.heap = h0 := by rw [← hh, Bd.state]; rfl
  have N0 := Fr.nil n0
  have K0 := Keep.refl h0 ([a1] : List Addr)
  have pre0 : ∀ t, Steps p.tables e below (s₁.setTop (mkF m 0 #[.val (.ref a1)] [])) t → Steps p.tables e below (s₁.setTop (entryFrame m #[(.ref a1)] 1)) t := fun t k => castTop (ef_8 m a1) k
  obtain ⟨_, _, ⟨T1, L1, k1, n1⟩, -, X1, ⟨Lc1, hQ1, l1, y1, z1⟩, st1⟩ := X0.specialBack hx (y := (⟨"java/lang/AbstractStringBuilder", "<init>", "(I)V"⟩ : MethodName)) rfl hown (mvT hZ (hw _ (List.mem_of_getElem? (i := 45) rfl))) (mvT hZ (hw _ (List.mem_of_getElem? (i := 46) rfl))) (mvT hZ (hw _ (List.mem_of_getElem? (i := 50) rfl))) (by decide) (backOf (W := 0) (rm9 l Z a0 hw [] a1 (16 : Int32) G1 h0 n0 (Nat.le_trans Z0 K0.1) OLD0 SCS P5 g_a1 E_a1 Gv_a1 Gc_a1 Gn_a1 rfl) hZ (hw _ (List.mem_of_getElem? (i := 50) rfl)) (hw _ (List.mem_of_getElem? (i := 49) rfl)) (by decide) (by decide)) (g := (mkF m 3 #[.val (.ref a1)] [(.int (16 : Int32)), (.ref a1)])) rfl (by rw [hml]; rfl) (Steps.refl _) (a := a1) (argsL := [(.int (16 : Int32))]) (rest := []) (lenOf pd__I_V rfl) rfl (by show 2 * 0 + _ ≤ _; exact Nat.le_of_eq rfl) (hb hby d8_3) (fun _ _ => ⟨rfl, e0, (by decide : 0 + 1 ≤ _), (by decide : 0 + 16 ≤ _)⟩)
  dsimp only [Pt.U, Pt.locs, Pt.cells, Pt.slots] at X1 l1 y1 z1 st1 hQ1
  subst l1 y1 z1
  obtain ⟨bb1, bk1, rfl, N1q, kq1, gg1, u1, sb1⟩ := hQ1
  have N1 := Fr.app N0 N1q
  have K1 := K0.trans kq1 (allS (Or.inl (List.mem_of_getElem? (i := 0) rfl)) all0)
  obtain ⟨fs, hr, hrun, hended, hW, hsame⟩ := X1.leave (v := none) (fun _ => rfl)
  refine ⟨_, _, pre0 _ ?_, hrun, hended, _, _, rfl, ?_, ⟨_, rfl⟩, hW, hsame.mono (by decide) (by decide)⟩
  ·
    show Steps p.tables e below (s₁.setTop (mkF m 0 #[.val (.ref a1)] [])) _
    refine XS.aloadN X0.here hx rfl (hb hby d8_0) rfl rfl ?_
    show Steps p.tables e below (s₁.setTop (mkF m 1 #[.val (.ref a1)] [(.ref a1)])) _
    refine XS.bipush X0.here hx rfl (hb hby d8_1) ?_
    show Steps p.tables e below (s₁.setTop (mkF m 3 #[.val (.ref a1)] [(.int (16 : Int32)), (.ref a1)])) _
    refine st1.trans ?_
    show Steps p.tables e below (T1.setTop (mkF m 6 #[.val (.ref a1)] [])) _
    exact X1.returnOut hx Bd.returns (hb hby d8_6) hr
  ·
    show Q8 Z a1 G1 h0 n0 _ T1.heap _
    exact ⟨bb1, bk1, rfl, N1, K1, gg1, u1, sb1⟩
theorem d26_0 : decode jdk_68_method_64_code 0 = .ok (.aload_n 0, 1) := by decide +kernel
theorem d26_1 : decode jdk_68_method_64_code 1 = .ok (.getfield 15, 3) := by decide +kernel
theorem d26_4 : decode jdk_68_method_64_code 4 = .ok (.areturn, 1) := by decide +kernel
theorem pn_26 : plainName "java/lang/AbstractStringBuilder" = true := by first | (simp [plainName, overriddenIn]; done) | decide +kernel
theorem ef_26 (m : MethodId) (a1 : Addr) : entryFrame m #[(.ref a1)] 1 = (mkF m 0 #[.val (.ref a1)] []) := by first | (simp [entryFrame, mkF, argsToLocals, Value.category]; done) | rfl
def Q26 (Z : State) (a1 : Addr) (t : Addr) (h0 : Heap) (n0 : Nat) (v : Option Value) (h : Heap) (L : List Loc) : Prop := v = some (.ref t) ∧ Fr n0 L ∧ h = h0
set_option maxRecDepth 65536 in
set_option maxHeartbeats 40000000 in
theorem rm26 (l : Launch) (Z : State) (a0 : Array Value) (hw : ∀ d ∈ tables_1, d.before a0 Z = true) (ws : List Jvm.Cond) (a1 : Addr) (t : Addr) (h0 : Heap) (n0 : Nat) (Z0 : n0 ≤ h0.size) (E_a1 : Exa Z h0 a1 "java/lang/StringBuilder") (F_ : Fld Z h0 a1 "java/lang/AbstractStringBuilder" "value" "[B" (.ref t)) :
    MetFree l (⟨"java/lang/AbstractStringBuilder", "getValue", "()[B"⟩ : MethodName) (head1 (Jvm.Cond.code (⟨"java/lang/AbstractStringBuilder", "getValue", "()[B"⟩ : MethodName) jdk_68_method_64_code 1 (some (.array .byte)) :: ws) ({ frames := 0, cells := 0, slots := 0, locals := 0 } : Room)) (fun a U => a = #[(.ref a1)] ∧ Z.Warmed39 U.vm ∧ U.heap = h0) (fun _ _ _ _ _ => True) (fun _ U o U' => ∃ v L, o = .returned v ∧ Q26 Z a1 t h0 n0 v U'.heap L ∧ FrameEnd U o U' L ({ frames := 0, cells := 0, slots := 0, locals := 0 } : Room).cells ({ frames := 0, cells := 0, slots := 0, locals := 0 } : Room).slots) := by
  refine MetFree.of_bodySF (plainFor_of_name pn_26) hisR ?_
  intro p e s m args below meth c s₁ Bd hml0 hP hK
  obtain ⟨rfl, hZ, hh⟩ := hP
  have hx := Bd.exec
  have hby := Bd.bytes
  have hml : c.maxLocals = 1 := hml0
  have hown : s.vm.findClass "java/lang/AbstractStringBuilder" = some m.cls := findClass_of_methodNamed Bd.named
  have hnm := (name_of_methodNamed Bd.named Bd.method).1
  have X0 : Stand p l e ({ frames := 0, cells := 0, slots := 0, locals := 0 } : Room) s m #[(.ref a1)] below meth c s₁ [] 0 0 := Stand.of_body Bd
  have e0 : s₁.heap = h0 := by rw [← hh, Bd.state]; rfl
  have N0 := Fr.nil n0
  have K0 := Keep.refl h0 ([] : List Addr)
  have pre0 : ∀ t, Steps p.tables e below (s₁.setTop (mkF m 0 #[.val (.ref a1)] [])) t → Steps p.tables e below (s₁.setTop (entryFrame m #[(.ref a1)] 1)) t := fun t k => castTop (ef_26 m a1) k
  obtain ⟨T1, X1, e1, st1⟩ := getF X0 hx hZ hown (host := "") (Or.inl (hw _ (List.mem_of_getElem? (i := 53) rfl))) Via.refl e0 F_ (g := (mkF m 1 #[.val (.ref a1)] [(.ref a1)])) rfl rfl (hb hby d26_1)
  obtain ⟨fs, hr, hrun, hended, hW, hsame⟩ := X1.leave (v := some (.ref t)) (fun h => by rw [Bd.returns] at h; cases h)
  refine ⟨_, _, pre0 _ ?_, hrun, hended, _, _, rfl, ?_, ⟨_, rfl⟩, hW, hsame.mono (by decide) (by decide)⟩
  ·
    show Steps p.tables e below (s₁.setTop (mkF m 0 #[.val (.ref a1)] [])) _
    refine XS.aloadN X0.here hx rfl (hb hby d26_0) rfl rfl ?_
    show Steps p.tables e below (s₁.setTop (mkF m 1 #[.val (.ref a1)] [(.ref a1)])) _
    refine st1 _ ?_
    show Steps p.tables e below (T1.setTop (mkF m 4 #[.val (.ref a1)] [(.ref t)])) _
    jvm_step X1.here [X1.here.top, hx, (hb hby d26_4), X1.method', Bd.returns, Value.isRef, FieldType.isReference]
    first | (intro acts; rw [hr _ acts rfl rfl rfl]) | rw [hr _ _ rfl rfl rfl]
    exact Steps.refl _
  ·
    show Q26 Z a1 t h0 n0 _ T1.heap _
    rw [e1]
    exact ⟨rfl, N0, rfl⟩
theorem d28_0 : decode jdk_68_method_6_code 0 = .ok (.aload_n 0, 1) := by decide +kernel
theorem d28_1 : decode jdk_68_method_6_code 1 = .ok (.getfield 79, 3) := by decide +kernel
theorem d28_4 : decode jdk_68_method_6_code 4 = .ok (.ireturn, 1) := by decide +kernel
theorem pn_28 : plainName "java/lang/AbstractStringBuilder" = true := by first | (simp [plainName, overriddenIn]; done) | decide +kernel
theorem ef_28 (m : MethodId) (a1 : Addr) : entryFrame m #[(.ref a1)] 1 = (mkF m 0 #[.val (.ref a1)] []) := by first | (simp [entryFrame, mkF, argsToLocals, Value.category]; done) | rfl
def Q28 (Z : State) (a1 : Addr) (cn : Int32) (h0 : Heap) (n0 : Nat) (v : Option Value) (h : Heap) (L : List Loc) : Prop := v = some (.int cn) ∧ Fr n0 L ∧ h = h0
set_option maxRecDepth 65536 in
set_option maxHeartbeats 40000000 in
theorem rm28 (l : Launch) (Z : State) (a0 : Array Value) (hw : ∀ d ∈ tables_1, d.before a0 Z = true) (ws : List Jvm.Cond) (a1 : Addr) (cn : Int32) (h0 : Heap) (n0 : Nat) (Z0 : n0 ≤ h0.size) (E_a1 : Exa Z h0 a1 "java/lang/StringBuilder") (F_ : Fld Z h0 a1 "java/lang/AbstractStringBuilder" "count" "I" (.int cn)) :
    MetFree l (⟨"java/lang/AbstractStringBuilder", "length", "()I"⟩ : MethodName) (head1 (Jvm.Cond.code (⟨"java/lang/AbstractStringBuilder", "length", "()I"⟩ : MethodName) jdk_68_method_6_code 1 (some .int) :: ws) ({ frames := 0, cells := 0, slots := 0, locals := 0 } : Room)) (fun a U => a = #[(.ref a1)] ∧ Z.Warmed39 U.vm ∧ U.heap = h0) (fun _ _ _ _ _ => True) (fun _ U o U' => ∃ v L, o = .returned v ∧ Q28 Z a1 cn h0 n0 v U'.heap L ∧ FrameEnd U o U' L ({ frames := 0, cells := 0, slots := 0, locals := 0 } : Room).cells ({ frames := 0, cells := 0, slots := 0, locals := 0 } : Room).slots) := by
  refine MetFree.of_bodySF (plainFor_of_name pn_28) hisR ?_
  intro p e s m args below meth c s₁ Bd hml0 hP hK
  obtain ⟨rfl, hZ, hh⟩ := hP
  have hx := Bd.exec
  have hby := Bd.bytes
  have hml : c.maxLocals = 1 := hml0
  have hown : s.vm.findClass "java/lang/AbstractStringBuilder" = some m.cls := findClass_of_methodNamed Bd.named
  have hnm := (name_of_methodNamed Bd.named Bd.method).1
  have X0 : Stand p l e ({ frames := 0, cells := 0, slots := 0, locals := 0 } : Room) s m #[(.ref a1)] below meth c s₁ [] 0 0 := Stand.of_body Bd
  have e0 : s₁.heap = h0 := by rw [← hh, Bd.state]; rfl
  have N0 := Fr.nil n0
  have K0 := Keep.refl h0 ([] : List Addr)
  have pre0 : ∀ t, Steps p.tables e below (s₁.setTop (mkF m 0 #[.val (.ref a1)] [])) t → Steps p.tables e below (s₁.setTop (entryFrame m #[(.ref a1)] 1)) t := fun t k => castTop (ef_28 m a1) k
  obtain ⟨T1, X1, e1, st1⟩ := getF X0 hx hZ hown (host := "") (Or.inl (hw _ (List.mem_of_getElem? (i := 78) rfl))) Via.refl e0 F_ (g := (mkF m 1 #[.val (.ref a1)] [(.ref a1)])) rfl rfl (hb hby d28_1)
  obtain ⟨fs, hr, hrun, hended, hW, hsame⟩ := X1.leave (v := some (.int cn)) (fun h => by rw [Bd.returns] at h; cases h)
  refine ⟨_, _, pre0 _ ?_, hrun, hended, _, _, rfl, ?_, ⟨_, rfl⟩, hW, hsame.mono (by decide) (by decide)⟩
  ·
    show Steps p.tables e below (s₁.setTop (mkF m 0 #[.val (.ref a1)] [])) _
    refine XS.aloadN X0.here hx rfl (hb hby d28_0) rfl rfl ?_
    show Steps p.tables e below (s₁.setTop (mkF m 1 #[.val (.ref a1)] [(.ref a1)])) _
    refine st1 _ ?_
    show Steps p.tables e below (T1.setTop (mkF m 4 #[.val (.ref a1)] [(.int cn)])) _
    exact retI X1 hx Bd.returns (hb hby d28_4) hr
  ·
    show Q28 Z a1 cn h0 n0 _ T1.heap _
    rw [e1]
    exact ⟨rfl, N0, rfl⟩
theorem d27_0 : decode jdk_67_method_93_code 0 = .ok (.aload_n 0, 1) := by decide +kernel
theorem d27_1 : decode jdk_67_method_93_code 1 = .ok (.invokespecial 343, 3) := by decide +kernel
theorem d27_4 : decode jdk_67_method_93_code 4 = .ok (.ireturn, 1) := by decide +kernel
theorem pn_27 : plainName "java/lang/StringBuilder" = true := by first | (simp [plainName, overriddenIn]; done) | decide +kernel
theorem ef_27 (m : MethodId) (a1 : Addr) : entryFrame m #[(.ref a1)] 1 = (mkF m 0 #[.val (.ref a1)] []) := by first | (simp [entryFrame, mkF, argsToLocals, Value.category]; done) | rfl
def Q27 (Z : State) (a1 : Addr) (cn : Int32) (h0 : Heap) (n0 : Nat) (v : Option Value) (h : Heap) (L : List Loc) : Prop := v = some (.int cn) ∧ Fr n0 L ∧ h = h0
set_option maxRecDepth 65536 in
set_option maxHeartbeats 40000000 in
theorem rm27 (l : Launch) (Z : State) (a0 : Array Value) (hw : ∀ d ∈ tables_1, d.before a0 Z = true) (ws : List Jvm.Cond) (a1 : Addr) (cn : Int32) (h0 : Heap) (n0 : Nat) (Z0 : n0 ≤ h0.size) (E_a1 : Exa Z h0 a1 "java/lang/StringBuilder") (F_ : Fld Z h0 a1 "java/lang/AbstractStringBuilder" "count" "I" (.int cn)) :
    MetFree l (⟨"java/lang/StringBuilder", "length", "()I"⟩ : MethodName) (head1 (Jvm.Cond.code (⟨"java/lang/StringBuilder", "length", "()I"⟩ : MethodName) jdk_67_method_93_code 1 (some .int) :: ws) ({ frames := 1, cells := 0, slots := 0, locals := 12 } : Room)) (fun a U => a = #[(.ref a1)] ∧ Z.Warmed39 U.vm ∧ U.heap = h0) (fun _ _ _ _ _ => True) (fun _ U o U' => ∃ v L, o = .returned v ∧ Q27 Z a1 cn h0 n0 v U'.heap L ∧ FrameEnd U o U' L ({ frames := 1, cells := 0, slots := 0, locals := 12 } : Room).cells ({ frames := 1, cells := 0, slots := 0, locals := 12 } : Room).slots) := by
  refine MetFree.of_bodySF (plainFor_of_name pn_27) hisR ?_
  intro p e s m args below meth c s₁ Bd hml0 hP hK
  obtain ⟨rfl, hZ, hh⟩ := hP
  have hx := Bd.exec
  have hby := Bd.bytes
  have hml : c.maxLocals = 1 := hml0
  have hown : s.vm.findClass "java/lang/StringBuilder" = some m.cls := findClass_of_methodNamed Bd.named
  have hnm := (name_of_methodNamed Bd.named Bd.method).1
  have X0 : Stand p l e ({ frames := 1, cells := 0, slots := 0, locals := 12 } : Room) s m #[(.ref a1)] below meth c s₁ [] 0 0 := Stand.of_body Bd
  have e0 : s₁.heap = h0 := by rw [← hh, Bd.state]; rfl
  have N0 := Fr.nil n0
  have K0 := Keep.refl h0 ([] : List Addr)
  have pre0 : ∀ t, Steps p.tables e below (s₁.setTop (mkF m 0 #[.val (.ref a1)] [])) t → Steps p.tables e below (s₁.setTop (entryFrame m #[(.ref a1)] 1)) t := fun t k => castTop (ef_27 m a1) k
  obtain ⟨_, _, ⟨T1, L1, k1, n1⟩, -, X1, ⟨Lc1, hQ1, l1, y1, z1⟩, st1⟩ := superBack X0 hx hZ (y := (⟨"java/lang/AbstractStringBuilder", "length", "()I"⟩ : MethodName)) hown (hw _ (List.mem_of_getElem? (i := 152) rfl)) (own_same (x := (⟨"java/lang/AbstractStringBuilder", "length", "()I"⟩ : MethodName)) (y := (⟨"java/lang/AbstractStringBuilder", "ensureCapacityInternal", "(I)V"⟩ : MethodName)) rfl (by decide) (hw _ (List.mem_of_getElem? (i := 148) rfl)) (hw _ (List.mem_of_getElem? (i := 83) rfl))) (hw _ (List.mem_of_getElem? (i := 148) rfl)) (hw _ (List.mem_of_getElem? (i := 65) rfl)) (by decide) (backOf (W := 0) (rm28 l Z a0 hw [] a1 cn h0 n0 (Nat.le_trans Z0 K0.1) E_a1 F_) hZ (hw _ (List.mem_of_getElem? (i := 153) rfl)) (hw _ (List.mem_of_getElem? (i := 49) rfl)) (by decide) (by decide)) e0 (Ins.self E_a1) (g := (mkF m 1 #[.val (.ref a1)] [(.ref a1)])) rfl (by rw [hml]; rfl) (hw _ (List.mem_of_getElem? (i := 153) rfl)) (argsL := []) (rest := []) (lenOf pd___I rfl) rfl (by show 2 * 0 + _ ≤ _; exact Nat.le_of_eq rfl) (hb hby d27_1) (fun _ _ => ⟨rfl, e0, (by decide : 0 + 0 ≤ _), (by decide : 0 + 0 ≤ _)⟩)
  dsimp only [Pt.U, Pt.locs, Pt.cells, Pt.slots] at X1 l1 y1 z1 st1 hQ1
  subst l1 y1 z1
  obtain ⟨rfl, N1q, hq1⟩ := hQ1
  have N1 := Fr.app N0 N1q
  have E1 : Ext h0 T1.heap := by rw [hq1]; exact ⟨Nat.le_refl _, fun _ _ q => q⟩
  have K1 := K0.ext E1
  obtain ⟨fs, hr, hrun, hended, hW, hsame⟩ := X1.leave (v := some (.int cn)) (fun h => by rw [Bd.returns] at h; cases h)
  refine ⟨_, _, pre0 _ ?_, hrun, hended, _, _, rfl, ?_, ⟨_, rfl⟩, hW, hsame.mono (by decide) (by decide)⟩
  ·
    show Steps p.tables e below (s₁.setTop (mkF m 0 #[.val (.ref a1)] [])) _
    refine XS.aloadN X0.here hx rfl (hb hby d27_0) rfl rfl ?_
    show Steps p.tables e below (s₁.setTop (mkF m 1 #[.val (.ref a1)] [(.ref a1)])) _
    refine st1.trans ?_
    show Steps p.tables e below (T1.setTop (mkF m 4 #[.val (.ref a1)] [(.int cn)])) _
    exact retI X1 hx Bd.returns (hb hby d27_4) hr
  ·
    show Q27 Z a1 cn h0 n0 _ T1.heap _
    exact ⟨rfl, N1, hq1⟩
theorem d29_0 : decode jdk_68_method_68_code 0 = .ok (.getstatic 18, 3) := by decide +kernel
theorem d29_3 : decode jdk_68_method_68_code 3 = .ok (.ifCond .eq 14, 3) := by decide +kernel
theorem d29_6 : decode jdk_68_method_68_code 6 = .ok (.aload_n 0, 1) := by decide +kernel
theorem d29_7 : decode jdk_68_method_68_code 7 = .ok (.getfield 22, 3) := by decide +kernel
theorem d29_10 : decode jdk_68_method_68_code 10 = .ok (.ifCond .ne 7, 3) := by decide +kernel
theorem d29_13 : decode jdk_68_method_68_code 13 = .ok (.iconst 1, 1) := by decide +kernel
theorem d29_14 : decode jdk_68_method_68_code 14 = .ok (.goto 4, 3) := by decide +kernel
theorem d29_18 : decode jdk_68_method_68_code 18 = .ok (.ireturn, 1) := by decide +kernel
theorem pn_29 : plainName "java/lang/AbstractStringBuilder" = true := by first | (simp [plainName, overriddenIn]; done) | decide +kernel
theorem ef_29 (m : MethodId) (a1 : Addr) : entryFrame m #[(.ref a1)] 1 = (mkF m 0 #[.val (.ref a1)] []) := by first | (simp [entryFrame, mkF, argsToLocals, Value.category]; done) | rfl
def Q29 (Z : State) (a1 : Addr) (G1 : Int32) (h0 : Heap) (n0 : Nat) (v : Option Value) (h : Heap) (L : List Loc) : Prop := v = some (.int (1 : Int32)) ∧ Fr n0 L ∧ h = h0
set_option maxRecDepth 65536 in
set_option maxHeartbeats 40000000 in
theorem rm29 (l : Launch) (Z : State) (a0 : Array Value) (hw : ∀ d ∈ tables_1, d.before a0 Z = true) (ws : List Jvm.Cond) (a1 : Addr) (G1 : Int32) (h0 : Heap) (n0 : Nat) (Z0 : n0 ≤ h0.size) (OLD0 : Old Z n0 h0) (SCS : Sta Z Z.heap "java/lang/String" "COMPACT_STRINGS" "Z" (.int G1)) (P5 : ¬ (G1 = (0 : Int32))) (E_a1 : Exa Z h0 a1 "java/lang/StringBuilder") (F_ : Fld Z h0 a1 "java/lang/AbstractStringBuilder" "coder" "B" (.int (0 : Int32))) :
    MetFree l (⟨"java/lang/AbstractStringBuilder", "isLatin1", "()Z"⟩ : MethodName) (head1 (Jvm.Cond.code (⟨"java/lang/AbstractStringBuilder", "isLatin1", "()Z"⟩ : MethodName) jdk_68_method_68_code 1 (some .boolean) :: ws) ({ frames := 0, cells := 0, slots := 0, locals := 0 } : Room)) (fun a U => a = #[(.ref a1)] ∧ Z.Warmed39 U.vm ∧ U.heap = h0) (fun _ _ _ _ _ => True) (fun _ U o U' => ∃ v L, o = .returned v ∧ Q29 Z a1 G1 h0 n0 v U'.heap L ∧ FrameEnd U o U' L ({ frames := 0, cells := 0, slots := 0, locals := 0 } : Room).cells ({ frames := 0, cells := 0, slots := 0, locals := 0 } : Room).slots) := by
  refine MetFree.of_bodySF (plainFor_of_name pn_29) hisR ?_
  intro p e s m args below meth c s₁ Bd hml0 hP hK
  obtain ⟨rfl, hZ, hh⟩ := hP
  have hx := Bd.exec
  have hby := Bd.bytes
  have hml : c.maxLocals = 1 := hml0
  have hown : s.vm.findClass "java/lang/AbstractStringBuilder" = some m.cls := findClass_of_methodNamed Bd.named
  have hnm := (name_of_methodNamed Bd.named Bd.method).1
  have X0 : Stand p l e ({ frames := 0, cells := 0, slots := 0, locals := 0 } : Room) s m #[(.ref a1)] below meth c s₁ [] 0 0 := Stand.of_body Bd
  have e0 : s₁.heap = h0 := by rw [← hh, Bd.state]; rfl
  have N0 := Fr.nil n0
  have K0 := Keep.refl h0 ([] : List Addr)
  have pre0 : ∀ t, Steps p.tables e below (s₁.setTop (mkF m 0 #[.val (.ref a1)] [])) t → Steps p.tables e below (s₁.setTop (entryFrame m #[(.ref a1)] 1)) t := fun t k => castTop (ef_29 m a1) k
  have q1 := SCS.ext (OLD0.keep K0 all0).2
  obtain ⟨T2, X2, e2, st2⟩ := getS2 X0 hx hZ hown (host := "") (Or.inl (hw _ (List.mem_of_getElem? (i := 52) rfl))) Via.refl e0 q1 (g := (mkF m 0 #[.val (.ref a1)] [])) rfl (hb hby d29_0)
  have hk3 : ¬ (G1 = (0 : Int32)) := P5
  obtain ⟨T4, X4, e4, st4⟩ := getF X2 hx hZ hown (host := "") (Or.inl (hw _ (List.mem_of_getElem? (i := 55) rfl))) Via.refl e2 F_ (g := (mkF m 7 #[.val (.ref a1)] [(.ref a1)])) rfl rfl (hb hby d29_7)
  obtain ⟨fs, hr, hrun, hended, hW, hsame⟩ := X4.leave (v := some (.int (1 : Int32))) (fun h => by rw [Bd.returns] at h; cases h)
  refine ⟨_, _, pre0 _ ?_, hrun, hended, _, _, rfl, ?_, ⟨_, rfl⟩, hW, hsame.mono (by decide) (by decide)⟩
  ·
    show Steps p.tables e below (s₁.setTop (mkF m 0 #[.val (.ref a1)] [])) _
    refine st2 _ ?_
    show Steps p.tables e below (T2.setTop (mkF m 3 #[.val (.ref a1)] [(.int G1)])) _
    refine XS.ifNo X2.here hx rfl (hb hby d29_3) rfl ((if0 _ _).trans (feq hk3).1) ?_
    show Steps p.tables e below (T2.setTop (mkF m 6 #[.val (.ref a1)] [])) _
    refine XS.aloadN X2.here hx rfl (hb hby d29_6) rfl rfl ?_
    show Steps p.tables e below (T2.setTop (mkF m 7 #[.val (.ref a1)] [(.ref a1)])) _
    refine st4 _ ?_
    show Steps p.tables e below (T4.setTop (mkF m 10 #[.val (.ref a1)] [(.int (0 : Int32))])) _
    refine XS.ifNo X4.here hx rfl (hb hby d29_10) rfl ((if0 _ _).trans (teq (by decide : (0 : Int32) = (0 : Int32))).2) ?_
    show Steps p.tables e below (T4.setTop (mkF m 13 #[.val (.ref a1)] [])) _
    refine XS.iconst X4.here hx rfl (hb hby d29_13) ?_
    show Steps p.tables e below (T4.setTop (mkF m 14 #[.val (.ref a1)] [(.int (1 : Int32))])) _
    refine XS.goto X4.here hx rfl (pc0 := 14) (pc' := 18) rfl (hb hby d29_14) (by decide) (by decide) ?_
    show Steps p.tables e below (T4.setTop (mkF m 18 #[.val (.ref a1)] [(.int (1 : Int32))])) _
    exact retN X4 hx (t := .boolean) Bd.returns (by simp) (hb hby d29_18) hr
  ·
    show Q29 Z a1 G1 h0 n0 _ T4.heap _
    rw [e4]
    exact ⟨rfl, N0, rfl⟩
theorem d32_0 : decode jdk_65_method_131_code 0 = .ok (.iload_n 1, 1) := by decide +kernel
theorem d32_1 : decode jdk_65_method_131_code 1 = .ok (.iload_n 0, 1) := by decide +kernel
theorem d32_2 : decode jdk_65_method_131_code 2 = .ok (.if_icmp .ge 35, 3) := by decide +kernel
theorem d32_37 : decode jdk_65_method_131_code 37 = .ok (.return_, 1) := by decide +kernel
theorem pn_32 : plainName "java/util/Arrays" = true := by first | (simp [plainName, overriddenIn]; done) | decide +kernel
theorem ef_32 (m : MethodId) (p0 : Int32) (p1 : Int32) : entryFrame m #[(.int p0), (.int p1)] 2 = (mkF m 0 #[.val (.int p0), .val (.int p1)] []) := by first | (simp [entryFrame, mkF, argsToLocals, Value.category]; done) | rfl
def Q32 (Z : State) (p0 : Int32) (p1 : Int32) (h0 : Heap) (n0 : Nat) (v : Option Value) (h : Heap) (L : List Loc) : Prop := v = none ∧ Fr n0 L ∧ h = h0
set_option maxRecDepth 65536 in
set_option maxHeartbeats 40000000 in
theorem rm32 (l : Launch) (Z : State) (a0 : Array Value) (hw : ∀ d ∈ tables_1, d.before a0 Z = true) (ws : List Jvm.Cond) (p0 : Int32) (p1 : Int32) (h0 : Heap) (n0 : Nat) (Z0 : n0 ≤ h0.size) (hp : ¬ p1 < p0) :
    MetFree l (⟨"java/util/Arrays", "checkLength", "(II)V"⟩ : MethodName) (head1 (Jvm.Cond.code (⟨"java/util/Arrays", "checkLength", "(II)V"⟩ : MethodName) jdk_65_method_131_code 2 none :: ws) ({ frames := 0, cells := 0, slots := 0, locals := 0 } : Room)) (fun a U => a = #[(.int p0), (.int p1)] ∧ Z.Warmed39 U.vm ∧ U.heap = h0) (fun _ _ _ _ _ => True) (fun _ U o U' => ∃ v L, o = .returned v ∧ Q32 Z p0 p1 h0 n0 v U'.heap L ∧ FrameEnd U o U' L ({ frames := 0, cells := 0, slots := 0, locals := 0 } : Room).cells ({ frames := 0, cells := 0, slots := 0, locals := 0 } : Room).slots) := by
  refine MetFree.of_bodySF (plainFor_of_name pn_32) hisR ?_
  intro p e s m args below meth c s₁ Bd hml0 hP hK
  obtain ⟨rfl, hZ, hh⟩ := hP
  have hx := Bd.exec
  have hby := Bd.bytes
  have hml : c.maxLocals = 2 := hml0
  have hown : s.vm.findClass "java/util/Arrays" = some m.cls := findClass_of_methodNamed Bd.named
  have hnm := (name_of_methodNamed Bd.named Bd.method).1
  have X0 : Stand p l e ({ frames := 0, cells := 0, slots := 0, locals := 0 } : Room) s m #[(.int p0), (.int p1)] below meth c s₁ [] 0 0 := Stand.of_body Bd
  have e0 : s₁.heap = h0 := by rw [← hh, Bd.state]; rfl
  have N0 := Fr.nil n0
  have K0 := Keep.refl h0 ([] : List Addr)
  have pre0 : ∀ t, Steps p.tables e below (s₁.setTop (mkF m 0 #[.val (.int p0), .val (.int p1)] [])) t → Steps p.tables e below (s₁.setTop (entryFrame m #[(.int p0), (.int p1)] 2)) t := fun t k => castTop (ef_32 m p0 p1) k
  have hk1 : ¬ (p1 < p0) := hp
  obtain ⟨fs, hr, hrun, hended, hW, hsame⟩ := X0.leave (v := none) (fun _ => rfl)
  refine ⟨_, _, pre0 _ ?_, hrun, hended, _, _, rfl, ?_, ⟨_, rfl⟩, hW, hsame.mono (by decide) (by decide)⟩
  ·
    show Steps p.tables e below (s₁.setTop (mkF m 0 #[.val (.int p0), .val (.int p1)] [])) _
    refine XS.iloadN X0.here hx rfl (hb hby d32_0) rfl ?_
    show Steps p.tables e below (s₁.setTop (mkF m 1 #[.val (.int p0), .val (.int p1)] [(.int p1)])) _
    refine XS.iloadN X0.here hx rfl (hb hby d32_1) rfl ?_
    show Steps p.tables e below (s₁.setTop (mkF m 2 #[.val (.int p0), .val (.int p1)] [(.int p0), (.int p1)])) _
    refine XS.icmpYes X0.here hx rfl (pc0 := 2) (pc' := 37) rfl (hb hby d32_2) rfl (flt hk1).2.1 (by decide) (by decide) ?_
    show Steps p.tables e below (s₁.setTop (mkF m 37 #[.val (.int p0), .val (.int p1)] [])) _
    exact X0.returnOut hx Bd.returns (hb hby d32_37) hr
  ·
    show Q32 Z p0 p1 h0 n0 _ s₁.heap _
    rw [e0]
    exact ⟨rfl, N0, rfl⟩
theorem d31_0 : decode jdk_65_method_133_code 0 = .ok (.iload_n 1, 1) := by decide +kernel
theorem d31_1 : decode jdk_65_method_133_code 1 = .ok (.iload_n 2, 1) := by decide +kernel
theorem d31_2 : decode jdk_65_method_133_code 2 = .ok (.invokestatic 343, 3) := by decide +kernel
theorem d31_5 : decode jdk_65_method_133_code 5 = .ok (.iload_n 2, 1) := by decide +kernel
theorem d31_6 : decode jdk_65_method_133_code 6 = .ok (.iload_n 1, 1) := by decide +kernel
theorem d31_7 : decode jdk_65_method_133_code 7 = .ok (.isub, 1) := by decide +kernel
theorem d31_8 : decode jdk_65_method_133_code 8 = .ok (.istore_n 3, 1) := by decide +kernel
theorem d31_9 : decode jdk_65_method_133_code 9 = .ok (.iload_n 3, 1) := by decide +kernel
theorem d31_10 : decode jdk_65_method_133_code 10 = .ok (.newarray .byte, 2) := by decide +kernel
theorem d31_12 : decode jdk_65_method_133_code 12 = .ok (.astore 4, 2) := by decide +kernel
theorem d31_14 : decode jdk_65_method_133_code 14 = .ok (.aload_n 0, 1) := by decide +kernel
theorem d31_15 : decode jdk_65_method_133_code 15 = .ok (.iload_n 1, 1) := by decide +kernel
theorem d31_16 : decode jdk_65_method_133_code 16 = .ok (.aload 4, 2) := by decide +kernel
theorem d31_18 : decode jdk_65_method_133_code 18 = .ok (.iconst 0, 1) := by decide +kernel
theorem d31_19 : decode jdk_65_method_133_code 19 = .ok (.aload_n 0, 1) := by decide +kernel
theorem d31_20 : decode jdk_65_method_133_code 20 = .ok (.arraylength, 1) := by decide +kernel
theorem d31_21 : decode jdk_65_method_133_code 21 = .ok (.iload_n 1, 1) := by decide +kernel
theorem d31_22 : decode jdk_65_method_133_code 22 = .ok (.isub, 1) := by decide +kernel
theorem d31_23 : decode jdk_65_method_133_code 23 = .ok (.iload_n 3, 1) := by decide +kernel
theorem d31_24 : decode jdk_65_method_133_code 24 = .ok (.invokestatic 304, 3) := by decide +kernel
theorem d31_27 : decode jdk_65_method_133_code 27 = .ok (.invokestatic 150, 3) := by decide +kernel
theorem d31_30 : decode jdk_65_method_133_code 30 = .ok (.aload 4, 2) := by decide +kernel
theorem d31_32 : decode jdk_65_method_133_code 32 = .ok (.areturn, 1) := by decide +kernel
theorem pn_31 : plainName "java/util/Arrays" = true := by first | (simp [plainName, overriddenIn]; done) | decide +kernel
theorem pd__II_V : parseMethodDescriptor "(II)V" = some ⟨[.int, .int], none⟩ := by decide +kernel
theorem ef_31 (m : MethodId) (a1 : Addr) (p2 : Int32) (p3 : Int32) : entryFrame m #[(.ref a1), (.int p2), (.int p3)] 5 = (mkF m 0 #[.val (.ref a1), .val (.int p2), .val (.int p3), .unset, .unset] []) := by first | (simp [entryFrame, mkF, argsToLocals, Value.category]; done) | rfl
def Q31 (Z : State) (a1 : Addr) (p2 : Int32) (p3 : Int32) (kd : ClassId) (cs : List Int32) (r : Nat) (h0 : Heap) (n0 : Nat) (v : Option Value) (h : Heap) (L : List Loc) : Prop := ∃ (b : Addr) (k : ClassId), v = some (.ref b) ∧ Fr n0 L ∧ Keep h0 h [] ∧ n0 ≤ b ∧ h0.size ≤ b ∧ Arv Z h b k .byte (Int32.ofNat cs.length) (own_B cs) (.int (0 : Int32))
set_option maxRecDepth 65536 in
set_option maxHeartbeats 40000000 in
theorem rm31 (l : Launch) (Z : State) (a0 : Array Value) (hw : ∀ d ∈ tables_1, d.before a0 Z = true) (ws : List Jvm.Cond) (a1 : Addr) (p2 : Int32) (p3 : Int32) (kd : ClassId) (cs : List Int32) (r : Nat) (h0 : Heap) (n0 : Nat) (Z0 : n0 ≤ h0.size) (Vd : Arv Z h0 a1 kd .byte (Int32.ofNat (own_P cs r).length) (own_P cs r) (.int (0 : Int32))) (hcl : cs.length + r ≤ 4000) (hrp : 0 < r) (hp2 : p2 = (0 : Int32)) (hp3 : p3 = Int32.ofNat cs.length) (hcap : cs.length ≤ 64) :
    MetFree l (⟨"java/util/Arrays", "copyOfRangeByte", "([BII)[B"⟩ : MethodName) (head1 (Jvm.Cond.code (⟨"java/util/Arrays", "copyOfRangeByte", "([BII)[B"⟩ : MethodName) jdk_65_method_133_code 5 (some (.array .byte)) :: ws) ({ frames := 1, cells := 1, slots := 64, locals := 18 } : Room)) (fun a U => a = #[(.ref a1), (.int p2), (.int p3)] ∧ Z.Warmed39 U.vm ∧ U.heap = h0) (fun _ _ _ _ _ => True) (fun _ U o U' => ∃ v L, o = .returned v ∧ Q31 Z a1 p2 p3 kd cs r h0 n0 v U'.heap L ∧ FrameEnd U o U' L ({ frames := 1, cells := 1, slots := 64, locals := 18 } : Room).cells ({ frames := 1, cells := 1, slots := 64, locals := 18 } : Room).slots) := by
  refine MetFree.of_bodySF (plainFor_of_name pn_31) hisR ?_
  intro p e s m args below meth c s₁ Bd hml0 hP hK
  obtain ⟨rfl, hZ, hh⟩ := hP
  have hx := Bd.exec
  have hby := Bd.bytes
  have hml : c.maxLocals = 5 := hml0
  have hown : s.vm.findClass "java/util/Arrays" = some m.cls := findClass_of_methodNamed Bd.named
  have hnm := (name_of_methodNamed Bd.named Bd.method).1
  have X0 : Stand p l e ({ frames := 1, cells := 1, slots := 64, locals := 18 } : Room) s m #[(.ref a1), (.int p2), (.int p3)] below meth c s₁ [] 0 0 := Stand.of_body Bd
  have e0 : s₁.heap = h0 := by rw [← hh, Bd.state]; rfl
  have N0 := Fr.nil n0
  have K0 := Keep.refl h0 ([] : List Addr)
  have pre0 : ∀ t, Steps p.tables e below (s₁.setTop (mkF m 0 #[.val (.ref a1), .val (.int p2), .val (.int p3), .unset, .unset] [])) t → Steps p.tables e below (s₁.setTop (entryFrame m #[(.ref a1), (.int p2), (.int p3)] 5)) t := fun t k => castTop (ef_31 m a1 p2 p3) k
  obtain ⟨_, _, ⟨T1, L1, k1, n1⟩, -, X1, ⟨Lc1, hQ1, l1, y1, z1⟩, st1⟩ := Jvm.LawKit.callS X0 hx (y := (⟨"java/util/Arrays", "checkLength", "(II)V"⟩ : MethodName)) hown (mvT hZ (hw _ (List.mem_of_getElem? (i := 165) rfl))) (mvT hZ (hw _ (List.mem_of_getElem? (i := 166) rfl))) (mvT hZ (hw _ (List.mem_of_getElem? (i := 102) rfl))) (mvT hZ (hw _ (List.mem_of_getElem? (i := 167) rfl))) (by decide) (backOf (W := 0) (rm32 l Z a0 hw [] p2 p3 h0 n0 (Nat.le_trans Z0 K0.1) (by rw [hp2, hp3]; exact own_nn (by omega))) hZ (hw _ (List.mem_of_getElem? (i := 167) rfl)) (hw _ (List.mem_of_getElem? (i := 102) rfl)) (by decide) (by decide)) (g := (mkF m 2 #[.val (.ref a1), .val (.int p2), .val (.int p3), .unset, .unset] [(.int p3), (.int p2)])) rfl (by rw [hml]; rfl) (argsL := [(.int p2), (.int p3)]) (rest := []) (lenOf pd__II_V rfl) rfl (by show 2 * 0 + _ ≤ _; exact Nat.le_of_eq rfl) (hb hby d31_2) (fun _ _ => ⟨rfl, e0, (by decide : 0 + 0 ≤ _), (by decide : 0 + 0 ≤ _)⟩)
  dsimp only [Pt.U, Pt.locs, Pt.cells, Pt.slots] at X1 l1 y1 z1 st1 hQ1
  subst l1 y1 z1
  obtain ⟨rfl, N1q, hq1⟩ := hQ1
  have N1 := Fr.app N0 N1q
  have E1 : Ext h0 T1.heap := by rw [hq1]; exact ⟨Nat.le_refl _, fun _ _ q => q⟩
  have K1 := K0.ext E1
  have c2 := (Vd.ext E1)
  obtain ⟨T3, h3, k3, X3, e3, E3, A3, st3⟩ := newP X1 hx hZ (hw _ (List.mem_of_getElem? (i := 3) rfl)) rfl (g := (mkF m 10 #[.val (.ref a1), .val (.int p2), .val (.int p3), .val (.int (p3 - p2)), .unset] [(.int (p3 - p2))])) rfl (hb hby d31_10) rfl (by rw [hp2, Int32.sub_zero, hp3]; exact own_nn (by omega)) (cap := 64) (by rw [hp2, Int32.sub_zero, hp3, own_n32 (by omega)]; exact hcap) (by decide) (by decide) (by decide)
  obtain ⟨b3, g3⟩ : ∃ z, z = T1.heap.size := ⟨_, rfl⟩
  rw [← g3] at A3 st3
  have g_b3 : n0 ≤ b3 := Nat.le_trans (Nat.le_trans Z0 K1.1) (Nat.le_of_eq g3.symm)
  have sz_b3 : h0.size ≤ b3 := Nat.le_trans K1.1 (Nat.le_of_eq g3.symm)
  have ne_a1_b3 : a1 ≠ b3 := Nat.ne_of_lt (Nat.lt_of_lt_of_le c2.lt (Nat.le_of_eq g3.symm))
  have K3 := K1.ext E3
  have V_b3 : Arv Z h3 b3 k3 .byte (p3 - p2) (List.replicate cs.length (Value.int (0 : Int32))) (.int (0 : Int32)) := (Arv.new A3 (by rw [hp2, Int32.sub_zero, hp3]; exact own_nn (by omega))).pad (pad_rep [] (.int (0 : Int32)) cs.length)
  have c4 := (c2.ext E3)
  obtain ⟨clo5, Aro5, -, So5, No5, -, -⟩ := id c4
  obtain ⟨_, _, ⟨T6, L6, k6, n6⟩, -, X6, ⟨Lc6, hQ6, l6, y6, z6⟩, st6⟩ := Jvm.LawKit.callS X3 hx (y := (⟨"java/lang/Math", "min", "(II)I"⟩ : MethodName)) hown (mvT hZ (hw _ (List.mem_of_getElem? (i := 104) rfl))) (mvT hZ (hw _ (List.mem_of_getElem? (i := 105) rfl))) (mvT hZ (hw _ (List.mem_of_getElem? (i := 96) rfl))) (mvT hZ (hw _ (List.mem_of_getElem? (i := 106) rfl))) (by decide) (backOf (W := 4) (rm19 l Z a0 hw [] ((Int32.ofNat (own_P cs r).length) - p2) (p3 - p2) h3 n0 (Nat.le_trans Z0 K3.1)) hZ (hw _ (List.mem_of_getElem? (i := 106) rfl)) (hw _ (List.mem_of_getElem? (i := 96) rfl)) (by decide) (by decide)) (g := (mkF m 24 #[.val (.ref a1), .val (.int p2), .val (.int p3), .val (.int (p3 - p2)), .val (.ref b3)] [(.int (p3 - p2)), (.int ((Int32.ofNat (own_P cs r).length) - p2)), (.int (0 : Int32)), (.ref b3), (.int p2), (.ref a1)])) rfl (by rw [hml]; rfl) (argsL := [(.int ((Int32.ofNat (own_P cs r).length) - p2)), (.int (p3 - p2))]) (rest := [(.int (0 : Int32)), (.ref b3), (.int p2), (.ref a1)]) (lenOf pd__II_I rfl) rfl (by show 2 * 0 + _ ≤ _; exact Nat.le_of_eq rfl) (hb hby d31_24) (fun _ _ => ⟨rfl, e3, (by decide : 1 + 0 ≤ _), (by decide : 64 + 0 ≤ _)⟩)
  dsimp only [Pt.U, Pt.locs, Pt.cells, Pt.slots] at X6 l6 y6 z6 st6 hQ6
  subst l6 y6 z6
  obtain ⟨rfl, N6q, hq6⟩ := hQ6
  have N6 := Fr.app N1 N6q
  have E6 : Ext h3 T6.heap := by rw [hq6]; exact ⟨Nat.le_refl _, fun _ _ q => q⟩
  have K6 := K3.ext E6
  have hln : (p3 - p2) = Int32.ofNat cs.length := by rw [hp2, hp3]; exact Int32.sub_zero _
  have hmin : (if (p3 - p2) < ((Int32.ofNat (own_P cs r).length) - p2) then (p3 - p2) else ((Int32.ofNat (own_P cs r).length) - p2)) = Int32.ofNat cs.length := by rw [hp2, Int32.sub_zero, hp3, Int32.sub_zero, own_Pl]; exact own_min hcl
  have hzn : (0 : Int32).toNatClampNeg = 0 := rfl
  have hcn : (Int32.ofNat cs.length).toNatClampNeg = cs.length := own_n32 (by omega)
  have c8 := (c4.ext E6)
  have c9 := (V_b3.ext E6)
  obtain ⟨T7, h7, L7, X7, e7, N7, kq7, va7, st7⟩ := cpA X6 hx hZ hown (hw _ (List.mem_of_getElem? (i := 107) rfl)) (hw _ (List.mem_of_getElem? (i := 110) rfl)) (hw _ (List.mem_of_getElem? (i := 108) rfl)) (hw _ (List.mem_of_getElem? (i := 109) rfl)) rfl c8 c9 (Or.inl ⟨rfl, rfl⟩) (by rw [hp2]; decide) (by decide) (by rw [hmin]; exact own_nn (by omega)) (by rw [hmin, hp2, hzn, hcn, own_Pl, own_n32 (by omega)]; omega) (by rw [hmin, hln, hzn, hcn]; omega) (us := (own_B cs)) (by rw [hmin, hp2]; exact own_us2 (by omega)) (by rw [hmin, hzn, hcn, List.length_replicate]; omega) N6 g_b3 (g := (mkF m 27 #[.val (.ref a1), .val (.int p2), .val (.int p3), .val (.int (p3 - p2)), .val (.ref b3)] [(.int (if (p3 - p2) < ((Int32.ofNat (own_P cs r).length) - p2) then (p3 - p2) else ((Int32.ofNat (own_P cs r).length) - p2))), (.int (0 : Int32)), (.ref b3), (.int p2), (.ref a1)])) rfl (by rw [hml]; rfl) (rest := []) rfl (hb hby d31_27) (by decide) (W := 0) (by show 2 * 0 + _ ≤ _; exact Nat.le_of_eq rfl) (by decide)
  have K7 := K6.trans kq7 (allS (Or.inr sz_b3) all0)
  have vb7 : Arv Z h7 b3 k3 .byte (p3 - p2) (own_B cs) (.int (0 : Int32)) := by
    have q := va7
    rw [hmin, hzn, hcn, own_cut] at q; exact q
  obtain ⟨fs, hr, hrun, hended, hW, hsame⟩ := X7.leave (v := some (.ref b3)) (fun h => by rw [Bd.returns] at h; cases h)
  refine ⟨_, _, pre0 _ ?_, hrun, hended, _, _, rfl, ?_, ⟨_, rfl⟩, hW, hsame.mono (by decide) (by decide)⟩
  ·
    show Steps p.tables e below (s₁.setTop (mkF m 0 #[.val (.ref a1), .val (.int p2), .val (.int p3), .unset, .unset] [])) _
    refine XS.iloadN X0.here hx rfl (hb hby d31_0) rfl ?_
    show Steps p.tables e below (s₁.setTop (mkF m 1 #[.val (.ref a1), .val (.int p2), .val (.int p3), .unset, .unset] [(.int p2)])) _
    refine XS.iloadN X0.here hx rfl (hb hby d31_1) rfl ?_
    show Steps p.tables e below (s₁.setTop (mkF m 2 #[.val (.ref a1), .val (.int p2), .val (.int p3), .unset, .unset] [(.int p3), (.int p2)])) _
    refine st1 _ ?_
    show Steps p.tables e below (T1.setTop (mkF m 5 #[.val (.ref a1), .val (.int p2), .val (.int p3), .unset, .unset] [])) _
    refine XS.iloadN X1.here hx rfl (hb hby d31_5) rfl ?_
    show Steps p.tables e below (T1.setTop (mkF m 6 #[.val (.ref a1), .val (.int p2), .val (.int p3), .unset, .unset] [(.int p3)])) _
    refine XS.iloadN X1.here hx rfl (hb hby d31_6) rfl ?_
    show Steps p.tables e below (T1.setTop (mkF m 7 #[.val (.ref a1), .val (.int p2), .val (.int p3), .unset, .unset] [(.int p2), (.int p3)])) _
    refine XS.isub X1.here hx rfl (hb hby d31_7) rfl ?_
    show Steps p.tables e below (T1.setTop (mkF m 8 #[.val (.ref a1), .val (.int p2), .val (.int p3), .unset, .unset] [(.int (p3 - p2))])) _
    refine XS.istoreN X1.here hx rfl (hb hby d31_8) rfl (l' := #[.val (.ref a1), .val (.int p2), .val (.int p3), .val (.int (p3 - p2)), .unset]) rfl ?_
    show Steps p.tables e below (T1.setTop (mkF m 9 #[.val (.ref a1), .val (.int p2), .val (.int p3), .val (.int (p3 - p2)), .unset] [])) _
    refine XS.iloadN X1.here hx rfl (hb hby d31_9) rfl ?_
    show Steps p.tables e below (T1.setTop (mkF m 10 #[.val (.ref a1), .val (.int p2), .val (.int p3), .val (.int (p3 - p2)), .unset] [(.int (p3 - p2))])) _
    refine st3 _ ?_
    show Steps p.tables e below (T3.setTop (mkF m 12 #[.val (.ref a1), .val (.int p2), .val (.int p3), .val (.int (p3 - p2)), .unset] [(.ref b3)])) _
    refine XS.astore X3.here hx rfl (hb hby d31_12) rfl rfl (l' := #[.val (.ref a1), .val (.int p2), .val (.int p3), .val (.int (p3 - p2)), .val (.ref b3)]) rfl ?_
    show Steps p.tables e below (T3.setTop (mkF m 14 #[.val (.ref a1), .val (.int p2), .val (.int p3), .val (.int (p3 - p2)), .val (.ref b3)] [])) _
    refine XS.aloadN X3.here hx rfl (hb hby d31_14) rfl rfl ?_
    show Steps p.tables e below (T3.setTop (mkF m 15 #[.val (.ref a1), .val (.int p2), .val (.int p3), .val (.int (p3 - p2)), .val (.ref b3)] [(.ref a1)])) _
    refine XS.iloadN X3.here hx rfl (hb hby d31_15) rfl ?_
    show Steps p.tables e below (T3.setTop (mkF m 16 #[.val (.ref a1), .val (.int p2), .val (.int p3), .val (.int (p3 - p2)), .val (.ref b3)] [(.int p2), (.ref a1)])) _
    refine XS.aload X3.here hx rfl (hb hby d31_16) rfl rfl ?_
    show Steps p.tables e below (T3.setTop (mkF m 18 #[.val (.ref a1), .val (.int p2), .val (.int p3), .val (.int (p3 - p2)), .val (.ref b3)] [(.ref b3), (.int p2), (.ref a1)])) _
    refine XS.iconst X3.here hx rfl (hb hby d31_18) ?_
    show Steps p.tables e below (T3.setTop (mkF m 19 #[.val (.ref a1), .val (.int p2), .val (.int p3), .val (.int (p3 - p2)), .val (.ref b3)] [(.int (0 : Int32)), (.ref b3), (.int p2), (.ref a1)])) _
    refine XS.aloadN X3.here hx rfl (hb hby d31_19) rfl rfl ?_
    show Steps p.tables e below (T3.setTop (mkF m 20 #[.val (.ref a1), .val (.int p2), .val (.int p3), .val (.int (p3 - p2)), .val (.ref b3)] [(.ref a1), (.int (0 : Int32)), (.ref b3), (.int p2), (.ref a1)])) _
    refine X3.arraylength hx (by rw [e3]; exact Aro5.1) (State.isArrayOf_alike hZ.alike Aro5.2.1) (g := (mkF m 20 #[.val (.ref a1), .val (.int p2), .val (.int p3), .val (.int (p3 - p2)), .val (.ref b3)] [(.ref a1), (.int (0 : Int32)), (.ref b3), (.int p2), (.ref a1)])) rfl rfl (hb hby d31_20) _ ?_
    rw [len_of So5 No5]
    show Steps p.tables e below (T3.setTop (mkF m 21 #[.val (.ref a1), .val (.int p2), .val (.int p3), .val (.int (p3 - p2)), .val (.ref b3)] [(.int (Int32.ofNat (own_P cs r).length)), (.int (0 : Int32)), (.ref b3), (.int p2), (.ref a1)])) _
    refine XS.iloadN X3.here hx rfl (hb hby d31_21) rfl ?_
    show Steps p.tables e below (T3.setTop (mkF m 22 #[.val (.ref a1), .val (.int p2), .val (.int p3), .val (.int (p3 - p2)), .val (.ref b3)] [(.int p2), (.int (Int32.ofNat (own_P cs r).length)), (.int (0 : Int32)), (.ref b3), (.int p2), (.ref a1)])) _
    refine XS.isub X3.here hx rfl (hb hby d31_22) rfl ?_
    show Steps p.tables e below (T3.setTop (mkF m 23 #[.val (.ref a1), .val (.int p2), .val (.int p3), .val (.int (p3 - p2)), .val (.ref b3)] [(.int ((Int32.ofNat (own_P cs r).length) - p2)), (.int (0 : Int32)), (.ref b3), (.int p2), (.ref a1)])) _
    refine XS.iloadN X3.here hx rfl (hb hby d31_23) rfl ?_
    show Steps p.tables e below (T3.setTop (mkF m 24 #[.val (.ref a1), .val (.int p2), .val (.int p3), .val (.int (p3 - p2)), .val (.ref b3)] [(.int (p3 - p2)), (.int ((Int32.ofNat (own_P cs r).length) - p2)), (.int (0 : Int32)), (.ref b3), (.int p2), (.ref a1)])) _
    refine st6 _ ?_
    show Steps p.tables e below (T6.setTop (mkF m 27 #[.val (.ref a1), .val (.int p2), .val (.int p3), .val (.int (p3 - p2)), .val (.ref b3)] [(.int (if (p3 - p2) < ((Int32.ofNat (own_P cs r).length) - p2) then (p3 - p2) else ((Int32.ofNat (own_P cs r).length) - p2))), (.int (0 : Int32)), (.ref b3), (.int p2), (.ref a1)])) _
    refine st7 _ ?_
    show Steps p.tables e below (T7.setTop (mkF m 30 #[.val (.ref a1), .val (.int p2), .val (.int p3), .val (.int (p3 - p2)), .val (.ref b3)] [])) _
    refine XS.aload X7.here hx rfl (hb hby d31_30) rfl rfl ?_
    show Steps p.tables e below (T7.setTop (mkF m 32 #[.val (.ref a1), .val (.int p2), .val (.int p3), .val (.int (p3 - p2)), .val (.ref b3)] [(.ref b3)])) _
    jvm_step X7.here [X7.here.top, hx, (hb hby d31_32), X7.method', Bd.returns, Value.isRef, FieldType.isReference]
    first | (intro acts; rw [hr _ acts rfl rfl rfl]) | rw [hr _ _ rfl rfl rfl]
    exact Steps.refl _
  ·
    show Q31 Z a1 p2 p3 kd cs r h0 n0 _ T7.heap _
    rw [e7]
    exact ⟨_, _, rfl, N7, K7, g_b3, sz_b3, by have q := vb7; rw [hp2, Int32.sub_zero, hp3] at q; exact q⟩
theorem d30_0 : decode jdk_65_method_132_code 0 = .ok (.iload_n 1, 1) := by decide +kernel
theorem d30_1 : decode jdk_65_method_132_code 1 = .ok (.ifCond .ne 9, 3) := by decide +kernel
theorem d30_4 : decode jdk_65_method_132_code 4 = .ok (.iload_n 2, 1) := by decide +kernel
theorem d30_5 : decode jdk_65_method_132_code 5 = .ok (.aload_n 0, 1) := by decide +kernel
theorem d30_6 : decode jdk_65_method_132_code 6 = .ok (.arraylength, 1) := by decide +kernel
theorem d30_7 : decode jdk_65_method_132_code 7 = .ok (.if_icmp .eq 10, 3) := by decide +kernel
theorem d30_10 : decode jdk_65_method_132_code 10 = .ok (.aload_n 0, 1) := by decide +kernel
theorem d30_11 : decode jdk_65_method_132_code 11 = .ok (.iload_n 1, 1) := by decide +kernel
theorem d30_12 : decode jdk_65_method_132_code 12 = .ok (.iload_n 2, 1) := by decide +kernel
theorem d30_13 : decode jdk_65_method_132_code 13 = .ok (.invokestatic 339, 3) := by decide +kernel
theorem d30_16 : decode jdk_65_method_132_code 16 = .ok (.areturn, 1) := by decide +kernel
theorem pn_30 : plainName "java/util/Arrays" = true := by first | (simp [plainName, overriddenIn]; done) | decide +kernel
theorem pd___BII__B : parseMethodDescriptor "([BII)[B" = some ⟨[(.array .byte), .int, .int], some (.array .byte)⟩ := by decide +kernel
theorem ef_30 (m : MethodId) (a1 : Addr) (p2 : Int32) (p3 : Int32) : entryFrame m #[(.ref a1), (.int p2), (.int p3)] 3 = (mkF m 0 #[.val (.ref a1), .val (.int p2), .val (.int p3)] []) := by first | (simp [entryFrame, mkF, argsToLocals, Value.category]; done) | rfl
def Q30 (Z : State) (a1 : Addr) (p2 : Int32) (p3 : Int32) (kd : ClassId) (cs : List Int32) (r : Nat) (h0 : Heap) (n0 : Nat) (v : Option Value) (h : Heap) (L : List Loc) : Prop := ∃ (b : Addr) (k : ClassId), v = some (.ref b) ∧ Fr n0 L ∧ Keep h0 h [] ∧ n0 ≤ b ∧ h0.size ≤ b ∧ Arv Z h b k .byte (Int32.ofNat cs.length) (own_B cs) (.int (0 : Int32))
set_option maxRecDepth 65536 in
set_option maxHeartbeats 40000000 in
theorem rm30 (l : Launch) (Z : State) (a0 : Array Value) (hw : ∀ d ∈ tables_1, d.before a0 Z = true) (ws : List Jvm.Cond) (a1 : Addr) (p2 : Int32) (p3 : Int32) (kd : ClassId) (cs : List Int32) (r : Nat) (h0 : Heap) (n0 : Nat) (Z0 : n0 ≤ h0.size) (Vd : Arv Z h0 a1 kd .byte (Int32.ofNat (own_P cs r).length) (own_P cs r) (.int (0 : Int32))) (hcl : cs.length + r ≤ 4000) (hrp : 0 < r) (hp2 : p2 = (0 : Int32)) (hp3 : p3 = Int32.ofNat cs.length) (hcap : cs.length ≤ 64) :
    MetFree l (⟨"java/util/Arrays", "copyOfRange", "([BII)[B"⟩ : MethodName) (head1 (Jvm.Cond.code (⟨"java/util/Arrays", "copyOfRange", "([BII)[B"⟩ : MethodName) jdk_65_method_132_code 3 (some (.array .byte)) :: ws) ({ frames := 2, cells := 1, slots := 64, locals := 34 } : Room)) (fun a U => a = #[(.ref a1), (.int p2), (.int p3)] ∧ Z.Warmed39 U.vm ∧ U.heap = h0) (fun _ _ _ _ _ => True) (fun _ U o U' => ∃ v L, o = .returned v ∧ Q30 Z a1 p2 p3 kd cs r h0 n0 v U'.heap L ∧ FrameEnd U o U' L ({ frames := 2, cells := 1, slots := 64, locals := 34 } : Room).cells ({ frames := 2, cells := 1, slots := 64, locals := 34 } : Room).slots) := by
  refine MetFree.of_bodySF (plainFor_of_name pn_30) hisR ?_
  intro p e s m args below meth c s₁ Bd hml0 hP hK
  obtain ⟨rfl, hZ, hh⟩ := hP
  have hx := Bd.exec
  have hby := Bd.bytes
  have hml : c.maxLocals = 3 := hml0
  have hown : s.vm.findClass "java/util/Arrays" = some m.cls := findClass_of_methodNamed Bd.named
  have hnm := (name_of_methodNamed Bd.named Bd.method).1
  have X0 : Stand p l e ({ frames := 2, cells := 1, slots := 64, locals := 34 } : Room) s m #[(.ref a1), (.int p2), (.int p3)] below meth c s₁ [] 0 0 := Stand.of_body Bd
  have e0 : s₁.heap = h0 := by rw [← hh, Bd.state]; rfl
  have N0 := Fr.nil n0
  have K0 := Keep.refl h0 ([] : List Addr)
  have pre0 : ∀ t, Steps p.tables e below (s₁.setTop (mkF m 0 #[.val (.ref a1), .val (.int p2), .val (.int p3)] [])) t → Steps p.tables e below (s₁.setTop (entryFrame m #[(.ref a1), (.int p2), (.int p3)] 3)) t := fun t k => castTop (ef_30 m a1 p2 p3) k
  have hk1 : p2 = (0 : Int32) := hp2
  obtain ⟨clo2, Aro2, -, So2, No2, -, -⟩ := id Vd
  have hk3 : ¬ (p3 = (Int32.ofNat (own_P cs r).length)) := (by rw [hp3, own_Pl]; exact own_ne hcl hrp)
  obtain ⟨_, _, ⟨T4, L4, k4, n4⟩, -, X4, ⟨Lc4, hQ4, l4, y4, z4⟩, st4⟩ := Jvm.LawKit.callS X0 hx (y := (⟨"java/util/Arrays", "copyOfRangeByte", "([BII)[B"⟩ : MethodName)) hown (mvT hZ (hw _ (List.mem_of_getElem? (i := 162) rfl))) (mvT hZ (hw _ (List.mem_of_getElem? (i := 163) rfl))) (mvT hZ (hw _ (List.mem_of_getElem? (i := 102) rfl))) (mvT hZ (hw _ (List.mem_of_getElem? (i := 164) rfl))) (by decide) (backOf (W := 0) (rm31 l Z a0 hw [] a1 p2 p3 kd cs r h0 n0 (Nat.le_trans Z0 K0.1) Vd hcl hrp hp2 hp3 hcap) hZ (hw _ (List.mem_of_getElem? (i := 164) rfl)) (hw _ (List.mem_of_getElem? (i := 102) rfl)) (by decide) (by decide)) (g := (mkF m 13 #[.val (.ref a1), .val (.int p2), .val (.int p3)] [(.int p3), (.int p2), (.ref a1)])) rfl (by rw [hml]; rfl) (argsL := [(.ref a1), (.int p2), (.int p3)]) (rest := []) (lenOf pd___BII__B rfl) rfl (by show 2 * 0 + _ ≤ _; exact Nat.le_of_eq rfl) (hb hby d30_13) (fun _ _ => ⟨rfl, e0, (by decide : 0 + 1 ≤ _), (by decide : 0 + 64 ≤ _)⟩)
  dsimp only [Pt.U, Pt.locs, Pt.cells, Pt.slots] at X4 l4 y4 z4 st4 hQ4
  subst l4 y4 z4
  obtain ⟨bb4, bk4, rfl, N4q, kq4, gg4, u4, va4⟩ := hQ4
  have N4 := Fr.app N0 N4q
  have K4 := K0.trans kq4 all0
  obtain ⟨fs, hr, hrun, hended, hW, hsame⟩ := X4.leave (v := some (.ref bb4)) (fun h => by rw [Bd.returns] at h; cases h)
  refine ⟨_, _, pre0 _ ?_, hrun, hended, _, _, rfl, ?_, ⟨_, rfl⟩, hW, hsame.mono (by decide) (by decide)⟩
  ·
    show Steps p.tables e below (s₁.setTop (mkF m 0 #[.val (.ref a1), .val (.int p2), .val (.int p3)] [])) _
    refine XS.iloadN X0.here hx rfl (hb hby d30_0) rfl ?_
    show Steps p.tables e below (s₁.setTop (mkF m 1 #[.val (.ref a1), .val (.int p2), .val (.int p3)] [(.int p2)])) _
    refine XS.ifNo X0.here hx rfl (hb hby d30_1) rfl ((if0 _ _).trans (teq hk1).2) ?_
    show Steps p.tables e below (s₁.setTop (mkF m 4 #[.val (.ref a1), .val (.int p2), .val (.int p3)] [])) _
    refine XS.iloadN X0.here hx rfl (hb hby d30_4) rfl ?_
    show Steps p.tables e below (s₁.setTop (mkF m 5 #[.val (.ref a1), .val (.int p2), .val (.int p3)] [(.int p3)])) _
    refine XS.aloadN X0.here hx rfl (hb hby d30_5) rfl rfl ?_
    show Steps p.tables e below (s₁.setTop (mkF m 6 #[.val (.ref a1), .val (.int p2), .val (.int p3)] [(.ref a1), (.int p3)])) _
    refine X0.arraylength hx (by rw [e0]; exact Aro2.1) (State.isArrayOf_alike hZ.alike Aro2.2.1) (g := (mkF m 6 #[.val (.ref a1), .val (.int p2), .val (.int p3)] [(.ref a1), (.int p3)])) rfl rfl (hb hby d30_6) _ ?_
    rw [len_of So2 No2]
    show Steps p.tables e below (s₁.setTop (mkF m 7 #[.val (.ref a1), .val (.int p2), .val (.int p3)] [(.int (Int32.ofNat (own_P cs r).length)), (.int p3)])) _
    refine XS.icmpNo X0.here hx rfl (hb hby d30_7) rfl (feq hk3).1 ?_
    show Steps p.tables e below (s₁.setTop (mkF m 10 #[.val (.ref a1), .val (.int p2), .val (.int p3)] [])) _
    refine XS.aloadN X0.here hx rfl (hb hby d30_10) rfl rfl ?_
    show Steps p.tables e below (s₁.setTop (mkF m 11 #[.val (.ref a1), .val (.int p2), .val (.int p3)] [(.ref a1)])) _
    refine XS.iloadN X0.here hx rfl (hb hby d30_11) rfl ?_
    show Steps p.tables e below (s₁.setTop (mkF m 12 #[.val (.ref a1), .val (.int p2), .val (.int p3)] [(.int p2), (.ref a1)])) _
    refine XS.iloadN X0.here hx rfl (hb hby d30_12) rfl ?_
    show Steps p.tables e below (s₁.setTop (mkF m 13 #[.val (.ref a1), .val (.int p2), .val (.int p3)] [(.int p3), (.int p2), (.ref a1)])) _
    refine st4 _ ?_
    show Steps p.tables e below (T4.setTop (mkF m 16 #[.val (.ref a1), .val (.int p2), .val (.int p3)] [(.ref bb4)])) _
    jvm_step X4.here [X4.here.top, hx, (hb hby d30_16), X4.method', Bd.returns, Value.isRef, FieldType.isReference]
    first | (intro acts; rw [hr _ acts rfl rfl rfl]) | rw [hr _ _ rfl rfl rfl]
    exact Steps.refl _
  ·
    show Q30 Z a1 p2 p3 kd cs r h0 n0 _ T4.heap _
    exact ⟨bb4, bk4, rfl, N4, K4, gg4, u4, va4⟩
theorem d25_0 : decode jdk_42_method_150_code 0 = .ok (.aload_n 0, 1) := by decide +kernel
theorem d25_1 : decode jdk_42_method_150_code 1 = .ok (.invokespecial 1, 3) := by decide +kernel
theorem d25_4 : decode jdk_42_method_150_code 4 = .ok (.aload_n 1, 1) := by decide +kernel
theorem d25_5 : decode jdk_42_method_150_code 5 = .ok (.invokevirtual 552, 3) := by decide +kernel
theorem d25_8 : decode jdk_42_method_150_code 8 = .ok (.astore_n 3, 1) := by decide +kernel
theorem d25_9 : decode jdk_42_method_150_code 9 = .ok (.aload_n 1, 1) := by decide +kernel
theorem d25_10 : decode jdk_42_method_150_code 10 = .ok (.invokevirtual 549, 3) := by decide +kernel
theorem d25_13 : decode jdk_42_method_150_code 13 = .ok (.istore 4, 2) := by decide +kernel
theorem d25_15 : decode jdk_42_method_150_code 15 = .ok (.aload_n 1, 1) := by decide +kernel
theorem d25_16 : decode jdk_42_method_150_code 16 = .ok (.invokevirtual 1047, 3) := by decide +kernel
theorem d25_19 : decode jdk_42_method_150_code 19 = .ok (.ifCond .eq 22, 3) := by decide +kernel
theorem d25_22 : decode jdk_42_method_150_code 22 = .ok (.aload_n 0, 1) := by decide +kernel
theorem d25_23 : decode jdk_42_method_150_code 23 = .ok (.iconst 0, 1) := by decide +kernel
theorem d25_24 : decode jdk_42_method_150_code 24 = .ok (.putfield 15, 3) := by decide +kernel
theorem d25_27 : decode jdk_42_method_150_code 27 = .ok (.aload_n 0, 1) := by decide +kernel
theorem d25_28 : decode jdk_42_method_150_code 28 = .ok (.aload_n 3, 1) := by decide +kernel
theorem d25_29 : decode jdk_42_method_150_code 29 = .ok (.iconst 0, 1) := by decide +kernel
theorem d25_30 : decode jdk_42_method_150_code 30 = .ok (.iload 4, 2) := by decide +kernel
theorem d25_32 : decode jdk_42_method_150_code 32 = .ok (.invokestatic 54, 3) := by decide +kernel
theorem d25_35 : decode jdk_42_method_150_code 35 = .ok (.putfield 9, 3) := by decide +kernel
theorem d25_38 : decode jdk_42_method_150_code 38 = .ok (.goto 59, 3) := by decide +kernel
theorem d25_97 : decode jdk_42_method_150_code 97 = .ok (.return_, 1) := by decide +kernel
theorem pn_25 : plainName "java/lang/String" = true := by first | (simp [plainName, overriddenIn]; done) | decide +kernel
theorem pd___Z : parseMethodDescriptor "()Z" = some ⟨[], some .boolean⟩ := by decide +kernel
theorem pd____B : parseMethodDescriptor "()[B" = some ⟨[], some (.array .byte)⟩ := by decide +kernel
theorem ef_25 (m : MethodId) (a1 : Addr) (a2 : Addr) : entryFrame m #[(.ref a1), (.ref a2), .null] 5 = (mkF m 0 #[.val (.ref a1), .val (.ref a2), .val .null, .unset, .unset] []) := by first | (simp [entryFrame, mkF, argsToLocals, Value.category]; done) | rfl
def Q25 (Z : State) (a1 : Addr) (a2 : Addr) (t : Addr) (kd : ClassId) (cs : List Int32) (r : Nat) (G1 : Int32) (h0 : Heap) (n0 : Nat) (v : Option Value) (h : Heap) (L : List Loc) : Prop := v = none ∧ Fr n0 L ∧ Keep h0 h [a1] ∧ own_str Z h a1 cs
set_option maxRecDepth 65536 in
set_option maxHeartbeats 40000000 in
theorem rm25 (l : Launch) (Z : State) (a0 : Array Value) (hw : ∀ d ∈ tables_1, d.before a0 Z = true) (ws : List Jvm.Cond) (a1 : Addr) (a2 : Addr) (t : Addr) (kd : ClassId) (cs : List Int32) (r : Nat) (G1 : Int32) (h0 : Heap) (n0 : Nat) (Z0 : n0 ≤ h0.size) (OLD0 : Old Z n0 h0) (SCS : Sta Z Z.heap "java/lang/String" "COMPACT_STRINGS" "Z" (.int G1)) (P5 : ¬ (G1 = (0 : Int32))) (g_a1 : n0 ≤ a1) (E_a1 : Exa Z h0 a1 "java/lang/String") (F_v : Fld Z h0 a1 "java/lang/String" "value" "[B" .null) (F_c : Fld Z h0 a1 "java/lang/String" "coder" "B" (.int (0 : Int32))) (SBh : own_sb Z h0 a2 t kd cs r) (hcl : cs.length + r ≤ 4000) (hrp : 0 < r) (hcap : cs.length ≤ 64) :
    MetFree l (⟨"java/lang/String", "<init>", "(Ljava/lang/AbstractStringBuilder;Ljava/lang/Void;)V"⟩ : MethodName) (head1 (Jvm.Cond.code (⟨"java/lang/String", "<init>", "(Ljava/lang/AbstractStringBuilder;Ljava/lang/Void;)V"⟩ : MethodName) jdk_42_method_150_code 5 none :: ws) ({ frames := 3, cells := 1, slots := 64, locals := 49 } : Room)) (fun a U => a = #[(.ref a1), (.ref a2), .null] ∧ Z.Warmed39 U.vm ∧ U.heap = h0) (fun _ _ _ _ _ => True) (fun _ U o U' => ∃ v L, o = .returned v ∧ Q25 Z a1 a2 t kd cs r G1 h0 n0 v U'.heap L ∧ FrameEnd U o U' L ({ frames := 3, cells := 1, slots := 64, locals := 49 } : Room).cells ({ frames := 3, cells := 1, slots := 64, locals := 49 } : Room).slots) := by
  refine MetFree.of_bodySF (plainFor_of_name pn_25) hisR ?_
  intro p e s m args below meth c s₁ Bd hml0 hP hK
  obtain ⟨rfl, hZ, hh⟩ := hP
  have hx := Bd.exec
  have hby := Bd.bytes
  have hml : c.maxLocals = 5 := hml0
  have hown : s.vm.findClass "java/lang/String" = some m.cls := findClass_of_methodNamed Bd.named
  have hnm := (name_of_methodNamed Bd.named Bd.method).1
  have X0 : Stand p l e ({ frames := 3, cells := 1, slots := 64, locals := 49 } : Room) s m #[(.ref a1), (.ref a2), .null] below meth c s₁ [] 0 0 := Stand.of_body Bd
  have e0 : s₁.heap = h0 := by rw [← hh, Bd.state]; rfl
  have N0 := Fr.nil n0
  have K0 := Keep.refl h0 ([a1] : List Addr)
  have pre0 : ∀ t, Steps p.tables e below (s₁.setTop (mkF m 0 #[.val (.ref a1), .val (.ref a2), .val .null, .unset, .unset] [])) t → Steps p.tables e below (s₁.setTop (entryFrame m #[(.ref a1), (.ref a2), .null] 5)) t := fun t k => castTop (ef_25 m a1 a2) k
  obtain ⟨E_a2, Gv_a2, Gc_a2, Gn_a2, Vd⟩ := id SBh
  have n21 : a2 ≠ a1 := E_a2.ne E_a1 (by decide)
  have nt1 : t ≠ a1 := Ne.symm (E_a1.neArv Vd (hw _ (List.mem_of_getElem? (i := 2) rfl)))
  obtain ⟨T1, X1, e1, st1⟩ := initO X0 hx hZ hown (hw _ (List.mem_of_getElem? (i := 17) rfl)) (hw _ (List.mem_of_getElem? (i := 18) rfl)) (hw _ (List.mem_of_getElem? (i := 19) rfl)) e0 (g := (mkF m 1 #[.val (.ref a1), .val (.ref a2), .val .null, .unset, .unset] [(.ref a1)])) rfl (by rw [hml]; rfl) rfl (hb hby d25_1) (by decide) (W := 0) (by show 2 * 0 + _ ≤ _; exact Nat.le_of_eq rfl) (by decide)
  obtain ⟨cq2, kq2, q2a, q2b, q2c⟩ := isOf hZ e1 E_a2
  obtain ⟨_, _, ⟨T2, L2, k2, n2⟩, -, X2, ⟨Lc2, hQ2, l2, y2, z2⟩, st2⟩ := X1.virtualBack hx (y := (⟨"java/lang/AbstractStringBuilder", "getValue", "()[B"⟩ : MethodName)) (z := (⟨"java/lang/AbstractStringBuilder", "getValue", "()[B"⟩ : MethodName)) hown (mvT hZ (hw _ (List.mem_of_getElem? (i := 141) rfl))) (mvT hZ (hw _ (List.mem_of_getElem? (i := 142) rfl))) (notFace_of_selects (args := #[]) (mvT hZ (hw _ (List.mem_of_getElem? (i := 144) rfl)))) (mvT hZ (hw _ (List.mem_of_getElem? (i := 144) rfl))) (mvT hZ (hw _ (List.mem_of_getElem? (i := 143) rfl))) (by decide) (backOf (W := 0) (rm26 l Z a0 hw [] a2 t h0 n0 (Nat.le_trans Z0 K0.1) E_a2 Gv_a2) hZ (hw _ (List.mem_of_getElem? (i := 145) rfl)) (hw _ (List.mem_of_getElem? (i := 49) rfl)) (by decide) (by decide)) q2a q2c (g := (mkF m 5 #[.val (.ref a1), .val (.ref a2), .val .null, .unset, .unset] [(.ref a2)])) rfl (by rw [hml]; rfl) (Steps.refl _) (argsL := []) (rest := []) (lenOf pd____B rfl) rfl (by show 2 * 0 + _ ≤ _; exact Nat.le_of_eq rfl) (hb hby d25_5) (fun _ _ => ⟨rfl, e1, (by decide : 0 + 0 ≤ _), (by decide : 0 + 0 ≤ _)⟩)
  dsimp only [Pt.U, Pt.locs, Pt.cells, Pt.slots] at X2 l2 y2 z2 st2 hQ2
  subst l2 y2 z2
  obtain ⟨rfl, N2q, hq2⟩ := hQ2
  have N2 := Fr.app N0 N2q
  have E2 : Ext h0 T2.heap := by rw [hq2]; exact ⟨Nat.le_refl _, fun _ _ q => q⟩
  have K2 := K0.ext E2
  have c4 := (E_a2.ext E2)
  have c5 := (Gn_a2.ext E2)
  obtain ⟨cq3, kq3, q3a, q3b, q3c⟩ := isOf hZ rfl c4
  obtain ⟨_, _, ⟨T3, L3, k3, n3⟩, -, X3, ⟨Lc3, hQ3, l3, y3, z3⟩, st3⟩ := X2.virtualBack hx (y := (⟨"java/lang/AbstractStringBuilder", "length", "()I"⟩ : MethodName)) (z := (⟨"java/lang/StringBuilder", "length", "()I"⟩ : MethodName)) hown (mvT hZ (hw _ (List.mem_of_getElem? (i := 146) rfl))) (mvT hZ (hw _ (List.mem_of_getElem? (i := 147) rfl))) (own_nf (args := #[]) (x := (⟨"java/lang/AbstractStringBuilder", "length", "()I"⟩ : MethodName)) (y := (⟨"java/lang/AbstractStringBuilder", "getValue", "()[B"⟩ : MethodName)) rfl (mvT hZ (hw _ (List.mem_of_getElem? (i := 144) rfl)))) (mvT hZ (hw _ (List.mem_of_getElem? (i := 149) rfl))) (mvT hZ (hw _ (List.mem_of_getElem? (i := 150) rfl))) (by decide) (backOf (W := 0) (rm27 l Z a0 hw [] a2 (Int32.ofNat cs.length) T2.heap n0 (Nat.le_trans Z0 K2.1) c4 c5) hZ (hw _ (List.mem_of_getElem? (i := 151) rfl)) (hw _ (List.mem_of_getElem? (i := 41) rfl)) (by decide) (by decide)) q3a q3c (g := (mkF m 10 #[.val (.ref a1), .val (.ref a2), .val .null, .val (.ref t), .unset] [(.ref a2)])) rfl (by rw [hml]; rfl) (Steps.refl _) (argsL := []) (rest := []) (lenOf pd___I rfl) rfl (by show 2 * 0 + _ ≤ _; exact Nat.le_of_eq rfl) (hb hby d25_10) (fun _ _ => ⟨rfl, rfl, (by decide : 0 + 0 ≤ _), (by decide : 0 + 0 ≤ _)⟩)
  dsimp only [Pt.U, Pt.locs, Pt.cells, Pt.slots] at X3 l3 y3 z3 st3 hQ3
  subst l3 y3 z3
  obtain ⟨rfl, N3q, hq3⟩ := hQ3
  have N3 := Fr.app N2 N3q
  have E3 : Ext T2.heap T3.heap := by rw [hq3]; exact ⟨Nat.le_refl _, fun _ _ q => q⟩
  have K3 := K2.ext E3
  have OL7 : Old Z n0 T3.heap := OLD0.keep K3 (allS g_a1 all0)
  have c8 := (c4.ext E3)
  have c9 := ((Gc_a2.ext E2).ext E3)
  obtain ⟨cq6, kq6, q6a, q6b, q6c⟩ := isOf hZ rfl c8
  obtain ⟨_, _, ⟨T6, L6, k6, n6⟩, -, X6, ⟨Lc6, hQ6, l6, y6, z6⟩, st6⟩ := X3.virtualBack hx (y := (⟨"java/lang/AbstractStringBuilder", "isLatin1", "()Z"⟩ : MethodName)) (z := (⟨"java/lang/AbstractStringBuilder", "isLatin1", "()Z"⟩ : MethodName)) hown (mvT hZ (hw _ (List.mem_of_getElem? (i := 154) rfl))) (mvT hZ (hw _ (List.mem_of_getElem? (i := 155) rfl))) (notFace_of_selects (args := #[]) (mvT hZ (hw _ (List.mem_of_getElem? (i := 157) rfl)))) (mvT hZ (hw _ (List.mem_of_getElem? (i := 157) rfl))) (mvT hZ (hw _ (List.mem_of_getElem? (i := 156) rfl))) (by decide) (backOf (W := 0) (rm29 l Z a0 hw [] a2 G1 T3.heap n0 (Nat.le_trans Z0 K3.1) OL7 SCS P5 c8 c9) hZ (hw _ (List.mem_of_getElem? (i := 158) rfl)) (hw _ (List.mem_of_getElem? (i := 49) rfl)) (by decide) (by decide)) q6a q6c (g := (mkF m 16 #[.val (.ref a1), .val (.ref a2), .val .null, .val (.ref t), .val (.int (Int32.ofNat cs.length))] [(.ref a2)])) rfl (by rw [hml]; rfl) (Steps.refl _) (argsL := []) (rest := []) (lenOf pd___Z rfl) rfl (by show 2 * 0 + _ ≤ _; exact Nat.le_of_eq rfl) (hb hby d25_16) (fun _ _ => ⟨rfl, rfl, (by decide : 0 + 0 ≤ _), (by decide : 0 + 0 ≤ _)⟩)
  dsimp only [Pt.U, Pt.locs, Pt.cells, Pt.slots] at X6 l6 y6 z6 st6 hQ6
  subst l6 y6 z6
  obtain ⟨rfl, N6q, hq6⟩ := hQ6
  have N6 := Fr.app N3 N6q
  have E6 : Ext T3.heap T6.heap := by rw [hq6]; exact ⟨Nat.le_refl _, fun _ _ q => q⟩
  have K6 := K3.ext E6
  have c10 := (((E_a1.ext E2).ext E3).ext E6)
  have c11 := (((F_c.ext E2).ext E3).ext E6)
  obtain ⟨T12, h12, X12, e12, W12, st12⟩ := putFN X6 hx hZ hown (hw _ (List.mem_of_getElem? (i := 31) rfl)) Via.refl rfl c11 c10 (Or.inr ⟨(hw _ (List.mem_of_getElem? (i := 5) rfl)), rfl, hnm⟩) (hw _ (List.mem_of_getElem? (i := 2) rfl)) (ty := .byte) (v := (.int (0 : Int32))) (v' := (.int (nar .byte (0 : Int32)))) (by decide) rfl (fits_nar_byte _) (g := (mkF m 24 #[.val (.ref a1), .val (.ref a2), .val .null, .val (.ref t), .val (.int (Int32.ofNat cs.length))] [(.int (0 : Int32)), (.ref a1)])) rfl rfl (hb hby d25_24)
  have Fw12 := c11.same W12
  have K12 := K6.wr W12 (Or.inl (List.mem_of_getElem? (i := 0) rfl))
  have N12 := Fr.snoc X12 N6 g_a1
  have c14 := ((c8.ext E6).wr W12)
  have c15 := ((((Gv_a2.ext E2).ext E3).ext E6).other W12 (Or.inl n21))
  have c16 := ((c9.ext E6).other W12 (Or.inl n21))
  have c17 := (((c5.ext E3).ext E6).other W12 (Or.inl n21))
  have c18 := ((((Vd.ext E2).ext E3).ext E6).other W12 nt1)
  have c19 := (c10.wr W12)
  have c20 := ((((F_v.ext E2).ext E3).ext E6).other W12 (Or.inr (slot_ne (Or.inr (hw _ (List.mem_of_getElem? (i := 4) rfl))) (Or.inr (hw _ (List.mem_of_getElem? (i := 5) rfl))) (by decide) (t := (.array .byte)) (t' := .byte) (by decide) (by decide))))
  obtain ⟨_, _, ⟨T13, L13, k13, n13⟩, -, X13, ⟨Lc13, hQ13, l13, y13, z13⟩, st13⟩ := Jvm.LawKit.callS X12 hx (y := (⟨"java/util/Arrays", "copyOfRange", "([BII)[B"⟩ : MethodName)) hown (mvT hZ (hw _ (List.mem_of_getElem? (i := 159) rfl))) (mvT hZ (hw _ (List.mem_of_getElem? (i := 160) rfl))) (mvT hZ (hw _ (List.mem_of_getElem? (i := 102) rfl))) (mvT hZ (hw _ (List.mem_of_getElem? (i := 161) rfl))) (by decide) (backOf (W := 1) (rm30 l Z a0 hw [] t (0 : Int32) (Int32.ofNat cs.length) kd cs r h12 n0 (Nat.le_trans Z0 K12.1) c18 hcl hrp rfl rfl hcap) hZ (hw _ (List.mem_of_getElem? (i := 161) rfl)) (hw _ (List.mem_of_getElem? (i := 102) rfl)) (by decide) (by decide)) (g := (mkF m 32 #[.val (.ref a1), .val (.ref a2), .val .null, .val (.ref t), .val (.int (Int32.ofNat cs.length))] [(.int (Int32.ofNat cs.length)), (.int (0 : Int32)), (.ref t), (.ref a1)])) rfl (by rw [hml]; rfl) (argsL := [(.ref t), (.int (0 : Int32)), (.int (Int32.ofNat cs.length))]) (rest := [(.ref a1)]) (lenOf pd___BII__B rfl) rfl (by show 2 * 0 + _ ≤ _; exact Nat.le_of_eq rfl) (hb hby d25_32) (fun _ _ => ⟨rfl, e12, (by decide : 0 + 1 ≤ _), (by decide : 0 + 64 ≤ _)⟩)
  dsimp only [Pt.U, Pt.locs, Pt.cells, Pt.slots] at X13 l13 y13 z13 st13 hQ13
  subst l13 y13 z13
  obtain ⟨b13, kb13, rfl, N13q, kq13, gg13, u13, va13⟩ := hQ13
  have N13 := Fr.app N12 N13q
  have K13 := K12.trans kq13 all0
  have sz_b13 : h0.size ≤ b13 := Nat.le_trans K12.1 u13
  have g_b13 := gg13
  have ne_a2_b13 : a2 ≠ b13 := Nat.ne_of_lt (Nat.lt_of_lt_of_le c17.lt u13)
  have ne_t_b13 : t ≠ b13 := Nat.ne_of_lt (Nat.lt_of_lt_of_le c18.lt u13)
  have ne_a1_b13 : a1 ≠ b13 := Nat.ne_of_lt (Nat.lt_of_lt_of_le Fw12.lt u13)
  have c21 := (c19.keep kq13)
  have c22 := (c20.keep kq13 nin0)
  obtain ⟨T23, h23, X23, e23, W23, st23⟩ := putF X13 hx hZ hown (host := "") (Or.inl (hw _ (List.mem_of_getElem? (i := 32) rfl))) Via.refl rfl c22 c21 (Or.inr ⟨(hw _ (List.mem_of_getElem? (i := 4) rfl)), rfl, hnm⟩) (hw _ (List.mem_of_getElem? (i := 2) rfl)) (ty := (.array .byte)) (by decide) rfl rfl (g := (mkF m 35 #[.val (.ref a1), .val (.ref a2), .val .null, .val (.ref t), .val (.int (Int32.ofNat cs.length))] [(.ref b13), (.ref a1)])) rfl rfl (hb hby d25_35)
  have Fw23 := c22.same W23
  have K23 := K13.wr W23 (Or.inl (List.mem_of_getElem? (i := 0) rfl))
  have N23 := Fr.snoc X23 N13 g_a1
  have c24 := (c21.wr W23)
  have c25 := ((Fw12.keep kq13 nin0).other W23 (Or.inr (slot_ne (Or.inr (hw _ (List.mem_of_getElem? (i := 5) rfl))) (Or.inr (hw _ (List.mem_of_getElem? (i := 4) rfl))) (by decide) (t := .byte) (t' := (.array .byte)) (by decide) (by decide))))
  have c26 := (va13.other W23 (Ne.symm ne_a1_b13))
  obtain ⟨fs, hr, hrun, hended, hW, hsame⟩ := X23.leave (v := none) (fun _ => rfl)
  refine ⟨_, _, pre0 _ ?_, hrun, hended, _, _, rfl, ?_, ⟨_, rfl⟩, hW, hsame.mono (by decide) (by decide)⟩
  ·
    show Steps p.tables e below (s₁.setTop (mkF m 0 #[.val (.ref a1), .val (.ref a2), .val .null, .unset, .unset] [])) _
    refine XS.aloadN X0.here hx rfl (hb hby d25_0) rfl rfl ?_
    show Steps p.tables e below (s₁.setTop (mkF m 1 #[.val (.ref a1), .val (.ref a2), .val .null, .unset, .unset] [(.ref a1)])) _
    refine st1 _ ?_
    show Steps p.tables e below (T1.setTop (mkF m 4 #[.val (.ref a1), .val (.ref a2), .val .null, .unset, .unset] [])) _
    refine XS.aloadN X1.here hx rfl (hb hby d25_4) rfl rfl ?_
    show Steps p.tables e below (T1.setTop (mkF m 5 #[.val (.ref a1), .val (.ref a2), .val .null, .unset, .unset] [(.ref a2)])) _
    refine st2.trans ?_
    show Steps p.tables e below (T2.setTop (mkF m 8 #[.val (.ref a1), .val (.ref a2), .val .null, .unset, .unset] [(.ref t)])) _
    refine XS.astoreN X2.here hx rfl (hb hby d25_8) rfl rfl (l' := #[.val (.ref a1), .val (.ref a2), .val .null, .val (.ref t), .unset]) rfl ?_
    show Steps p.tables e below (T2.setTop (mkF m 9 #[.val (.ref a1), .val (.ref a2), .val .null, .val (.ref t), .unset] [])) _
    refine XS.aloadN X2.here hx rfl (hb hby d25_9) rfl rfl ?_
    show Steps p.tables e below (T2.setTop (mkF m 10 #[.val (.ref a1), .val (.ref a2), .val .null, .val (.ref t), .unset] [(.ref a2)])) _
    refine st3.trans ?_
    show Steps p.tables e below (T3.setTop (mkF m 13 #[.val (.ref a1), .val (.ref a2), .val .null, .val (.ref t), .unset] [(.int (Int32.ofNat cs.length))])) _
    refine XS.istore X3.here hx rfl (hb hby d25_13) rfl (l' := #[.val (.ref a1), .val (.ref a2), .val .null, .val (.ref t), .val (.int (Int32.ofNat cs.length))]) rfl ?_
    show Steps p.tables e below (T3.setTop (mkF m 15 #[.val (.ref a1), .val (.ref a2), .val .null, .val (.ref t), .val (.int (Int32.ofNat cs.length))] [])) _
    refine XS.aloadN X3.here hx rfl (hb hby d25_15) rfl rfl ?_
    show Steps p.tables e below (T3.setTop (mkF m 16 #[.val (.ref a1), .val (.ref a2), .val .null, .val (.ref t), .val (.int (Int32.ofNat cs.length))] [(.ref a2)])) _
    refine st6.trans ?_
    show Steps p.tables e below (T6.setTop (mkF m 19 #[.val (.ref a1), .val (.ref a2), .val .null, .val (.ref t), .val (.int (Int32.ofNat cs.length))] [(.int (1 : Int32))])) _
    refine XS.ifNo X6.here hx rfl (hb hby d25_19) rfl ((if0 _ _).trans (feq (by decide : ¬ ((1 : Int32) = (0 : Int32)))).1) ?_
    show Steps p.tables e below (T6.setTop (mkF m 22 #[.val (.ref a1), .val (.ref a2), .val .null, .val (.ref t), .val (.int (Int32.ofNat cs.length))] [])) _
    refine XS.aloadN X6.here hx rfl (hb hby d25_22) rfl rfl ?_
    show Steps p.tables e below (T6.setTop (mkF m 23 #[.val (.ref a1), .val (.ref a2), .val .null, .val (.ref t), .val (.int (Int32.ofNat cs.length))] [(.ref a1)])) _
    refine XS.iconst X6.here hx rfl (hb hby d25_23) ?_
    show Steps p.tables e below (T6.setTop (mkF m 24 #[.val (.ref a1), .val (.ref a2), .val .null, .val (.ref t), .val (.int (Int32.ofNat cs.length))] [(.int (0 : Int32)), (.ref a1)])) _
    refine st12 _ ?_
    show Steps p.tables e below (T12.setTop (mkF m 27 #[.val (.ref a1), .val (.ref a2), .val .null, .val (.ref t), .val (.int (Int32.ofNat cs.length))] [])) _
    refine XS.aloadN X12.here hx rfl (hb hby d25_27) rfl rfl ?_
    show Steps p.tables e below (T12.setTop (mkF m 28 #[.val (.ref a1), .val (.ref a2), .val .null, .val (.ref t), .val (.int (Int32.ofNat cs.length))] [(.ref a1)])) _
    refine XS.aloadN X12.here hx rfl (hb hby d25_28) rfl rfl ?_
    show Steps p.tables e below (T12.setTop (mkF m 29 #[.val (.ref a1), .val (.ref a2), .val .null, .val (.ref t), .val (.int (Int32.ofNat cs.length))] [(.ref t), (.ref a1)])) _
    refine XS.iconst X12.here hx rfl (hb hby d25_29) ?_
    show Steps p.tables e below (T12.setTop (mkF m 30 #[.val (.ref a1), .val (.ref a2), .val .null, .val (.ref t), .val (.int (Int32.ofNat cs.length))] [(.int (0 : Int32)), (.ref t), (.ref a1)])) _
    refine XS.iload X12.here hx rfl (hb hby d25_30) rfl ?_
    show Steps p.tables e below (T12.setTop (mkF m 32 #[.val (.ref a1), .val (.ref a2), .val .null, .val (.ref t), .val (.int (Int32.ofNat cs.length))] [(.int (Int32.ofNat cs.length)), (.int (0 : Int32)), (.ref t), (.ref a1)])) _
    refine st13 _ ?_
    show Steps p.tables e below (T13.setTop (mkF m 35 #[.val (.ref a1), .val (.ref a2), .val .null, .val (.ref t), .val (.int (Int32.ofNat cs.length))] [(.ref b13), (.ref a1)])) _
    refine st23 _ ?_
    show Steps p.tables e below (T23.setTop (mkF m 38 #[.val (.ref a1), .val (.ref a2), .val .null, .val (.ref t), .val (.int (Int32.ofNat cs.length))] [])) _
    refine XS.goto X23.here hx rfl (pc0 := 38) (pc' := 97) rfl (hb hby d25_38) (by decide) (by decide) ?_
    show Steps p.tables e below (T23.setTop (mkF m 97 #[.val (.ref a1), .val (.ref a2), .val .null, .val (.ref t), .val (.int (Int32.ofNat cs.length))] [])) _
    exact X23.returnOut hx Bd.returns (hb hby d25_97) hr
  ·
    show Q25 Z a1 a2 t kd cs r G1 h0 n0 _ T23.heap _
    rw [e23]
    exact ⟨rfl, N23, K23, _, _, c24, c25, Fw23, c26⟩
theorem d24_0 : decode jdk_42_method_53_code 0 = .ok (.aload_n 0, 1) := by decide +kernel
theorem d24_1 : decode jdk_42_method_53_code 1 = .ok (.aload_n 1, 1) := by decide +kernel
theorem d24_2 : decode jdk_42_method_53_code 2 = .ok (.aconst_null, 1) := by decide +kernel
theorem d24_3 : decode jdk_42_method_53_code 3 = .ok (.invokespecial 489, 3) := by decide +kernel
theorem d24_6 : decode jdk_42_method_53_code 6 = .ok (.return_, 1) := by decide +kernel
theorem pn_24 : plainName "java/lang/String" = true := by first | (simp [plainName, overriddenIn]; done) | decide +kernel
theorem pd__Ljava_lang_AbstractStringBuilder_Ljava_lang_Void__V : parseMethodDescriptor "(Ljava/lang/AbstractStringBuilder;Ljava/lang/Void;)V" = some ⟨[(.object "java/lang/AbstractStringBuilder"), (.object "java/lang/Void")], none⟩ := by decide +kernel
theorem ef_24 (m : MethodId) (a1 : Addr) (a2 : Addr) : entryFrame m #[(.ref a1), (.ref a2)] 2 = (mkF m 0 #[.val (.ref a1), .val (.ref a2)] []) := by first | (simp [entryFrame, mkF, argsToLocals, Value.category]; done) | rfl
def Q24 (Z : State) (a1 : Addr) (a2 : Addr) (t : Addr) (kd : ClassId) (cs : List Int32) (r : Nat) (G1 : Int32) (h0 : Heap) (n0 : Nat) (v : Option Value) (h : Heap) (L : List Loc) : Prop := v = none ∧ Fr n0 L ∧ Keep h0 h [a1] ∧ own_str Z h a1 cs
set_option maxRecDepth 65536 in
set_option maxHeartbeats 40000000 in
theorem rm24 (l : Launch) (Z : State) (a0 : Array Value) (hw : ∀ d ∈ tables_1, d.before a0 Z = true) (ws : List Jvm.Cond) (a1 : Addr) (a2 : Addr) (t : Addr) (kd : ClassId) (cs : List Int32) (r : Nat) (G1 : Int32) (h0 : Heap) (n0 : Nat) (Z0 : n0 ≤ h0.size) (OLD0 : Old Z n0 h0) (SCS : Sta Z Z.heap "java/lang/String" "COMPACT_STRINGS" "Z" (.int G1)) (P5 : ¬ (G1 = (0 : Int32))) (g_a1 : n0 ≤ a1) (E_a1 : Exa Z h0 a1 "java/lang/String") (F_v : Fld Z h0 a1 "java/lang/String" "value" "[B" .null) (F_c : Fld Z h0 a1 "java/lang/String" "coder" "B" (.int (0 : Int32))) (SBh : own_sb Z h0 a2 t kd cs r) (hcl : cs.length + r ≤ 4000) (hrp : 0 < r) (hcap : cs.length ≤ 64) :
    MetFree l (⟨"java/lang/String", "<init>", "(Ljava/lang/StringBuilder;)V"⟩ : MethodName) (head1 (Jvm.Cond.code (⟨"java/lang/String", "<init>", "(Ljava/lang/StringBuilder;)V"⟩ : MethodName) jdk_42_method_53_code 2 none :: ws) ({ frames := 4, cells := 1, slots := 64, locals := 65 } : Room)) (fun a U => a = #[(.ref a1), (.ref a2)] ∧ Z.Warmed39 U.vm ∧ U.heap = h0) (fun _ _ _ _ _ => True) (fun _ U o U' => ∃ v L, o = .returned v ∧ Q24 Z a1 a2 t kd cs r G1 h0 n0 v U'.heap L ∧ FrameEnd U o U' L ({ frames := 4, cells := 1, slots := 64, locals := 65 } : Room).cells ({ frames := 4, cells := 1, slots := 64, locals := 65 } : Room).slots) := by
  refine MetFree.of_bodySF (plainFor_of_name pn_24) hisR ?_
  intro p e s m args below meth c s₁ Bd hml0 hP hK
  obtain ⟨rfl, hZ, hh⟩ := hP
  have hx := Bd.exec
  have hby := Bd.bytes
  have hml : c.maxLocals = 2 := hml0
  have hown : s.vm.findClass "java/lang/String" = some m.cls := findClass_of_methodNamed Bd.named
  have hnm := (name_of_methodNamed Bd.named Bd.method).1
  have X0 : Stand p l e ({ frames := 4, cells := 1, slots := 64, locals := 65 } : Room) s m #[(.ref a1), (.ref a2)] below meth c s₁ [] 0 0 := Stand.of_body Bd
  have e0 : s₁.heap = h0 := by rw [← hh, Bd.state]; rfl
  have N0 := Fr.nil n0
  have K0 := Keep.refl h0 ([a1] : List Addr)
  have pre0 : ∀ t, Steps p.tables e below (s₁.setTop (mkF m 0 #[.val (.ref a1), .val (.ref a2)] [])) t → Steps p.tables e below (s₁.setTop (entryFrame m #[(.ref a1), (.ref a2)] 2)) t := fun t k => castTop (ef_24 m a1 a2) k
  obtain ⟨_, _, ⟨T1, L1, k1, n1⟩, -, X1, ⟨Lc1, hQ1, l1, y1, z1⟩, st1⟩ := X0.specialBack hx (y := (⟨"java/lang/String", "<init>", "(Ljava/lang/AbstractStringBuilder;Ljava/lang/Void;)V"⟩ : MethodName)) rfl hown (mvT hZ (hw _ (List.mem_of_getElem? (i := 138) rfl))) (mvT hZ (hw _ (List.mem_of_getElem? (i := 139) rfl))) (mvT hZ (hw _ (List.mem_of_getElem? (i := 140) rfl))) (by decide) (backOf (W := 0) (rm25 l Z a0 hw [] a1 a2 t kd cs r G1 h0 n0 (Nat.le_trans Z0 K0.1) OLD0 SCS P5 g_a1 E_a1 F_v F_c SBh hcl hrp hcap) hZ (hw _ (List.mem_of_getElem? (i := 140) rfl)) (hw _ (List.mem_of_getElem? (i := 1) rfl)) (by decide) (by decide)) (g := (mkF m 3 #[.val (.ref a1), .val (.ref a2)] [.null, (.ref a2), (.ref a1)])) rfl (by rw [hml]; rfl) (Steps.refl _) (a := a1) (argsL := [(.ref a2), .null]) (rest := []) (lenOf pd__Ljava_lang_AbstractStringBuilder_Ljava_lang_Void__V rfl) rfl (by show 2 * 0 + _ ≤ _; exact Nat.le_of_eq rfl) (hb hby d24_3) (fun _ _ => ⟨rfl, e0, (by decide : 0 + 1 ≤ _), (by decide : 0 + 64 ≤ _)⟩)
  dsimp only [Pt.U, Pt.locs, Pt.cells, Pt.slots] at X1 l1 y1 z1 st1 hQ1
  subst l1 y1 z1
  obtain ⟨rfl, N1q, kq1, xs1⟩ := hQ1
  have N1 := Fr.app N0 N1q
  have K1 := K0.trans kq1 (allS (Or.inl (List.mem_of_getElem? (i := 0) rfl)) all0)
  obtain ⟨fs, hr, hrun, hended, hW, hsame⟩ := X1.leave (v := none) (fun _ => rfl)
  refine ⟨_, _, pre0 _ ?_, hrun, hended, _, _, rfl, ?_, ⟨_, rfl⟩, hW, hsame.mono (by decide) (by decide)⟩
  ·
    show Steps p.tables e below (s₁.setTop (mkF m 0 #[.val (.ref a1), .val (.ref a2)] [])) _
    refine XS.aloadN X0.here hx rfl (hb hby d24_0) rfl rfl ?_
    show Steps p.tables e below (s₁.setTop (mkF m 1 #[.val (.ref a1), .val (.ref a2)] [(.ref a1)])) _
    refine XS.aloadN X0.here hx rfl (hb hby d24_1) rfl rfl ?_
    show Steps p.tables e below (s₁.setTop (mkF m 2 #[.val (.ref a1), .val (.ref a2)] [(.ref a2), (.ref a1)])) _
    refine XS.aconstNull X0.here hx rfl (hb hby d24_2) ?_
    show Steps p.tables e below (s₁.setTop (mkF m 3 #[.val (.ref a1), .val (.ref a2)] [.null, (.ref a2), (.ref a1)])) _
    refine st1.trans ?_
    show Steps p.tables e below (T1.setTop (mkF m 6 #[.val (.ref a1), .val (.ref a2)] [])) _
    exact X1.returnOut hx Bd.returns (hb hby d24_6) hr
  ·
    show Q24 Z a1 a2 t kd cs r G1 h0 n0 _ T1.heap _
    exact ⟨rfl, N1, K1, xs1⟩
theorem d23_0 : decode jdk_67_method_42_code 0 = .ok (.new 18, 3) := by decide +kernel
theorem d23_3 : decode jdk_67_method_42_code 3 = .ok (.dup, 1) := by decide +kernel
theorem d23_4 : decode jdk_67_method_42_code 4 = .ok (.aload_n 0, 1) := by decide +kernel
theorem d23_5 : decode jdk_67_method_42_code 5 = .ok (.invokespecial 137, 3) := by decide +kernel
theorem d23_8 : decode jdk_67_method_42_code 8 = .ok (.areturn, 1) := by decide +kernel
theorem pn_23 : plainName "java/lang/StringBuilder" = true := by first | (simp [plainName, overriddenIn]; done) | decide +kernel
theorem pd__Ljava_lang_StringBuilder__V : parseMethodDescriptor "(Ljava/lang/StringBuilder;)V" = some ⟨[(.object "java/lang/StringBuilder")], none⟩ := by decide +kernel
theorem ef_23 (m : MethodId) (a1 : Addr) : entryFrame m #[(.ref a1)] 1 = (mkF m 0 #[.val (.ref a1)] []) := by first | (simp [entryFrame, mkF, argsToLocals, Value.category]; done) | rfl
def Q23 (Z : State) (a1 : Addr) (t : Addr) (kd : ClassId) (cs : List Int32) (r : Nat) (G1 : Int32) (h0 : Heap) (n0 : Nat) (v : Option Value) (h : Heap) (L : List Loc) : Prop := ∃ x : Addr, v = some (.ref x) ∧ Fr n0 L ∧ Keep h0 h [] ∧ n0 ≤ x ∧ h0.size ≤ x ∧ own_str Z h x cs
set_option maxRecDepth 65536 in
set_option maxHeartbeats 40000000 in
theorem rm23 (l : Launch) (Z : State) (a0 : Array Value) (hw : ∀ d ∈ tables_1, d.before a0 Z = true) (ws : List Jvm.Cond) (a1 : Addr) (t : Addr) (kd : ClassId) (cs : List Int32) (r : Nat) (G1 : Int32) (h0 : Heap) (n0 : Nat) (Z0 : n0 ≤ h0.size) (OLD0 : Old Z n0 h0) (SCS : Sta Z Z.heap "java/lang/String" "COMPACT_STRINGS" "Z" (.int G1)) (P5 : ¬ (G1 = (0 : Int32))) (SBh : own_sb Z h0 a1 t kd cs r) (hcl : cs.length + r ≤ 4000) (hrp : 0 < r) (hcap : cs.length ≤ 64) :
    MetFree l (⟨"java/lang/StringBuilder", "toString", "()Ljava/lang/String;"⟩ : MethodName) (head1 (Jvm.Cond.code (⟨"java/lang/StringBuilder", "toString", "()Ljava/lang/String;"⟩ : MethodName) jdk_67_method_42_code 1 (some (.object "java/lang/String")) :: ws) ({ frames := 5, cells := 2, slots := 68, locals := 79 } : Room)) (fun a U => a = #[(.ref a1)] ∧ Z.Warmed39 U.vm ∧ U.heap = h0) (fun _ _ _ _ _ => True) (fun _ U o U' => ∃ v L, o = .returned v ∧ Q23 Z a1 t kd cs r G1 h0 n0 v U'.heap L ∧ FrameEnd U o U' L ({ frames := 5, cells := 2, slots := 68, locals := 79 } : Room).cells ({ frames := 5, cells := 2, slots := 68, locals := 79 } : Room).slots) := by
  refine MetFree.of_bodySF (plainFor_of_name pn_23) hisR ?_
  intro p e s m args below meth c s₁ Bd hml0 hP hK
  obtain ⟨rfl, hZ, hh⟩ := hP
  have hx := Bd.exec
  have hby := Bd.bytes
  have hml : c.maxLocals = 1 := hml0
  have hown : s.vm.findClass "java/lang/StringBuilder" = some m.cls := findClass_of_methodNamed Bd.named
  have hnm := (name_of_methodNamed Bd.named Bd.method).1
  have X0 : Stand p l e ({ frames := 5, cells := 2, slots := 68, locals := 79 } : Room) s m #[(.ref a1)] below meth c s₁ [] 0 0 := Stand.of_body Bd
  have e0 : s₁.heap = h0 := by rw [← hh, Bd.state]; rfl
  have N0 := Fr.nil n0
  have K0 := Keep.refl h0 ([] : List Addr)
  have pre0 : ∀ t, Steps p.tables e below (s₁.setTop (mkF m 0 #[.val (.ref a1)] [])) t → Steps p.tables e below (s₁.setTop (entryFrame m #[(.ref a1)] 1)) t := fun t k => castTop (ef_23 m a1) k
  obtain ⟨E_a1, Gv_a1, Gc_a1, Gn_a1, Vd⟩ := id SBh
  obtain ⟨T1, h1, X1, e1, E1, A1, D1, un1, st1⟩ := newO X0 hx hZ hown (hw _ (List.mem_of_getElem? (i := 134) rfl)) (hw _ (List.mem_of_getElem? (i := 2) rfl)) (hw _ (List.mem_of_getElem? (i := 1) rfl)) e0 (g := (mkF m 0 #[.val (.ref a1)] [])) rfl (hb hby d23_0) (by decide) (by decide)
  obtain ⟨b1, g1⟩ : ∃ z, z = h0.size := ⟨_, rfl⟩
  rw [← g1] at A1 D1 un1 st1
  have g_b1 : n0 ≤ b1 := Nat.le_trans (Nat.le_trans Z0 K0.1) (Nat.le_of_eq g1.symm)
  have sz_b1 : h0.size ≤ b1 := Nat.le_trans K0.1 (Nat.le_of_eq g1.symm)
  have ne_a1_b1 : a1 ≠ b1 := Nat.ne_of_lt (Nat.lt_of_lt_of_le E_a1.lt (Nat.le_of_eq g1.symm))
  have ne_t_b1 : t ≠ b1 := Nat.ne_of_lt (Nat.lt_of_lt_of_le Vd.lt (Nat.le_of_eq g1.symm))
  have K1 := K0.ext E1
  have F_value_b1 : Fld Z h1 b1 "java/lang/String" "value" "[B" .null := D1 (Or.inr (hw _ (List.mem_of_getElem? (i := 4) rfl))) (ty := (.array .byte)) (by decide)
  have F_coder_b1 : Fld Z h1 b1 "java/lang/String" "coder" "B" (.int (0 : Int32)) := D1 (Or.inr (hw _ (List.mem_of_getElem? (i := 5) rfl))) (ty := .byte) (by decide)
  have OL3 : Old Z n0 h1 := OLD0.keep K1 all0
  have c4 := (E_a1.ext E1)
  have c5 := (Gv_a1.ext E1)
  have c6 := (Gc_a1.ext E1)
  have c7 := (Gn_a1.ext E1)
  have c8 := (Vd.ext E1)
  have sbh : own_sb Z h1 a1 t kd cs r := ⟨c4, c5, c6, c7, c8⟩
  obtain ⟨_, _, ⟨T2, L2, k2, n2⟩, -, X2, ⟨Lc2, hQ2, l2, y2, z2⟩, st2⟩ := X1.specialBack hx (y := (⟨"java/lang/String", "<init>", "(Ljava/lang/StringBuilder;)V"⟩ : MethodName)) rfl hown (mvT hZ (hw _ (List.mem_of_getElem? (i := 135) rfl))) (mvT hZ (hw _ (List.mem_of_getElem? (i := 136) rfl))) (mvT hZ (hw _ (List.mem_of_getElem? (i := 137) rfl))) (by decide) (backOf (W := 1) (rm24 l Z a0 hw [] b1 a1 t kd cs r G1 h1 n0 (Nat.le_trans Z0 K1.1) OL3 SCS P5 g_b1 A1 F_value_b1 F_coder_b1 sbh hcl hrp hcap) hZ (hw _ (List.mem_of_getElem? (i := 137) rfl)) (hw _ (List.mem_of_getElem? (i := 1) rfl)) (by decide) (by decide)) (g := (mkF m 5 #[.val (.ref a1)] [(.ref a1), (.ref b1), (.ref b1)])) rfl (by rw [hml]; rfl) (Steps.refl _) (a := b1) (argsL := [(.ref a1)]) (rest := [(.ref b1)]) (lenOf pd__Ljava_lang_StringBuilder__V rfl) rfl (by show 2 * 0 + _ ≤ _; exact Nat.le_of_eq rfl) (hb hby d23_5) (fun _ _ => ⟨rfl, e1, (by decide : 1 + 1 ≤ _), (by decide : 4 + 64 ≤ _)⟩)
  dsimp only [Pt.U, Pt.locs, Pt.cells, Pt.slots] at X2 l2 y2 z2 st2 hQ2
  subst l2 y2 z2
  obtain ⟨rfl, N2q, kq2, xs2⟩ := hQ2
  have N2 := Fr.app N0 N2q
  have K2 := K1.trans kq2 (allS (Or.inr sz_b1) all0)
  obtain ⟨fs, hr, hrun, hended, hW, hsame⟩ := X2.leave (v := some (.ref b1)) (fun h => by rw [Bd.returns] at h; cases h)
  refine ⟨_, _, pre0 _ ?_, hrun, hended, _, _, rfl, ?_, ⟨_, rfl⟩, hW, hsame.mono (by decide) (by decide)⟩
  ·
    show Steps p.tables e below (s₁.setTop (mkF m 0 #[.val (.ref a1)] [])) _
    refine st1 _ ?_
    show Steps p.tables e below (T1.setTop (mkF m 3 #[.val (.ref a1)] [(.ref b1)])) _
    refine XS.dup X1.here hx rfl (hb hby d23_3) rfl rfl ?_
    show Steps p.tables e below (T1.setTop (mkF m 4 #[.val (.ref a1)] [(.ref b1), (.ref b1)])) _
    refine XS.aloadN X1.here hx rfl (hb hby d23_4) rfl rfl ?_
    show Steps p.tables e below (T1.setTop (mkF m 5 #[.val (.ref a1)] [(.ref a1), (.ref b1), (.ref b1)])) _
    refine st2.trans ?_
    show Steps p.tables e below (T2.setTop (mkF m 8 #[.val (.ref a1)] [(.ref b1)])) _
    jvm_step X2.here [X2.here.top, hx, (hb hby d23_8), X2.method', Bd.returns, Value.isRef, FieldType.isReference]
    first | (intro acts; rw [hr _ acts rfl rfl rfl]) | rw [hr _ _ rfl rfl rfl]
    exact Steps.refl _
  ·
    show Q23 Z a1 t kd cs r G1 h0 n0 _ T2.heap _
    exact ⟨_, rfl, N2, K2, g_b1, sz_b1, xs2⟩
theorem d37_0 : decode jdk_78_method_2_code 0 = .ok (.aload_n 0, 1) := by decide +kernel
theorem d37_1 : decode jdk_78_method_2_code 1 = .ok (.invokespecial 1, 3) := by decide +kernel
theorem d37_4 : decode jdk_78_method_2_code 4 = .ok (.aload_n 0, 1) := by decide +kernel
theorem d37_5 : decode jdk_78_method_2_code 5 = .ok (.aload_n 0, 1) := by decide +kernel
theorem d37_6 : decode jdk_78_method_2_code 6 = .ok (.putfield 7, 3) := by decide +kernel
theorem d37_9 : decode jdk_78_method_2_code 9 = .ok (.aload_n 0, 1) := by decide +kernel
theorem d37_10 : decode jdk_78_method_2_code 10 = .ok (.getstatic 13, 3) := by decide +kernel
theorem d37_13 : decode jdk_78_method_2_code 13 = .ok (.putfield 17, 3) := by decide +kernel
theorem d37_16 : decode jdk_78_method_2_code 16 = .ok (.aload_n 0, 1) := by decide +kernel
theorem d37_17 : decode jdk_78_method_2_code 17 = .ok (.getstatic 20, 3) := by decide +kernel
theorem d37_20 : decode jdk_78_method_2_code 20 = .ok (.putfield 24, 3) := by decide +kernel
theorem d37_23 : decode jdk_78_method_2_code 23 = .ok (.aload_n 0, 1) := by decide +kernel
theorem d37_24 : decode jdk_78_method_2_code 24 = .ok (.invokevirtual 27, 3) := by decide +kernel
theorem d37_27 : decode jdk_78_method_2_code 27 = .ok (.pop, 1) := by decide +kernel
theorem d37_28 : decode jdk_78_method_2_code 28 = .ok (.aload_n 0, 1) := by decide +kernel
theorem d37_29 : decode jdk_78_method_2_code 29 = .ok (.aload_n 1, 1) := by decide +kernel
theorem d37_30 : decode jdk_78_method_2_code 30 = .ok (.putfield 31, 3) := by decide +kernel
theorem d37_33 : decode jdk_78_method_2_code 33 = .ok (.return_, 1) := by decide +kernel
theorem pn_37 : plainName "java/lang/Throwable" = true := by first | (simp [plainName, overriddenIn]; done) | decide +kernel
theorem ef_37 (m : MethodId) (a1 : Addr) (a2 : Addr) : entryFrame m #[(.ref a1), (.ref a2)] 2 = (mkF m 0 #[.val (.ref a1), .val (.ref a2)] []) := by first | (simp [entryFrame, mkF, argsToLocals, Value.category]; done) | rfl
def Q37 (Z : State) (a1 : Addr) (a2 : Addr) (ua : Addr) (ub : Addr) (h0 : Heap) (n0 : Nat) (v : Option Value) (h : Heap) (L : List Loc) : Prop := v = none ∧ Fr n0 L ∧ Keep h0 h [a1] ∧ Exa Z h a1 "com/example/modelwright/modelwright/FilterException" ∧ Fld Z h a1 "java/lang/Throwable" "detailMessage" "Ljava/lang/String;" (.ref a2) ∧ Fld Z h a1 "com/example/modelwright/modelwright/FilterException" "key" "Ljava/lang/String;" .null
set_option maxRecDepth 65536 in
set_option maxHeartbeats 40000000 in
theorem rm37 (l : Launch) (Z : State) (a0 : Array Value) (hw : ∀ d ∈ tables_1, d.before a0 Z = true) (ws : List Jvm.Cond) (a1 : Addr) (a2 : Addr) (ua : Addr) (ub : Addr) (h0 : Heap) (n0 : Nat) (Z0 : n0 ≤ h0.size) (hl : l.stackTraces = true) (OLD0 : Old Z n0 h0) (SU : Sta Z Z.heap "java/lang/Throwable" "UNASSIGNED_STACK" "[Ljava/lang/StackTraceElement;" (.ref ua)) (SV : Sta Z Z.heap "java/lang/Throwable" "SUPPRESSED_SENTINEL" "Ljava/util/List;" (.ref ub)) (g_a1 : n0 ≤ a1) (E_a1 : Exa Z h0 a1 "com/example/modelwright/modelwright/FilterException") (UN : Unt h0 a1) (F_b : Fld Z h0 a1 "java/lang/Throwable" "backtrace" "Ljava/lang/Object;" .null) (F_c : Fld Z h0 a1 "java/lang/Throwable" "cause" "Ljava/lang/Throwable;" .null) (F_s : Fld Z h0 a1 "java/lang/Throwable" "stackTrace" "[Ljava/lang/StackTraceElement;" .null) (F_p : Fld Z h0 a1 "java/lang/Throwable" "suppressedExceptions" "Ljava/util/List;" .null) (F_d : Fld Z h0 a1 "java/lang/Throwable" "detailMessage" "Ljava/lang/String;" .null) (F_k : Fld Z h0 a1 "com/example/modelwright/modelwright/FilterException" "key" "Ljava/lang/String;" .null) :
    MetFree l (⟨"java/lang/Throwable", "<init>", "(Ljava/lang/String;)V"⟩ : MethodName) (head1 (Jvm.Cond.code (⟨"java/lang/Throwable", "<init>", "(Ljava/lang/String;)V"⟩ : MethodName) jdk_78_method_2_code 2 none :: ws) ({ frames := 3, cells := 1, slots := 2752, locals := 42 } : Room)) (fun a U => a = #[(.ref a1), (.ref a2)] ∧ Z.Warmed39 U.vm ∧ U.heap = h0) (fun _ _ bl s _ => s.vm.MethodsKnown ∧ s.vm.FramesKnown bl) (fun _ U o U' => ∃ v L, o = .returned v ∧ Q37 Z a1 a2 ua ub h0 n0 v U'.heap L ∧ FrameEnd U o U' L ({ frames := 3, cells := 1, slots := 2752, locals := 42 } : Room).cells ({ frames := 3, cells := 1, slots := 2752, locals := 42 } : Room).slots) := by
  refine MetFree.of_bodySF (plainFor_of_name pn_37) hisR ?_
  intro p e s m args below meth c s₁ Bd hml0 hP hK
  obtain ⟨rfl, hZ, hh⟩ := hP
  have hx := Bd.exec
  have hby := Bd.bytes
  have hml : c.maxLocals = 2 := hml0
  have hown : s.vm.findClass "java/lang/Throwable" = some m.cls := findClass_of_methodNamed Bd.named
  have hnm := (name_of_methodNamed Bd.named Bd.method).1
  have X0 : Stand p l e ({ frames := 3, cells := 1, slots := 2752, locals := 42 } : Room) s m #[(.ref a1), (.ref a2)] below meth c s₁ [] 0 0 := Stand.of_body Bd
  have e0 : s₁.heap = h0 := by rw [← hh, Bd.state]; rfl
  have N0 := Fr.nil n0
  have K0 := Keep.refl h0 ([a1] : List Addr)
  have pre0 : ∀ t, Steps p.tables e below (s₁.setTop (mkF m 0 #[.val (.ref a1), .val (.ref a2)] [])) t → Steps p.tables e below (s₁.setTop (entryFrame m #[(.ref a1), (.ref a2)] 2)) t := fun t k => castTop (ef_37 m a1 a2) k
  obtain ⟨T1, X1, e1, st1⟩ := initO X0 hx hZ hown (hw _ (List.mem_of_getElem? (i := 194) rfl)) (hw _ (List.mem_of_getElem? (i := 18) rfl)) (hw _ (List.mem_of_getElem? (i := 19) rfl)) e0 (g := (mkF m 1 #[.val (.ref a1), .val (.ref a2)] [(.ref a1)])) rfl (by rw [hml]; rfl) rfl (hb hby d37_1) (by decide) (W := 0) (by show 2 * 0 + _ ≤ _; exact Nat.le_of_eq rfl) (by decide)
  obtain ⟨T2, h2, X2, e2, W2, st2⟩ := putF X1 hx hZ hown (host := "") (Or.inl (hw _ (List.mem_of_getElem? (i := 195) rfl))) Via.refl e1 F_c E_a1 (Or.inl (hw _ (List.mem_of_getElem? (i := 196) rfl))) (hw _ (List.mem_of_getElem? (i := 38) rfl)) (ty := (.object "java/lang/Throwable")) (by decide) rfl rfl (g := (mkF m 6 #[.val (.ref a1), .val (.ref a2)] [(.ref a1), (.ref a1)])) rfl rfl (hb hby d37_6)
  have Fw2 := F_c.same W2
  have K2 := K0.wr W2 (Or.inl (List.mem_of_getElem? (i := 0) rfl))
  have N2 := Fr.snoc X2 N0 g_a1
  have q3 := SU.ext (OLD0.keep K2 (allS g_a1 all0)).2
  obtain ⟨T4, X4, e4, st4⟩ := getS2 X2 hx hZ hown (host := "") (Or.inl (hw _ (List.mem_of_getElem? (i := 197) rfl))) Via.refl e2 q3 (g := (mkF m 10 #[.val (.ref a1), .val (.ref a2)] [(.ref a1)])) rfl (hb hby d37_10)
  have c5 := (E_a1.wr W2)
  have c6 := (F_s.other W2 (Or.inr (slot_ne (Or.inl (hw _ (List.mem_of_getElem? (i := 199) rfl))) (Or.inl (hw _ (List.mem_of_getElem? (i := 196) rfl))) (by decide) (t := (.array (.object "java/lang/StackTraceElement"))) (t' := (.object "java/lang/Throwable")) (by decide) (by decide))))
  obtain ⟨T7, h7, X7, e7, W7, st7⟩ := putF X4 hx hZ hown (host := "") (Or.inl (hw _ (List.mem_of_getElem? (i := 198) rfl))) Via.refl e4 c6 c5 (Or.inl (hw _ (List.mem_of_getElem? (i := 199) rfl))) (hw _ (List.mem_of_getElem? (i := 38) rfl)) (ty := (.array (.object "java/lang/StackTraceElement"))) (by decide) rfl rfl (g := (mkF m 13 #[.val (.ref a1), .val (.ref a2)] [(.ref ua), (.ref a1)])) rfl rfl (hb hby d37_13)
  have Fw7 := c6.same W7
  have K7 := K2.wr W7 (Or.inl (List.mem_of_getElem? (i := 0) rfl))
  have N7 := Fr.snoc X7 N2 g_a1
  have q8 := SV.ext (OLD0.keep K7 (allS g_a1 all0)).2
  obtain ⟨T9, X9, e9, st9⟩ := getS2 X7 hx hZ hown (host := "") (Or.inl (hw _ (List.mem_of_getElem? (i := 200) rfl))) Via.refl e7 q8 (g := (mkF m 17 #[.val (.ref a1), .val (.ref a2)] [(.ref a1)])) rfl (hb hby d37_17)
  have c10 := (c5.wr W7)
  have c11 := ((F_p.other W2 (Or.inr (slot_ne (Or.inl (hw _ (List.mem_of_getElem? (i := 202) rfl))) (Or.inl (hw _ (List.mem_of_getElem? (i := 196) rfl))) (by decide) (t := (.object "java/util/List")) (t' := (.object "java/lang/Throwable")) (by decide) (by decide)))).other W7 (Or.inr (slot_ne (Or.inl (hw _ (List.mem_of_getElem? (i := 202) rfl))) (Or.inl (hw _ (List.mem_of_getElem? (i := 199) rfl))) (by decide) (t := (.object "java/util/List")) (t' := (.array (.object "java/lang/StackTraceElement"))) (by decide) (by decide))))
  obtain ⟨T12, h12, X12, e12, W12, st12⟩ := putF X9 hx hZ hown (host := "") (Or.inl (hw _ (List.mem_of_getElem? (i := 201) rfl))) Via.refl e9 c11 c10 (Or.inl (hw _ (List.mem_of_getElem? (i := 202) rfl))) (hw _ (List.mem_of_getElem? (i := 38) rfl)) (ty := (.object "java/util/List")) (by decide) rfl rfl (g := (mkF m 20 #[.val (.ref a1), .val (.ref a2)] [(.ref ub), (.ref a1)])) rfl rfl (hb hby d37_20)
  have Fw12 := c11.same W12
  have K12 := K7.wr W12 (Or.inl (List.mem_of_getElem? (i := 0) rfl))
  have N12 := Fr.snoc X12 N7 g_a1
  have pre13 : ∀ t, Steps p.tables e below (T12.setTop (mkF m 24 #[.val (.ref a1), .val (.ref a2)] [(.ref a1)])) t → Steps p.tables e below (s₁.setTop (entryFrame m #[(.ref a1), (.ref a2)] 2)) t := by
    intro t kt
    refine pre0 _ ?_
    show Steps p.tables e below (s₁.setTop (mkF m 0 #[.val (.ref a1), .val (.ref a2)] [])) _
    refine XS.aloadN X0.here hx rfl (hb hby d37_0) rfl rfl ?_
    show Steps p.tables e below (s₁.setTop (mkF m 1 #[.val (.ref a1), .val (.ref a2)] [(.ref a1)])) _
    refine st1 _ ?_
    show Steps p.tables e below (T1.setTop (mkF m 4 #[.val (.ref a1), .val (.ref a2)] [])) _
    refine XS.aloadN X1.here hx rfl (hb hby d37_4) rfl rfl ?_
    show Steps p.tables e below (T1.setTop (mkF m 5 #[.val (.ref a1), .val (.ref a2)] [(.ref a1)])) _
    refine XS.aloadN X1.here hx rfl (hb hby d37_5) rfl rfl ?_
    show Steps p.tables e below (T1.setTop (mkF m 6 #[.val (.ref a1), .val (.ref a2)] [(.ref a1), (.ref a1)])) _
    refine st2 _ ?_
    show Steps p.tables e below (T2.setTop (mkF m 9 #[.val (.ref a1), .val (.ref a2)] [])) _
    refine XS.aloadN X2.here hx rfl (hb hby d37_9) rfl rfl ?_
    show Steps p.tables e below (T2.setTop (mkF m 10 #[.val (.ref a1), .val (.ref a2)] [(.ref a1)])) _
    refine st4 _ ?_
    show Steps p.tables e below (T4.setTop (mkF m 13 #[.val (.ref a1), .val (.ref a2)] [(.ref ua), (.ref a1)])) _
    refine st7 _ ?_
    show Steps p.tables e below (T7.setTop (mkF m 16 #[.val (.ref a1), .val (.ref a2)] [])) _
    refine XS.aloadN X7.here hx rfl (hb hby d37_16) rfl rfl ?_
    show Steps p.tables e below (T7.setTop (mkF m 17 #[.val (.ref a1), .val (.ref a2)] [(.ref a1)])) _
    refine st9 _ ?_
    show Steps p.tables e below (T9.setTop (mkF m 20 #[.val (.ref a1), .val (.ref a2)] [(.ref ub), (.ref a1)])) _
    refine st12 _ ?_
    show Steps p.tables e below (T12.setTop (mkF m 23 #[.val (.ref a1), .val (.ref a2)] [])) _
    refine XS.aloadN X12.here hx rfl (hb hby d37_23) rfl rfl ?_
    show Steps p.tables e below (T12.setTop (mkF m 24 #[.val (.ref a1), .val (.ref a2)] [(.ref a1)])) _
    exact kt
  have c15 := (c10.wr W12)
  have c16 := (Unt.wr W12 (Unt.wr W7 (Unt.wr W2 UN)))
  have c17 := (Fw7.other W12 (Or.inr (slot_ne (Or.inl (hw _ (List.mem_of_getElem? (i := 199) rfl))) (Or.inl (hw _ (List.mem_of_getElem? (i := 202) rfl))) (by decide) (t := (.array (.object "java/lang/StackTraceElement"))) (t' := (.object "java/util/List")) (by decide) (by decide))))
  have c18 := (((F_b.other W2 (Or.inr (slot_ne (Or.inl (hw _ (List.mem_of_getElem? (i := 227) rfl))) (Or.inl (hw _ (List.mem_of_getElem? (i := 196) rfl))) (by decide) (t := (.object "java/lang/Object")) (t' := (.object "java/lang/Throwable")) (by decide) (by decide)))).other W7 (Or.inr (slot_ne (Or.inl (hw _ (List.mem_of_getElem? (i := 227) rfl))) (Or.inl (hw _ (List.mem_of_getElem? (i := 199) rfl))) (by decide) (t := (.object "java/lang/Object")) (t' := (.array (.object "java/lang/StackTraceElement"))) (by decide) (by decide)))).other W12 (Or.inr (slot_ne (Or.inl (hw _ (List.mem_of_getElem? (i := 227) rfl))) (Or.inl (hw _ (List.mem_of_getElem? (i := 202) rfl))) (by decide) (t := (.object "java/lang/Object")) (t' := (.object "java/util/List")) (by decide) (by decide))))
  have c19 := (((F_d.other W2 (Or.inr (slot_ne (Or.inl (hw _ (List.mem_of_getElem? (i := 226) rfl))) (Or.inl (hw _ (List.mem_of_getElem? (i := 196) rfl))) (by decide) (t := (.object "java/lang/String")) (t' := (.object "java/lang/Throwable")) (by decide) (by decide)))).other W7 (Or.inr (slot_ne (Or.inl (hw _ (List.mem_of_getElem? (i := 226) rfl))) (Or.inl (hw _ (List.mem_of_getElem? (i := 199) rfl))) (by decide) (t := (.object "java/lang/String")) (t' := (.array (.object "java/lang/StackTraceElement"))) (by decide) (by decide)))).other W12 (Or.inr (slot_ne (Or.inl (hw _ (List.mem_of_getElem? (i := 226) rfl))) (Or.inl (hw _ (List.mem_of_getElem? (i := 202) rfl))) (by decide) (t := (.object "java/lang/String")) (t' := (.object "java/util/List")) (by decide) (by decide))))
  have c20 := (((F_k.other W2 (Or.inr (slot_ne (Or.inr (hw _ (List.mem_of_getElem? (i := 232) rfl))) (Or.inl (hw _ (List.mem_of_getElem? (i := 196) rfl))) (by decide) (t := (.object "java/lang/String")) (t' := (.object "java/lang/Throwable")) (by decide) (by decide)))).other W7 (Or.inr (slot_ne (Or.inr (hw _ (List.mem_of_getElem? (i := 232) rfl))) (Or.inl (hw _ (List.mem_of_getElem? (i := 199) rfl))) (by decide) (t := (.object "java/lang/String")) (t' := (.array (.object "java/lang/StackTraceElement"))) (by decide) (by decide)))).other W12 (Or.inr (slot_ne (Or.inr (hw _ (List.mem_of_getElem? (i := 232) rfl))) (Or.inl (hw _ (List.mem_of_getElem? (i := 202) rfl))) (by decide) (t := (.object "java/lang/String")) (t' := (.object "java/util/List")) (by decide) (by decide))))
  have OL14 : Old Z n0 h12 := OLD0.keep K12 (allS g_a1 all0)
  obtain ⟨T14, L14, X14, bL14, kz14, fz14, st14⟩ := own_fill X12 hx hl hZ hw hown (by rw [hh]; exact ThS.ext OLD0.2 ThS.start) hK.1 hK.2 e12 (ThS.ext OL14.2 ThS.start) (u0 := .ref ua) rfl c15 c16 SU c17 c18 (g := (mkF m 24 #[.val (.ref a1), .val (.ref a2)] [(.ref a1)])) rfl (by rw [hml]; rfl) (rest := []) rfl (hb hby d37_24) (by decide) (W := 0) (by show 2 * 0 + _ ≤ _; exact Nat.le_of_eq rfl) (by decide) (by decide) (by decide) (fun x hq => by
    simp only [List.mem_append, List.mem_cons, List.not_mem_nil, or_false, false_or] at hq
    rcases hq with (hq | hq) | hq <;> rw [hq])
  have kq14 : Keep h0 T14.heap [a1] := by rw [← hh]; exact kz14
  have N14 := Fr.app N12 (fun y hy => by rw [bL14 y hy]; exact g_a1 : Fr n0 L14)
  have E14 := E_a1.keep kq14
  have fd14 : Fld Z T14.heap a1 "java/lang/Throwable" "detailMessage" "Ljava/lang/String;" .null := fz14 _ _ _ _ c19 (slot_ne (Or.inl (hw _ (List.mem_of_getElem? (i := 226) rfl))) (Or.inl (hw _ (List.mem_of_getElem? (i := 227) rfl))) (by decide) (t := (.object "java/lang/String")) (t' := (.object "java/lang/Object")) (by decide) (by decide)) (slot_ne (Or.inl (hw _ (List.mem_of_getElem? (i := 226) rfl))) (Or.inl (hw _ (List.mem_of_getElem? (i := 228) rfl))) (by decide) (t := (.object "java/lang/String")) (t' := .int) (by decide) (by decide)) (slot_ne (Or.inl (hw _ (List.mem_of_getElem? (i := 226) rfl))) (Or.inl (hw _ (List.mem_of_getElem? (i := 199) rfl))) (by decide) (t := (.object "java/lang/String")) (t' := (.array (.object "java/lang/StackTraceElement"))) (by decide) (by decide))
  have fk14 : Fld Z T14.heap a1 "com/example/modelwright/modelwright/FilterException" "key" "Ljava/lang/String;" .null := fz14 _ _ _ _ c20 (slot_ne (Or.inr (hw _ (List.mem_of_getElem? (i := 232) rfl))) (Or.inl (hw _ (List.mem_of_getElem? (i := 227) rfl))) (by decide) (t := (.object "java/lang/String")) (t' := (.object "java/lang/Object")) (by decide) (by decide)) (slot_ne (Or.inr (hw _ (List.mem_of_getElem? (i := 232) rfl))) (Or.inl (hw _ (List.mem_of_getElem? (i := 228) rfl))) (by decide) (t := (.object "java/lang/String")) (t' := .int) (by decide) (by decide)) (slot_ne (Or.inr (hw _ (List.mem_of_getElem? (i := 232) rfl))) (Or.inl (hw _ (List.mem_of_getElem? (i := 199) rfl))) (by decide) (t := (.object "java/lang/String")) (t' := (.array (.object "java/lang/StackTraceElement"))) (by decide) (by decide))
  obtain ⟨T21, h21, X21, e21, W21, st21⟩ := putF X14 hx hZ hown (host := "") (Or.inl (hw _ (List.mem_of_getElem? (i := 230) rfl))) Via.refl rfl fd14 E14 (Or.inl (hw _ (List.mem_of_getElem? (i := 226) rfl))) (hw _ (List.mem_of_getElem? (i := 38) rfl)) (ty := (.object "java/lang/String")) (by decide) rfl rfl (g := (mkF m 30 #[.val (.ref a1), .val (.ref a2)] [(.ref a2), (.ref a1)])) rfl rfl (hb hby d37_30)
  have Fw21 := fd14.same W21
  have K21 := kq14.wr W21 (Or.inl (List.mem_of_getElem? (i := 0) rfl))
  have N21 := Fr.snoc X21 N14 g_a1
  have c22 := (E14.wr W21)
  have c23 := (fk14.other W21 (Or.inr (slot_ne (Or.inr (hw _ (List.mem_of_getElem? (i := 232) rfl))) (Or.inl (hw _ (List.mem_of_getElem? (i := 226) rfl))) (by decide) (t := (.object "java/lang/String")) (t' := (.object "java/lang/String")) (by decide) (by decide))))
  obtain ⟨fs, hr, hrun, hended, hW, hsame⟩ := X21.leave (v := none) (fun _ => rfl)
  refine ⟨_, _, pre13 _ ?_, hrun, hended, _, _, rfl, ?_, ⟨_, rfl⟩, hW, hsame.mono (by decide) (by decide)⟩
  ·
    show Steps p.tables e below (T12.setTop (mkF m 24 #[.val (.ref a1), .val (.ref a2)] [(.ref a1)])) _
    refine st14 _ ?_
    show Steps p.tables e below (T14.setTop (mkF m 27 #[.val (.ref a1), .val (.ref a2)] [(.ref a1)])) _
    refine XS.pop X14.here hx rfl (hb hby d37_27) rfl rfl ?_
    show Steps p.tables e below (T14.setTop (mkF m 28 #[.val (.ref a1), .val (.ref a2)] [])) _
    refine XS.aloadN X14.here hx rfl (hb hby d37_28) rfl rfl ?_
    show Steps p.tables e below (T14.setTop (mkF m 29 #[.val (.ref a1), .val (.ref a2)] [(.ref a1)])) _
    refine XS.aloadN X14.here hx rfl (hb hby d37_29) rfl rfl ?_
    show Steps p.tables e below (T14.setTop (mkF m 30 #[.val (.ref a1), .val (.ref a2)] [(.ref a2), (.ref a1)])) _
    refine st21 _ ?_
    show Steps p.tables e below (T21.setTop (mkF m 33 #[.val (.ref a1), .val (.ref a2)] [])) _
    exact X21.returnOut hx Bd.returns (hb hby d37_33) hr
  ·
    show Q37 Z a1 a2 ua ub h0 n0 _ T21.heap _
    rw [e21]
    exact ⟨rfl, N21, K21, c22, Fw21, c23⟩
theorem d36_0 : decode jdk_59_method_2_code 0 = .ok (.aload_n 0, 1) := by decide +kernel
theorem d36_1 : decode jdk_59_method_2_code 1 = .ok (.aload_n 1, 1) := by decide +kernel
theorem d36_2 : decode jdk_59_method_2_code 2 = .ok (.invokespecial 7, 3) := by decide +kernel
theorem d36_5 : decode jdk_59_method_2_code 5 = .ok (.return_, 1) := by decide +kernel
theorem pn_36 : plainName "java/lang/Exception" = true := by first | (simp [plainName, overriddenIn]; done) | decide +kernel
theorem ef_36 (m : MethodId) (a1 : Addr) (a2 : Addr) : entryFrame m #[(.ref a1), (.ref a2)] 2 = (mkF m 0 #[.val (.ref a1), .val (.ref a2)] []) := by first | (simp [entryFrame, mkF, argsToLocals, Value.category]; done) | rfl
def Q36 (Z : State) (a1 : Addr) (a2 : Addr) (ua : Addr) (ub : Addr) (h0 : Heap) (n0 : Nat) (v : Option Value) (h : Heap) (L : List Loc) : Prop := v = none ∧ Fr n0 L ∧ Keep h0 h [a1] ∧ Exa Z h a1 "com/example/modelwright/modelwright/FilterException" ∧ Fld Z h a1 "java/lang/Throwable" "detailMessage" "Ljava/lang/String;" (.ref a2) ∧ Fld Z h a1 "com/example/modelwright/modelwright/FilterException" "key" "Ljava/lang/String;" .null
set_option maxRecDepth 65536 in
set_option maxHeartbeats 40000000 in
theorem rm36 (l : Launch) (Z : State) (a0 : Array Value) (hw : ∀ d ∈ tables_1, d.before a0 Z = true) (ws : List Jvm.Cond) (a1 : Addr) (a2 : Addr) (ua : Addr) (ub : Addr) (h0 : Heap) (n0 : Nat) (Z0 : n0 ≤ h0.size) (hl : l.stackTraces = true) (OLD0 : Old Z n0 h0) (SU : Sta Z Z.heap "java/lang/Throwable" "UNASSIGNED_STACK" "[Ljava/lang/StackTraceElement;" (.ref ua)) (SV : Sta Z Z.heap "java/lang/Throwable" "SUPPRESSED_SENTINEL" "Ljava/util/List;" (.ref ub)) (g_a1 : n0 ≤ a1) (E_a1 : Exa Z h0 a1 "com/example/modelwright/modelwright/FilterException") (UN : Unt h0 a1) (F_b : Fld Z h0 a1 "java/lang/Throwable" "backtrace" "Ljava/lang/Object;" .null) (F_c : Fld Z h0 a1 "java/lang/Throwable" "cause" "Ljava/lang/Throwable;" .null) (F_s : Fld Z h0 a1 "java/lang/Throwable" "stackTrace" "[Ljava/lang/StackTraceElement;" .null) (F_p : Fld Z h0 a1 "java/lang/Throwable" "suppressedExceptions" "Ljava/util/List;" .null) (F_d : Fld Z h0 a1 "java/lang/Throwable" "detailMessage" "Ljava/lang/String;" .null) (F_k : Fld Z h0 a1 "com/example/modelwright/modelwright/FilterException" "key" "Ljava/lang/String;" .null) :
    MetFree l (⟨"java/lang/Exception", "<init>", "(Ljava/lang/String;)V"⟩ : MethodName) (head1 (Jvm.Cond.code (⟨"java/lang/Exception", "<init>", "(Ljava/lang/String;)V"⟩ : MethodName) jdk_59_method_2_code 2 none :: ws) ({ frames := 4, cells := 1, slots := 2752, locals := 55 } : Room)) (fun a U => a = #[(.ref a1), (.ref a2)] ∧ Z.Warmed39 U.vm ∧ U.heap = h0) (fun _ _ bl s _ => s.vm.MethodsKnown ∧ s.vm.FramesKnown bl) (fun _ U o U' => ∃ v L, o = .returned v ∧ Q36 Z a1 a2 ua ub h0 n0 v U'.heap L ∧ FrameEnd U o U' L ({ frames := 4, cells := 1, slots := 2752, locals := 55 } : Room).cells ({ frames := 4, cells := 1, slots := 2752, locals := 55 } : Room).slots) := by
  refine MetFree.of_bodySF (plainFor_of_name pn_36) hisR ?_
  intro p e s m args below meth c s₁ Bd hml0 hP hK
  obtain ⟨rfl, hZ, hh⟩ := hP
  have hx := Bd.exec
  have hby := Bd.bytes
  have hml : c.maxLocals = 2 := hml0
  have hown : s.vm.findClass "java/lang/Exception" = some m.cls := findClass_of_methodNamed Bd.named
  have hnm := (name_of_methodNamed Bd.named Bd.method).1
  have X0 : Stand p l e ({ frames := 4, cells := 1, slots := 2752, locals := 55 } : Room) s m #[(.ref a1), (.ref a2)] below meth c s₁ [] 0 0 := Stand.of_body Bd
  have e0 : s₁.heap = h0 := by rw [← hh, Bd.state]; rfl
  have N0 := Fr.nil n0
  have K0 := Keep.refl h0 ([a1] : List Addr)
  have pre0 : ∀ t, Steps p.tables e below (s₁.setTop (mkF m 0 #[.val (.ref a1), .val (.ref a2)] [])) t → Steps p.tables e below (s₁.setTop (entryFrame m #[(.ref a1), (.ref a2)] 2)) t := fun t k => castTop (ef_36 m a1 a2) k
  have OL2 : Old Z n0 h0 := OLD0.keep K0 (allS g_a1 all0)
  obtain ⟨_, _, ⟨T1, L1, k1, n1⟩, -, X1, ⟨Lc1, hQ1, l1, y1, z1⟩, st1⟩ := X0.specialBack hx (y := (⟨"java/lang/Throwable", "<init>", "(Ljava/lang/String;)V"⟩ : MethodName)) rfl hown (mvT hZ (hw _ (List.mem_of_getElem? (i := 188) rfl))) (mvT hZ (hw _ (List.mem_of_getElem? (i := 189) rfl))) (mvT hZ (hw _ (List.mem_of_getElem? (i := 193) rfl))) (by decide) (backOfKL (W := 0) (rm37 l Z a0 hw [] a1 a2 ua ub h0 n0 (Nat.le_trans Z0 K0.1) hl OL2 SU SV g_a1 E_a1 UN F_b F_c F_s F_p F_d F_k) hZ (hw _ (List.mem_of_getElem? (i := 193) rfl)) (hw _ (List.mem_of_getElem? (i := 192) rfl)) (by decide) (by decide) hK.1 hK.2) (g := (mkF m 2 #[.val (.ref a1), .val (.ref a2)] [(.ref a2), (.ref a1)])) rfl (by rw [hml]; rfl) (Steps.refl _) (a := a1) (argsL := [(.ref a2)]) (rest := []) (lenOf pd__Ljava_lang_String__V rfl) rfl (by show 2 * 0 + _ ≤ _; exact Nat.le_of_eq rfl) (hb hby d36_2) (fun _ _ => ⟨rfl, e0, (by decide : 0 + 1 ≤ _), (by decide : 0 + 2752 ≤ _)⟩)
  dsimp only [Pt.U, Pt.locs, Pt.cells, Pt.slots] at X1 l1 y1 z1 st1 hQ1
  subst l1 y1 z1
  obtain ⟨rfl, N1q, kq1, ex1, fd1, fk1⟩ := hQ1
  have N1 := Fr.app N0 N1q
  have K1 := K0.trans kq1 (allS (Or.inl (List.mem_of_getElem? (i := 0) rfl)) all0)
  obtain ⟨fs, hr, hrun, hended, hW, hsame⟩ := X1.leave (v := none) (fun _ => rfl)
  refine ⟨_, _, pre0 _ ?_, hrun, hended, _, _, rfl, ?_, ⟨_, rfl⟩, hW, hsame.mono (by decide) (by decide)⟩
  ·
    show Steps p.tables e below (s₁.setTop (mkF m 0 #[.val (.ref a1), .val (.ref a2)] [])) _
    refine XS.aloadN X0.here hx rfl (hb hby d36_0) rfl rfl ?_
    show Steps p.tables e below (s₁.setTop (mkF m 1 #[.val (.ref a1), .val (.ref a2)] [(.ref a1)])) _
    refine XS.aloadN X0.here hx rfl (hb hby d36_1) rfl rfl ?_
    show Steps p.tables e below (s₁.setTop (mkF m 2 #[.val (.ref a1), .val (.ref a2)] [(.ref a2), (.ref a1)])) _
    refine st1.trans ?_
    show Steps p.tables e below (T1.setTop (mkF m 5 #[.val (.ref a1), .val (.ref a2)] [])) _
    exact X1.returnOut hx Bd.returns (hb hby d36_5) hr
  ·
    show Q36 Z a1 a2 ua ub h0 n0 _ T1.heap _
    exact ⟨rfl, N1, K1, ex1, fd1, fk1⟩
theorem d35_0 : decode jdk_58_method_2_code 0 = .ok (.aload_n 0, 1) := by decide +kernel
theorem d35_1 : decode jdk_58_method_2_code 1 = .ok (.aload_n 1, 1) := by decide +kernel
theorem d35_2 : decode jdk_58_method_2_code 2 = .ok (.invokespecial 7, 3) := by decide +kernel
theorem d35_5 : decode jdk_58_method_2_code 5 = .ok (.return_, 1) := by decide +kernel
theorem pn_35 : plainName "java/lang/RuntimeException" = true := by first | (simp [plainName, overriddenIn]; done) | decide +kernel
theorem ef_35 (m : MethodId) (a1 : Addr) (a2 : Addr) : entryFrame m #[(.ref a1), (.ref a2)] 2 = (mkF m 0 #[.val (.ref a1), .val (.ref a2)] []) := by first | (simp [entryFrame, mkF, argsToLocals, Value.category]; done) | rfl
def Q35 (Z : State) (a1 : Addr) (a2 : Addr) (ua : Addr) (ub : Addr) (h0 : Heap) (n0 : Nat) (v : Option Value) (h : Heap) (L : List Loc) : Prop := v = none ∧ Fr n0 L ∧ Keep h0 h [a1] ∧ Exa Z h a1 "com/example/modelwright/modelwright/FilterException" ∧ Fld Z h a1 "java/lang/Throwable" "detailMessage" "Ljava/lang/String;" (.ref a2) ∧ Fld Z h a1 "com/example/modelwright/modelwright/FilterException" "key" "Ljava/lang/String;" .null
set_option maxRecDepth 65536 in
set_option maxHeartbeats 40000000 in
theorem rm35 (l : Launch) (Z : State) (a0 : Array Value) (hw : ∀ d ∈ tables_1, d.before a0 Z = true) (ws : List Jvm.Cond) (a1 : Addr) (a2 : Addr) (ua : Addr) (ub : Addr) (h0 : Heap) (n0 : Nat) (Z0 : n0 ≤ h0.size) (hl : l.stackTraces = true) (OLD0 : Old Z n0 h0) (SU : Sta Z Z.heap "java/lang/Throwable" "UNASSIGNED_STACK" "[Ljava/lang/StackTraceElement;" (.ref ua)) (SV : Sta Z Z.heap "java/lang/Throwable" "SUPPRESSED_SENTINEL" "Ljava/util/List;" (.ref ub)) (g_a1 : n0 ≤ a1) (E_a1 : Exa Z h0 a1 "com/example/modelwright/modelwright/FilterException") (UN : Unt h0 a1) (F_b : Fld Z h0 a1 "java/lang/Throwable" "backtrace" "Ljava/lang/Object;" .null) (F_c : Fld Z h0 a1 "java/lang/Throwable" "cause" "Ljava/lang/Throwable;" .null) (F_s : Fld Z h0 a1 "java/lang/Throwable" "stackTrace" "[Ljava/lang/StackTraceElement;" .null) (F_p : Fld Z h0 a1 "java/lang/Throwable" "suppressedExceptions" "Ljava/util/List;" .null) (F_d : Fld Z h0 a1 "java/lang/Throwable" "detailMessage" "Ljava/lang/String;" .null) (F_k : Fld Z h0 a1 "com/example/modelwright/modelwright/FilterException" "key" "Ljava/lang/String;" .null) :
    MetFree l (⟨"java/lang/RuntimeException", "<init>", "(Ljava/lang/String;)V"⟩ : MethodName) (head1 (Jvm.Cond.code (⟨"java/lang/RuntimeException", "<init>", "(Ljava/lang/String;)V"⟩ : MethodName) jdk_58_method_2_code 2 none :: ws) ({ frames := 5, cells := 1, slots := 2752, locals := 68 } : Room)) (fun a U => a = #[(.ref a1), (.ref a2)] ∧ Z.Warmed39 U.vm ∧ U.heap = h0) (fun _ _ bl s _ => s.vm.MethodsKnown ∧ s.vm.FramesKnown bl) (fun _ U o U' => ∃ v L, o = .returned v ∧ Q35 Z a1 a2 ua ub h0 n0 v U'.heap L ∧ FrameEnd U o U' L ({ frames := 5, cells := 1, slots := 2752, locals := 68 } : Room).cells ({ frames := 5, cells := 1, slots := 2752, locals := 68 } : Room).slots) := by
  refine MetFree.of_bodySF (plainFor_of_name pn_35) hisR ?_
  intro p e s m args below meth c s₁ Bd hml0 hP hK
  obtain ⟨rfl, hZ, hh⟩ := hP
  have hx := Bd.exec
  have hby := Bd.bytes
  have hml : c.maxLocals = 2 := hml0
  have hown : s.vm.findClass "java/lang/RuntimeException" = some m.cls := findClass_of_methodNamed Bd.named
  have hnm := (name_of_methodNamed Bd.named Bd.method).1
  have X0 : Stand p l e ({ frames := 5, cells := 1, slots := 2752, locals := 68 } : Room) s m #[(.ref a1), (.ref a2)] below meth c s₁ [] 0 0 := Stand.of_body Bd
  have e0 : s₁.heap = h0 := by rw [← hh, Bd.state]; rfl
  have N0 := Fr.nil n0
  have K0 := Keep.refl h0 ([a1] : List Addr)
  have pre0 : ∀ t, Steps p.tables e below (s₁.setTop (mkF m 0 #[.val (.ref a1), .val (.ref a2)] [])) t → Steps p.tables e below (s₁.setTop (entryFrame m #[(.ref a1), (.ref a2)] 2)) t := fun t k => castTop (ef_35 m a1 a2) k
  have OL2 : Old Z n0 h0 := OLD0.keep K0 (allS g_a1 all0)
  obtain ⟨_, _, ⟨T1, L1, k1, n1⟩, -, X1, ⟨Lc1, hQ1, l1, y1, z1⟩, st1⟩ := X0.specialBack hx (y := (⟨"java/lang/Exception", "<init>", "(Ljava/lang/String;)V"⟩ : MethodName)) rfl hown (mvT hZ (hw _ (List.mem_of_getElem? (i := 182) rfl))) (mvT hZ (hw _ (List.mem_of_getElem? (i := 183) rfl))) (mvT hZ (hw _ (List.mem_of_getElem? (i := 187) rfl))) (by decide) (backOfKL (W := 0) (rm36 l Z a0 hw [] a1 a2 ua ub h0 n0 (Nat.le_trans Z0 K0.1) hl OL2 SU SV g_a1 E_a1 UN F_b F_c F_s F_p F_d F_k) hZ (hw _ (List.mem_of_getElem? (i := 187) rfl)) (hw _ (List.mem_of_getElem? (i := 186) rfl)) (by decide) (by decide) hK.1 hK.2) (g := (mkF m 2 #[.val (.ref a1), .val (.ref a2)] [(.ref a2), (.ref a1)])) rfl (by rw [hml]; rfl) (Steps.refl _) (a := a1) (argsL := [(.ref a2)]) (rest := []) (lenOf pd__Ljava_lang_String__V rfl) rfl (by show 2 * 0 + _ ≤ _; exact Nat.le_of_eq rfl) (hb hby d35_2) (fun _ _ => ⟨rfl, e0, (by decide : 0 + 1 ≤ _), (by decide : 0 + 2752 ≤ _)⟩)
  dsimp only [Pt.U, Pt.locs, Pt.cells, Pt.slots] at X1 l1 y1 z1 st1 hQ1
  subst l1 y1 z1
  obtain ⟨rfl, N1q, kq1, ex1, fd1, fk1⟩ := hQ1
  have N1 := Fr.app N0 N1q
  have K1 := K0.trans kq1 (allS (Or.inl (List.mem_of_getElem? (i := 0) rfl)) all0)
  obtain ⟨fs, hr, hrun, hended, hW, hsame⟩ := X1.leave (v := none) (fun _ => rfl)
  refine ⟨_, _, pre0 _ ?_, hrun, hended, _, _, rfl, ?_, ⟨_, rfl⟩, hW, hsame.mono (by decide) (by decide)⟩
  ·
    show Steps p.tables e below (s₁.setTop (mkF m 0 #[.val (.ref a1), .val (.ref a2)] [])) _
    refine XS.aloadN X0.here hx rfl (hb hby d35_0) rfl rfl ?_
    show Steps p.tables e below (s₁.setTop (mkF m 1 #[.val (.ref a1), .val (.ref a2)] [(.ref a1)])) _
    refine XS.aloadN X0.here hx rfl (hb hby d35_1) rfl rfl ?_
    show Steps p.tables e below (s₁.setTop (mkF m 2 #[.val (.ref a1), .val (.ref a2)] [(.ref a2), (.ref a1)])) _
    refine st1.trans ?_
    show Steps p.tables e below (T1.setTop (mkF m 5 #[.val (.ref a1), .val (.ref a2)] [])) _
    exact X1.returnOut hx Bd.returns (hb hby d35_5) hr
  ·
    show Q35 Z a1 a2 ua ub h0 n0 _ T1.heap _
    exact ⟨rfl, N1, K1, ex1, fd1, fk1⟩
theorem d34_0 : decode jdk_57_method_2_code 0 = .ok (.aload_n 0, 1) := by decide +kernel
theorem d34_1 : decode jdk_57_method_2_code 1 = .ok (.aload_n 1, 1) := by decide +kernel
theorem d34_2 : decode jdk_57_method_2_code 2 = .ok (.invokespecial 7, 3) := by decide +kernel
theorem d34_5 : decode jdk_57_method_2_code 5 = .ok (.return_, 1) := by decide +kernel
theorem pn_34 : plainName "java/lang/IllegalArgumentException" = true := by first | (simp [plainName, overriddenIn]; done) | decide +kernel
theorem ef_34 (m : MethodId) (a1 : Addr) (a2 : Addr) : entryFrame m #[(.ref a1), (.ref a2)] 2 = (mkF m 0 #[.val (.ref a1), .val (.ref a2)] []) := by first | (simp [entryFrame, mkF, argsToLocals, Value.category]; done) | rfl
def Q34 (Z : State) (a1 : Addr) (a2 : Addr) (ua : Addr) (ub : Addr) (h0 : Heap) (n0 : Nat) (v : Option Value) (h : Heap) (L : List Loc) : Prop := v = none ∧ Fr n0 L ∧ Keep h0 h [a1] ∧ Exa Z h a1 "com/example/modelwright/modelwright/FilterException" ∧ Fld Z h a1 "java/lang/Throwable" "detailMessage" "Ljava/lang/String;" (.ref a2) ∧ Fld Z h a1 "com/example/modelwright/modelwright/FilterException" "key" "Ljava/lang/String;" .null
set_option maxRecDepth 65536 in
set_option maxHeartbeats 40000000 in
theorem rm34 (l : Launch) (Z : State) (a0 : Array Value) (hw : ∀ d ∈ tables_1, d.before a0 Z = true) (ws : List Jvm.Cond) (a1 : Addr) (a2 : Addr) (ua : Addr) (ub : Addr) (h0 : Heap) (n0 : Nat) (Z0 : n0 ≤ h0.size) (hl : l.stackTraces = true) (OLD0 : Old Z n0 h0) (SU : Sta Z Z.heap "java/lang/Throwable" "UNASSIGNED_STACK" "[Ljava/lang/StackTraceElement;" (.ref ua)) (SV : Sta Z Z.heap "java/lang/Throwable" "SUPPRESSED_SENTINEL" "Ljava/util/List;" (.ref ub)) (g_a1 : n0 ≤ a1) (E_a1 : Exa Z h0 a1 "com/example/modelwright/modelwright/FilterException") (UN : Unt h0 a1) (F_b : Fld Z h0 a1 "java/lang/Throwable" "backtrace" "Ljava/lang/Object;" .null) (F_c : Fld Z h0 a1 "java/lang/Throwable" "cause" "Ljava/lang/Throwable;" .null) (F_s : Fld Z h0 a1 "java/lang/Throwable" "stackTrace" "[Ljava/lang/StackTraceElement;" .null) (F_p : Fld Z h0 a1 "java/lang/Throwable" "suppressedExceptions" "Ljava/util/List;" .null) (F_d : Fld Z h0 a1 "java/lang/Throwable" "detailMessage" "Ljava/lang/String;" .null) (F_k : Fld Z h0 a1 "com/example/modelwright/modelwright/FilterException" "key" "Ljava/lang/String;" .null) :
    MetFree l (⟨"java/lang/IllegalArgumentException", "<init>", "(Ljava/lang/String;)V"⟩ : MethodName) (head1 (Jvm.Cond.code (⟨"java/lang/IllegalArgumentException", "<init>", "(Ljava/lang/String;)V"⟩ : MethodName) jdk_57_method_2_code 2 none :: ws) ({ frames := 6, cells := 1, slots := 2752, locals := 81 } : Room)) (fun a U => a = #[(.ref a1), (.ref a2)] ∧ Z.Warmed39 U.vm ∧ U.heap = h0) (fun _ _ bl s _ => s.vm.MethodsKnown ∧ s.vm.FramesKnown bl) (fun _ U o U' => ∃ v L, o = .returned v ∧ Q34 Z a1 a2 ua ub h0 n0 v U'.heap L ∧ FrameEnd U o U' L ({ frames := 6, cells := 1, slots := 2752, locals := 81 } : Room).cells ({ frames := 6, cells := 1, slots := 2752, locals := 81 } : Room).slots) := by
  refine MetFree.of_bodySF (plainFor_of_name pn_34) hisR ?_
  intro p e s m args below meth c s₁ Bd hml0 hP hK
  obtain ⟨rfl, hZ, hh⟩ := hP
  have hx := Bd.exec
  have hby := Bd.bytes
  have hml : c.maxLocals = 2 := hml0
  have hown : s.vm.findClass "java/lang/IllegalArgumentException" = some m.cls := findClass_of_methodNamed Bd.named
  have hnm := (name_of_methodNamed Bd.named Bd.method).1
  have X0 : Stand p l e ({ frames := 6, cells := 1, slots := 2752, locals := 81 } : Room) s m #[(.ref a1), (.ref a2)] below meth c s₁ [] 0 0 := Stand.of_body Bd
  have e0 : s₁.heap = h0 := by rw [← hh, Bd.state]; rfl
  have N0 := Fr.nil n0
  have K0 := Keep.refl h0 ([a1] : List Addr)
  have pre0 : ∀ t, Steps p.tables e below (s₁.setTop (mkF m 0 #[.val (.ref a1), .val (.ref a2)] [])) t → Steps p.tables e below (s₁.setTop (entryFrame m #[(.ref a1), (.ref a2)] 2)) t := fun t k => castTop (ef_34 m a1 a2) k
  have OL2 : Old Z n0 h0 := OLD0.keep K0 (allS g_a1 all0)
  obtain ⟨_, _, ⟨T1, L1, k1, n1⟩, -, X1, ⟨Lc1, hQ1, l1, y1, z1⟩, st1⟩ := X0.specialBack hx (y := (⟨"java/lang/RuntimeException", "<init>", "(Ljava/lang/String;)V"⟩ : MethodName)) rfl hown (mvT hZ (hw _ (List.mem_of_getElem? (i := 176) rfl))) (mvT hZ (hw _ (List.mem_of_getElem? (i := 177) rfl))) (mvT hZ (hw _ (List.mem_of_getElem? (i := 181) rfl))) (by decide) (backOfKL (W := 0) (rm35 l Z a0 hw [] a1 a2 ua ub h0 n0 (Nat.le_trans Z0 K0.1) hl OL2 SU SV g_a1 E_a1 UN F_b F_c F_s F_p F_d F_k) hZ (hw _ (List.mem_of_getElem? (i := 181) rfl)) (hw _ (List.mem_of_getElem? (i := 180) rfl)) (by decide) (by decide) hK.1 hK.2) (g := (mkF m 2 #[.val (.ref a1), .val (.ref a2)] [(.ref a2), (.ref a1)])) rfl (by rw [hml]; rfl) (Steps.refl _) (a := a1) (argsL := [(.ref a2)]) (rest := []) (lenOf pd__Ljava_lang_String__V rfl) rfl (by show 2 * 0 + _ ≤ _; exact Nat.le_of_eq rfl) (hb hby d34_2) (fun _ _ => ⟨rfl, e0, (by decide : 0 + 1 ≤ _), (by decide : 0 + 2752 ≤ _)⟩)
  dsimp only [Pt.U, Pt.locs, Pt.cells, Pt.slots] at X1 l1 y1 z1 st1 hQ1
  subst l1 y1 z1
  obtain ⟨rfl, N1q, kq1, ex1, fd1, fk1⟩ := hQ1
  have N1 := Fr.app N0 N1q
  have K1 := K0.trans kq1 (allS (Or.inl (List.mem_of_getElem? (i := 0) rfl)) all0)
  obtain ⟨fs, hr, hrun, hended, hW, hsame⟩ := X1.leave (v := none) (fun _ => rfl)
  refine ⟨_, _, pre0 _ ?_, hrun, hended, _, _, rfl, ?_, ⟨_, rfl⟩, hW, hsame.mono (by decide) (by decide)⟩
  ·
    show Steps p.tables e below (s₁.setTop (mkF m 0 #[.val (.ref a1), .val (.ref a2)] [])) _
    refine XS.aloadN X0.here hx rfl (hb hby d34_0) rfl rfl ?_
    show Steps p.tables e below (s₁.setTop (mkF m 1 #[.val (.ref a1), .val (.ref a2)] [(.ref a1)])) _
    refine XS.aloadN X0.here hx rfl (hb hby d34_1) rfl rfl ?_
    show Steps p.tables e below (s₁.setTop (mkF m 2 #[.val (.ref a1), .val (.ref a2)] [(.ref a2), (.ref a1)])) _
    refine st1.trans ?_
    show Steps p.tables e below (T1.setTop (mkF m 5 #[.val (.ref a1), .val (.ref a2)] [])) _
    exact X1.returnOut hx Bd.returns (hb hby d34_5) hr
  ·
    show Q34 Z a1 a2 ua ub h0 n0 _ T1.heap _
    exact ⟨rfl, N1, K1, ex1, fd1, fk1⟩
theorem d33_0 : decode prog_3_method_1_code 0 = .ok (.aload_n 0, 1) := by decide +kernel
theorem d33_1 : decode prog_3_method_1_code 1 = .ok (.aload_n 2, 1) := by decide +kernel
theorem d33_2 : decode prog_3_method_1_code 2 = .ok (.invokespecial 1, 3) := by decide +kernel
theorem d33_5 : decode prog_3_method_1_code 5 = .ok (.aload_n 0, 1) := by decide +kernel
theorem d33_6 : decode prog_3_method_1_code 6 = .ok (.aload_n 1, 1) := by decide +kernel
theorem d33_7 : decode prog_3_method_1_code 7 = .ok (.putfield 7, 3) := by decide +kernel
theorem d33_10 : decode prog_3_method_1_code 10 = .ok (.return_, 1) := by decide +kernel
theorem pn_33 : plainName "com/example/modelwright/modelwright/FilterException" = true := by first | (simp [plainName, overriddenIn]; done) | decide +kernel
theorem ef_33 (m : MethodId) (a1 : Addr) (a2 : Addr) (a3 : Addr) : entryFrame m #[(.ref a1), (.ref a2), (.ref a3)] 3 = (mkF m 0 #[.val (.ref a1), .val (.ref a2), .val (.ref a3)] []) := by first | (simp [entryFrame, mkF, argsToLocals, Value.category]; done) | rfl
def Q33 (Z : State) (a1 : Addr) (a2 : Addr) (a3 : Addr) (ua : Addr) (ub : Addr) (h0 : Heap) (n0 : Nat) (v : Option Value) (h : Heap) (L : List Loc) : Prop := v = none ∧ Fr n0 L ∧ Keep h0 h [a1] ∧ Exa Z h a1 "com/example/modelwright/modelwright/FilterException" ∧ Fld Z h a1 "java/lang/Throwable" "detailMessage" "Ljava/lang/String;" (.ref a3) ∧ Fld Z h a1 "com/example/modelwright/modelwright/FilterException" "key" "Ljava/lang/String;" (.ref a2)
set_option maxRecDepth 65536 in
set_option maxHeartbeats 40000000 in
theorem rm33 (l : Launch) (Z : State) (a0 : Array Value) (hw : ∀ d ∈ tables_1, d.before a0 Z = true) (ws : List Jvm.Cond) (a1 : Addr) (a2 : Addr) (a3 : Addr) (ua : Addr) (ub : Addr) (h0 : Heap) (n0 : Nat) (Z0 : n0 ≤ h0.size) (hl : l.stackTraces = true) (OLD0 : Old Z n0 h0) (SU : Sta Z Z.heap "java/lang/Throwable" "UNASSIGNED_STACK" "[Ljava/lang/StackTraceElement;" (.ref ua)) (SV : Sta Z Z.heap "java/lang/Throwable" "SUPPRESSED_SENTINEL" "Ljava/util/List;" (.ref ub)) (g_a1 : n0 ≤ a1) (E_a1 : Exa Z h0 a1 "com/example/modelwright/modelwright/FilterException") (UN : Unt h0 a1) (F_b : Fld Z h0 a1 "java/lang/Throwable" "backtrace" "Ljava/lang/Object;" .null) (F_c : Fld Z h0 a1 "java/lang/Throwable" "cause" "Ljava/lang/Throwable;" .null) (F_s : Fld Z h0 a1 "java/lang/Throwable" "stackTrace" "[Ljava/lang/StackTraceElement;" .null) (F_p : Fld Z h0 a1 "java/lang/Throwable" "suppressedExceptions" "Ljava/util/List;" .null) (F_d : Fld Z h0 a1 "java/lang/Throwable" "detailMessage" "Ljava/lang/String;" .null) (F_k : Fld Z h0 a1 "com/example/modelwright/modelwright/FilterException" "key" "Ljava/lang/String;" .null) :
    MetFree l (⟨"com/example/modelwright/modelwright/FilterException", "<init>", "(Ljava/lang/String;Ljava/lang/String;)V"⟩ : MethodName) (head1 (Jvm.Cond.code (⟨"com/example/modelwright/modelwright/FilterException", "<init>", "(Ljava/lang/String;Ljava/lang/String;)V"⟩ : MethodName) prog_3_method_1_code 3 none :: ws) ({ frames := 7, cells := 1, slots := 2752, locals := 94 } : Room)) (fun a U => a = #[(.ref a1), (.ref a2), (.ref a3)] ∧ Z.Warmed39 U.vm ∧ U.heap = h0) (fun _ _ bl s _ => s.vm.MethodsKnown ∧ s.vm.FramesKnown bl) (fun _ U o U' => ∃ v L, o = .returned v ∧ Q33 Z a1 a2 a3 ua ub h0 n0 v U'.heap L ∧ FrameEnd U o U' L ({ frames := 7, cells := 1, slots := 2752, locals := 94 } : Room).cells ({ frames := 7, cells := 1, slots := 2752, locals := 94 } : Room).slots) := by
  refine MetFree.of_bodySF (plainFor_of_name pn_33) hisR ?_
  intro p e s m args below meth c s₁ Bd hml0 hP hK
  obtain ⟨rfl, hZ, hh⟩ := hP
  have hx := Bd.exec
  have hby := Bd.bytes
  have hml : c.maxLocals = 3 := hml0
  have hown : s.vm.findClass "com/example/modelwright/modelwright/FilterException" = some m.cls := findClass_of_methodNamed Bd.named
  have hnm := (name_of_methodNamed Bd.named Bd.method).1
  have X0 : Stand p l e ({ frames := 7, cells := 1, slots := 2752, locals := 94 } : Room) s m #[(.ref a1), (.ref a2), (.ref a3)] below meth c s₁ [] 0 0 := Stand.of_body Bd
  have e0 : s₁.heap = h0 := by rw [← hh, Bd.state]; rfl
  have N0 := Fr.nil n0
  have K0 := Keep.refl h0 ([a1] : List Addr)
  have pre0 : ∀ t, Steps p.tables e below (s₁.setTop (mkF m 0 #[.val (.ref a1), .val (.ref a2), .val (.ref a3)] [])) t → Steps p.tables e below (s₁.setTop (entryFrame m #[(.ref a1), (.ref a2), (.ref a3)] 3)) t := fun t k => castTop (ef_33 m a1 a2 a3) k
  have OL2 : Old Z n0 h0 := OLD0.keep K0 (allS g_a1 all0)
  obtain ⟨_, _, ⟨T1, L1, k1, n1⟩, -, X1, ⟨Lc1, hQ1, l1, y1, z1⟩, st1⟩ := X0.specialBack hx (y := (⟨"java/lang/IllegalArgumentException", "<init>", "(Ljava/lang/String;)V"⟩ : MethodName)) rfl hown (mvT hZ (hw _ (List.mem_of_getElem? (i := 171) rfl))) (mvT hZ (hw _ (List.mem_of_getElem? (i := 172) rfl))) (mvT hZ (hw _ (List.mem_of_getElem? (i := 175) rfl))) (by decide) (backOfKL (W := 0) (rm34 l Z a0 hw [] a1 a3 ua ub h0 n0 (Nat.le_trans Z0 K0.1) hl OL2 SU SV g_a1 E_a1 UN F_b F_c F_s F_p F_d F_k) hZ (hw _ (List.mem_of_getElem? (i := 175) rfl)) (hw _ (List.mem_of_getElem? (i := 174) rfl)) (by decide) (by decide) hK.1 hK.2) (g := (mkF m 2 #[.val (.ref a1), .val (.ref a2), .val (.ref a3)] [(.ref a3), (.ref a1)])) rfl (by rw [hml]; rfl) (Steps.refl _) (a := a1) (argsL := [(.ref a3)]) (rest := []) (lenOf pd__Ljava_lang_String__V rfl) rfl (by show 2 * 0 + _ ≤ _; exact Nat.le_of_eq rfl) (hb hby d33_2) (fun _ _ => ⟨rfl, e0, (by decide : 0 + 1 ≤ _), (by decide : 0 + 2752 ≤ _)⟩)
  dsimp only [Pt.U, Pt.locs, Pt.cells, Pt.slots] at X1 l1 y1 z1 st1 hQ1
  subst l1 y1 z1
  obtain ⟨rfl, N1q, kq1, ex1, fd1, fk1⟩ := hQ1
  have N1 := Fr.app N0 N1q
  have K1 := K0.trans kq1 (allS (Or.inl (List.mem_of_getElem? (i := 0) rfl)) all0)
  obtain ⟨T3, h3, X3, e3, W3, st3⟩ := putF X1 hx hZ hown (host := "") (Or.inl (hw _ (List.mem_of_getElem? (i := 231) rfl))) Via.refl rfl fk1 ex1 (Or.inr ⟨(hw _ (List.mem_of_getElem? (i := 232) rfl)), rfl, hnm⟩) (hw _ (List.mem_of_getElem? (i := 38) rfl)) (ty := (.object "java/lang/String")) (by decide) rfl rfl (g := (mkF m 7 #[.val (.ref a1), .val (.ref a2), .val (.ref a3)] [(.ref a2), (.ref a1)])) rfl rfl (hb hby d33_7)
  have Fw3 := fk1.same W3
  have K3 := K1.wr W3 (Or.inl (List.mem_of_getElem? (i := 0) rfl))
  have N3 := Fr.snoc X3 N1 g_a1
  have c4 := (ex1.wr W3)
  have c5 := (fd1.other W3 (Or.inr (slot_ne (Or.inl (hw _ (List.mem_of_getElem? (i := 226) rfl))) (Or.inr (hw _ (List.mem_of_getElem? (i := 232) rfl))) (by decide) (t := (.object "java/lang/String")) (t' := (.object "java/lang/String")) (by decide) (by decide))))
  obtain ⟨fs, hr, hrun, hended, hW, hsame⟩ := X3.leave (v := none) (fun _ => rfl)
  refine ⟨_, _, pre0 _ ?_, hrun, hended, _, _, rfl, ?_, ⟨_, rfl⟩, hW, hsame.mono (by decide) (by decide)⟩
  ·
    show Steps p.tables e below (s₁.setTop (mkF m 0 #[.val (.ref a1), .val (.ref a2), .val (.ref a3)] [])) _
    refine XS.aloadN X0.here hx rfl (hb hby d33_0) rfl rfl ?_
    show Steps p.tables e below (s₁.setTop (mkF m 1 #[.val (.ref a1), .val (.ref a2), .val (.ref a3)] [(.ref a1)])) _
    refine XS.aloadN X0.here hx rfl (hb hby d33_1) rfl rfl ?_
    show Steps p.tables e below (s₁.setTop (mkF m 2 #[.val (.ref a1), .val (.ref a2), .val (.ref a3)] [(.ref a3), (.ref a1)])) _
    refine st1.trans ?_
    show Steps p.tables e below (T1.setTop (mkF m 5 #[.val (.ref a1), .val (.ref a2), .val (.ref a3)] [])) _
    refine XS.aloadN X1.here hx rfl (hb hby d33_5) rfl rfl ?_
    show Steps p.tables e below (T1.setTop (mkF m 6 #[.val (.ref a1), .val (.ref a2), .val (.ref a3)] [(.ref a1)])) _
    refine XS.aloadN X1.here hx rfl (hb hby d33_6) rfl rfl ?_
    show Steps p.tables e below (T1.setTop (mkF m 7 #[.val (.ref a1), .val (.ref a2), .val (.ref a3)] [(.ref a2), (.ref a1)])) _
    refine st3 _ ?_
    show Steps p.tables e below (T3.setTop (mkF m 10 #[.val (.ref a1), .val (.ref a2), .val (.ref a3)] [])) _
    exact X3.returnOut hx Bd.returns (hb hby d33_10) hr
  ·
    show Q33 Z a1 a2 a3 ua ub h0 n0 _ T3.heap _
    rw [e3]
    exact ⟨rfl, N3, K3, c4, c5, Fw3⟩
theorem d7_0 : decode prog_3_method_2_code 0 = .ok (.new 8, 3) := by decide +kernel
theorem d7_3 : decode prog_3_method_2_code 3 = .ok (.dup, 1) := by decide +kernel
theorem d7_4 : decode prog_3_method_2_code 4 = .ok (.aload_n 0, 1) := by decide +kernel
theorem d7_5 : decode prog_3_method_2_code 5 = .ok (.new 13, 3) := by decide +kernel
theorem d7_8 : decode prog_3_method_2_code 8 = .ok (.dup, 1) := by decide +kernel
theorem d7_9 : decode prog_3_method_2_code 9 = .ok (.invokespecial 15, 3) := by decide +kernel
theorem d7_12 : decode prog_3_method_2_code 12 = .ok (.ldc 18, 2) := by decide +kernel
theorem d7_14 : decode prog_3_method_2_code 14 = .ok (.invokevirtual 20, 3) := by decide +kernel
theorem d7_17 : decode prog_3_method_2_code 17 = .ok (.aload_n 0, 1) := by decide +kernel
theorem d7_18 : decode prog_3_method_2_code 18 = .ok (.invokevirtual 20, 3) := by decide +kernel
theorem d7_21 : decode prog_3_method_2_code 21 = .ok (.ldc 24, 2) := by decide +kernel
theorem d7_23 : decode prog_3_method_2_code 23 = .ok (.invokevirtual 20, 3) := by decide +kernel
theorem d7_26 : decode prog_3_method_2_code 26 = .ok (.aload_n 1, 1) := by decide +kernel
theorem d7_27 : decode prog_3_method_2_code 27 = .ok (.invokevirtual 20, 3) := by decide +kernel
theorem d7_30 : decode prog_3_method_2_code 30 = .ok (.invokevirtual 26, 3) := by decide +kernel
theorem d7_33 : decode prog_3_method_2_code 33 = .ok (.invokespecial 30, 3) := by decide +kernel
theorem d7_36 : decode prog_3_method_2_code 36 = .ok (.areturn, 1) := by decide +kernel
theorem pn_7 : plainName "com/example/modelwright/modelwright/FilterException" = true := by first | (simp [plainName, overriddenIn]; done) | decide +kernel
theorem pd___Ljava_lang_String_ : parseMethodDescriptor "()Ljava/lang/String;" = some ⟨[], some (.object "java/lang/String")⟩ := by decide +kernel
theorem pd___V : parseMethodDescriptor "()V" = some ⟨[], none⟩ := by decide +kernel
theorem pd__Ljava_lang_String__Ljava_lang_StringBuilder_ : parseMethodDescriptor "(Ljava/lang/String;)Ljava/lang/StringBuilder;" = some ⟨[(.object "java/lang/String")], some (.object "java/lang/StringBuilder")⟩ := by decide +kernel
theorem pd__Ljava_lang_String_Ljava_lang_String__V : parseMethodDescriptor "(Ljava/lang/String;Ljava/lang/String;)V" = some ⟨[(.object "java/lang/String"), (.object "java/lang/String")], none⟩ := by decide +kernel
theorem ef_7 (m : MethodId) (a1 : Addr) (a2 : Addr) : entryFrame m #[(.ref a1), (.ref a2)] 2 = (mkF m 0 #[.val (.ref a1), .val (.ref a2)] []) := by first | (simp [entryFrame, mkF, argsToLocals, Value.category]; done) | rfl
def Q7 (Z : State) (a1 : Addr) (a2 : Addr) (cs_a1 : List Int32) (cs_a2 : List Int32) (G1 : Int32) (ua : Addr) (ub : Addr) (Ts : List String) (h0 : Heap) (n0 : Nat) (v : Option Value) (h : Heap) (L : List Loc) : Prop := ∃ x : Addr, v = some (.ref x) ∧ Fr n0 L ∧ Keep h0 h [] ∧ n0 ≤ x ∧ h0.size ≤ x ∧ Exa Z h x "com/example/modelwright/modelwright/FilterException" ∧ ∃ y : Addr, Fld Z h x "java/lang/Throwable" "detailMessage" "Ljava/lang/String;" (.ref y) ∧ Fld Z h x "com/example/modelwright/modelwright/FilterException" "key" "Ljava/lang/String;" (.ref a1) ∧ own_str Z h y (own_t18 ++ cs_a1 ++ own_t24 ++ cs_a2)
set_option maxRecDepth 65536 in
set_option maxHeartbeats 40000000 in
theorem rm7 (l : Launch) (Z : State) (a0 : Array Value) (hw : ∀ d ∈ tables_1, d.before a0 Z = true) (ws : List Jvm.Cond) (a1 : Addr) (a2 : Addr) (cs_a1 : List Int32) (cs_a2 : List Int32) (G1 : Int32) (ua : Addr) (ub : Addr) (Ts : List String) (h0 : Heap) (n0 : Nat) (Z0 : n0 ≤ h0.size) (OLD0 : Old Z n0 h0) (SCS : Sta Z Z.heap "java/lang/String" "COMPACT_STRINGS" "Z" (.int G1)) (P5 : ¬ (G1 = (0 : Int32))) (hl : l.stackTraces = true) (SU : Sta Z Z.heap "java/lang/Throwable" "UNASSIGNED_STACK" "[Ljava/lang/StackTraceElement;" (.ref ua)) (SV : Sta Z Z.heap "java/lang/Throwable" "SUPPRESSED_SENTINEL" "Ljava/util/List;" (.ref ub)) (XS_a1 : own_str Z h0 a1 cs_a1) (XS_a2 : own_str Z h0 a2 cs_a2) (hc_a1 : ∀ c ∈ cs_a1, own_c255 c) (hc_a2 : ∀ c ∈ cs_a2, own_c255 c) (hm_1 : cs_a1.length ≤ 2) (hm_2 : cs_a2.length ≤ 2) (hnt : "Cannot filter by " ∉ Ts ∧ ": " ∉ Ts) (HC18 : Jvm.Lit.constHeld Z "com/example/modelwright/modelwright/FilterException" 18) (HC24 : Jvm.Lit.constHeld Z "com/example/modelwright/modelwright/FilterException" 24) (HCW : Jvm.Lit.compactW.before a0 Z = true) :
    MetFree l (⟨"com/example/modelwright/modelwright/FilterException", "ofFilterKey", "(Ljava/lang/String;Ljava/lang/String;)Lcom/example/modelwright/modelwright/FilterException;"⟩ : MethodName) (head1 (Jvm.Cond.code (⟨"com/example/modelwright/modelwright/FilterException", "ofFilterKey", "(Ljava/lang/String;Ljava/lang/String;)Lcom/example/modelwright/modelwright/FilterException;"⟩ : MethodName) prog_3_method_2_code 2 (some (.object "com/example/modelwright/modelwright/FilterException")) :: ws) ({ frames := 8, cells := 11, slots := 2990, locals := 109 } : Room)) (fun a U => a = #[(.ref a1), (.ref a2)] ∧ Z.Warmed39 U.vm ∧ U.heap = h0 ∧ IB Z U.vm Ts) (fun _ _ bl s _ => s.vm.MethodsKnown ∧ s.vm.FramesKnown bl) (fun _ U o U' => ∃ v L, o = .returned v ∧ Q7 Z a1 a2 cs_a1 cs_a2 G1 ua ub Ts h0 n0 v U'.heap L ∧ ReturnedEndW U o U' L ({ frames := 8, cells := 11, slots := 2990, locals := 109 } : Room).cells ({ frames := 8, cells := 11, slots := 2990, locals := 109 } : Room).slots) := by
  refine MetFree.of_bodySF (plainFor_of_name pn_7) hisR ?_
  intro p e s m args below meth c s₁ Bd hml0 hP hK
  obtain ⟨rfl, hZ, hh, I0⟩ := hP
  have hx := Bd.exec
  have hby := Bd.bytes
  have hml : c.maxLocals = 2 := hml0
  have hown : s.vm.findClass "com/example/modelwright/modelwright/FilterException" = some m.cls := findClass_of_methodNamed Bd.named
  have hnm := (name_of_methodNamed Bd.named Bd.method).1
  have X0 : Stand p l e ({ frames := 8, cells := 11, slots := 2990, locals := 109 } : Room) s m #[(.ref a1), (.ref a2)] below meth c s₁ [] 0 0 := Stand.of_body Bd
  have e0 : s₁.heap = h0 := by rw [← hh, Bd.state]; rfl
  have N0 := Fr.nil n0
  have K0 := Keep.refl h0 ([] : List Addr)
  have pre0 : ∀ t, Steps p.tables e below (s₁.setTop (mkF m 0 #[.val (.ref a1), .val (.ref a2)] [])) t → Steps p.tables e below (s₁.setTop (entryFrame m #[(.ref a1), (.ref a2)] 2)) t := fun t k => castTop (ef_7 m a1 a2) k
  have hZ0 := hZ
  have hkp : ∀ (b : Addr) (cl : Cell), Z.heap[b]? = some cl → s.heap[b]? = some cl := fun b cl q => by rw [hh]; exact OLD0.2.2 b cl q
  have hS0 : s.Since s.vm s.heap.size := (State.WarmedH.refl s).since _
  have wS : ∀ a ∈ Bundle.stringAtoms, a.before a0 Z = true := fun d hd => hw d ((by decide +kernel : ∀ d ∈ Bundle.stringAtoms, d ∈ tables_1) d hd)
  obtain ⟨T1, h1, X1, e1, E1, A1, D1, un1, st1⟩ := newO X0 hx hZ hown (hw _ (List.mem_of_getElem? (i := 37) rfl)) (hw _ (List.mem_of_getElem? (i := 38) rfl)) (hw _ (List.mem_of_getElem? (i := 35) rfl)) e0 (g := (mkF m 0 #[.val (.ref a1), .val (.ref a2)] [])) rfl (hb hby d7_0) (by decide) (by decide)
  obtain ⟨b1, g1⟩ : ∃ z, z = h0.size := ⟨_, rfl⟩
  rw [← g1] at A1 D1 un1 st1
  have g_b1 : n0 ≤ b1 := Nat.le_trans (Nat.le_trans Z0 K0.1) (Nat.le_of_eq g1.symm)
  have sz_b1 : h0.size ≤ b1 := Nat.le_trans K0.1 (Nat.le_of_eq g1.symm)
  have K1 := K0.ext E1
  have F_cause_b1 : Fld Z h1 b1 "java/lang/Throwable" "cause" "Ljava/lang/Throwable;" .null := D1 (Or.inl (hw _ (List.mem_of_getElem? (i := 196) rfl))) (ty := (.object "java/lang/Throwable")) (by decide)
  have F_stackTrace_b1 : Fld Z h1 b1 "java/lang/Throwable" "stackTrace" "[Ljava/lang/StackTraceElement;" .null := D1 (Or.inl (hw _ (List.mem_of_getElem? (i := 199) rfl))) (ty := (.array (.object "java/lang/StackTraceElement"))) (by decide)
  have F_suppressedExceptions_b1 : Fld Z h1 b1 "java/lang/Throwable" "suppressedExceptions" "Ljava/util/List;" .null := D1 (Or.inl (hw _ (List.mem_of_getElem? (i := 202) rfl))) (ty := (.object "java/util/List")) (by decide)
  have F_detailMessage_b1 : Fld Z h1 b1 "java/lang/Throwable" "detailMessage" "Ljava/lang/String;" .null := D1 (Or.inl (hw _ (List.mem_of_getElem? (i := 226) rfl))) (ty := (.object "java/lang/String")) (by decide)
  have F_backtrace_b1 : Fld Z h1 b1 "java/lang/Throwable" "backtrace" "Ljava/lang/Object;" .null := D1 (Or.inl (hw _ (List.mem_of_getElem? (i := 227) rfl))) (ty := (.object "java/lang/Object")) (by decide)
  have F_depth_b1 : Fld Z h1 b1 "java/lang/Throwable" "depth" "I" (.int (0 : Int32)) := D1 (Or.inl (hw _ (List.mem_of_getElem? (i := 228) rfl))) (ty := .int) (by decide)
  have F_key_b1 : Fld Z h1 b1 "com/example/modelwright/modelwright/FilterException" "key" "Ljava/lang/String;" .null := D1 (Or.inr (hw _ (List.mem_of_getElem? (i := 232) rfl))) (ty := (.object "java/lang/String")) (by decide)
  obtain ⟨T2, h2, X2, e2, E2, A2, D2, un2, st2⟩ := newO X1 hx hZ hown (hw _ (List.mem_of_getElem? (i := 39) rfl)) (hw _ (List.mem_of_getElem? (i := 40) rfl)) (hw _ (List.mem_of_getElem? (i := 41) rfl)) e1 (g := (mkF m 5 #[.val (.ref a1), .val (.ref a2)] [(.ref a1), (.ref b1), (.ref b1)])) rfl (hb hby d7_5) (by decide) (by decide)
  obtain ⟨b2, g2⟩ : ∃ z, z = h1.size := ⟨_, rfl⟩
  rw [← g2] at A2 D2 un2 st2
  have g_b2 : n0 ≤ b2 := Nat.le_trans (Nat.le_trans Z0 K1.1) (Nat.le_of_eq g2.symm)
  have sz_b2 : h0.size ≤ b2 := Nat.le_trans K1.1 (Nat.le_of_eq g2.symm)
  have ne_b1_b2 : b1 ≠ b2 := Nat.ne_of_lt (Nat.lt_of_lt_of_le A1.lt (Nat.le_of_eq g2.symm))
  have K2 := K1.ext E2
  have F_value_b2 : Fld Z h2 b2 "java/lang/AbstractStringBuilder" "value" "[B" .null := D2 (Or.inl (hw _ (List.mem_of_getElem? (i := 54) rfl))) (ty := (.array .byte)) (by decide)
  have F_coder_b2 : Fld Z h2 b2 "java/lang/AbstractStringBuilder" "coder" "B" (.int (0 : Int32)) := D2 (Or.inl (hw _ (List.mem_of_getElem? (i := 56) rfl))) (ty := .byte) (by decide)
  have F_count_b2 : Fld Z h2 b2 "java/lang/AbstractStringBuilder" "count" "I" (.int (0 : Int32)) := D2 (Or.inl (hw _ (List.mem_of_getElem? (i := 79) rfl))) (ty := .int) (by decide)
  have OL4 : Old Z n0 h2 := OLD0.keep K2 all0
  have c5 := (A1.ext E2)
  have c6 := (F_cause_b1.ext E2)
  have c7 := (F_stackTrace_b1.ext E2)
  have c8 := (F_suppressedExceptions_b1.ext E2)
  have c9 := (F_detailMessage_b1.ext E2)
  have c10 := (F_backtrace_b1.ext E2)
  have c11 := (F_depth_b1.ext E2)
  have c12 := (F_key_b1.ext E2)
  obtain ⟨_, _, ⟨T3, L3, k3, n3⟩, -, X3, ⟨Lc3, hQ3, l3, y3, z3⟩, st3⟩ := X2.specialBack hx (y := (⟨"java/lang/StringBuilder", "<init>", "()V"⟩ : MethodName)) rfl hown (mvT hZ (hw _ (List.mem_of_getElem? (i := 42) rfl))) (mvT hZ (hw _ (List.mem_of_getElem? (i := 43) rfl))) (mvT hZ (hw _ (List.mem_of_getElem? (i := 44) rfl))) (by decide) (backOf (W := 4) (rm8 l Z a0 hw [] b2 G1 h2 n0 (Nat.le_trans Z0 K2.1) OL4 SCS P5 g_b2 A2 F_value_b2 F_coder_b2 F_count_b2) hZ (hw _ (List.mem_of_getElem? (i := 44) rfl)) (hw _ (List.mem_of_getElem? (i := 41) rfl)) (by decide) (by decide)) (g := (mkF m 9 #[.val (.ref a1), .val (.ref a2)] [(.ref b2), (.ref b2), (.ref a1), (.ref b1), (.ref b1)])) rfl (by rw [hml]; rfl) (Steps.refl _) (a := b2) (argsL := []) (rest := [(.ref b2), (.ref a1), (.ref b1), (.ref b1)]) (lenOf pd___V rfl) rfl (by show 2 * 0 + _ ≤ _; exact Nat.le_of_eq rfl) (hb hby d7_9) (fun _ _ => ⟨rfl, e2, (by decide : 2 + 1 ≤ _), (by decide : 11 + 16 ≤ _)⟩)
  dsimp only [Pt.U, Pt.locs, Pt.cells, Pt.slots] at X3 l3 y3 z3 st3 hQ3
  subst l3 y3 z3
  obtain ⟨b3, kb3, rfl, N3q, kq3, gg3, u3, sb3⟩ := hQ3
  have N3 := Fr.app N0 N3q
  have K3 := K2.trans kq3 (allS (Or.inr sz_b2) all0)
  have sz_b3 : h0.size ≤ b3 := Nat.le_trans K2.1 u3
  have g_b3 := gg3
  have ne_b1_b3 : b1 ≠ b3 := Nat.ne_of_lt (Nat.lt_of_lt_of_le c12.lt u3)
  have ne_b2_b3 : b2 ≠ b3 := Nat.ne_of_lt (Nat.lt_of_lt_of_le F_count_b2.lt u3)
  have pre13 : ∀ t, Steps p.tables e below (T3.setTop (mkF m 12 #[.val (.ref a1), .val (.ref a2)] [(.ref b2), (.ref a1), (.ref b1), (.ref b1)])) t → Steps p.tables e below (s₁.setTop (entryFrame m #[(.ref a1), (.ref a2)] 2)) t := by
    intro t kt
    refine pre0 _ ?_
    show Steps p.tables e below (s₁.setTop (mkF m 0 #[.val (.ref a1), .val (.ref a2)] [])) _
    refine st1 _ ?_
    show Steps p.tables e below (T1.setTop (mkF m 3 #[.val (.ref a1), .val (.ref a2)] [(.ref b1)])) _
    refine XS.dup X1.here hx rfl (hb hby d7_3) rfl rfl ?_
    show Steps p.tables e below (T1.setTop (mkF m 4 #[.val (.ref a1), .val (.ref a2)] [(.ref b1), (.ref b1)])) _
    refine XS.aloadN X1.here hx rfl (hb hby d7_4) rfl rfl ?_
    show Steps p.tables e below (T1.setTop (mkF m 5 #[.val (.ref a1), .val (.ref a2)] [(.ref a1), (.ref b1), (.ref b1)])) _
    refine st2 _ ?_
    show Steps p.tables e below (T2.setTop (mkF m 8 #[.val (.ref a1), .val (.ref a2)] [(.ref b2), (.ref a1), (.ref b1), (.ref b1)])) _
    refine XS.dup X2.here hx rfl (hb hby d7_8) rfl rfl ?_
    show Steps p.tables e below (T2.setTop (mkF m 9 #[.val (.ref a1), .val (.ref a2)] [(.ref b2), (.ref b2), (.ref a1), (.ref b1), (.ref b1)])) _
    refine st3.trans ?_
    show Steps p.tables e below (T3.setTop (mkF m 12 #[.val (.ref a1), .val (.ref a2)] [(.ref b2), (.ref a1), (.ref b1), (.ref b1)])) _
    exact kt
  have Xz14 := own_nil X3 (by show Keep s.heap T3.heap []; rw [hh]; exact K3)
  obtain ⟨x14, T14, h14, k14, b14, kb14, X14, e14, E14, hS14, hk14, hZ, hown, xe14, xc14, xv14, xa14, -, -, I14, lt14, st14⟩ := ldcSVL (s := s) (vm0 := s.vm) Xz14 hx hZ hown (hw _ (List.mem_of_getElem? (i := 57) rfl)) wS rfl hS0 (by rw [hh]; exact K3.1) (Fr.nil _) hkp I0 hnt.1 HC18 HCW (vs := own_B own_t18) (z := Int32.ofNat 17) own_ht18 (by decide) (by decide) (g := (mkF m 12 #[.val (.ref a1), .val (.ref a2)] [(.ref b2), (.ref a1), (.ref b1), (.ref b1)])) rfl (hb hby d7_12) (n := 68) own_hn18 (by decide) (by decide) (by decide)
  have xs14 : own_str Z h14 x14 own_t18 := ⟨b14, kb14, xe14, xc14, xv14, xa14⟩
  have K14 := K3.ext E14
  have sb14 := own_sbE sb3 E14
  have OL16 : Old Z n0 h14 := OLD0.keep K14 all0
  have c17 := ((c5.keep kq3).ext E14)
  have c18 := ((c6.keep kq3 (ninS ne_b1_b2 nin0)).ext E14)
  have c19 := ((c7.keep kq3 (ninS ne_b1_b2 nin0)).ext E14)
  have c20 := ((c8.keep kq3 (ninS ne_b1_b2 nin0)).ext E14)
  have c21 := ((c9.keep kq3 (ninS ne_b1_b2 nin0)).ext E14)
  have c22 := ((c10.keep kq3 (ninS ne_b1_b2 nin0)).ext E14)
  have c23 := ((c11.keep kq3 (ninS ne_b1_b2 nin0)).ext E14)
  have c24 := ((c12.keep kq3 (ninS ne_b1_b2 nin0)).ext E14)
  have c25 := ((A2.keep kq3).ext E14)
  obtain ⟨cq15, kq15, q15a, q15b, q15c⟩ := isOf hZ e14 c25
  obtain ⟨_, _, ⟨T15, L15, k15, n15⟩, -, X15, ⟨Lc15, hQ15, l15, y15, z15⟩, st15⟩ := X14.virtualBack hx (y := (⟨"java/lang/StringBuilder", "append", "(Ljava/lang/String;)Ljava/lang/StringBuilder;"⟩ : MethodName)) (z := (⟨"java/lang/StringBuilder", "append", "(Ljava/lang/String;)Ljava/lang/StringBuilder;"⟩ : MethodName)) hown (mvT hZ (hw _ (List.mem_of_getElem? (i := 58) rfl))) (mvT hZ (hw _ (List.mem_of_getElem? (i := 59) rfl))) (notFace_of_selects (args := #[]) (mvT hZ (hw _ (List.mem_of_getElem? (i := 61) rfl)))) (mvT hZ (hw _ (List.mem_of_getElem? (i := 61) rfl))) (mvT hZ (hw _ (List.mem_of_getElem? (i := 60) rfl))) (by decide) (backOf (W := 3) (rmSG l Z a0 hw [] b2 x14 b3 kb3 own_t18 G1 h14 n0 (Nat.le_trans Z0 K14.1) OL16 SCS P5 g_b2 sb14 xs14 own_c18 rfl) hZ (hw _ (List.mem_of_getElem? (i := 62) rfl)) (hw _ (List.mem_of_getElem? (i := 41) rfl)) (by decide) (by decide)) q15a q15c (g := (mkF m 14 #[.val (.ref a1), .val (.ref a2)] [(.ref x14), (.ref b2), (.ref a1), (.ref b1), (.ref b1)])) rfl (by rw [hml]; rfl) (Steps.refl _) (argsL := [(.ref x14)]) (rest := [(.ref a1), (.ref b1), (.ref b1)]) (lenOf pd__Ljava_lang_String__Ljava_lang_StringBuilder_ rfl) rfl (by show 2 * 0 + _ ≤ _; exact Nat.le_of_eq rfl) (hb hby d7_14) (fun _ _ => ⟨rfl, e14, (by decide : 5 + 1 ≤ _), (by decide : 99 + 34 ≤ _)⟩)
  dsimp only [Pt.U, Pt.locs, Pt.cells, Pt.slots] at X15 l15 y15 z15 st15 hQ15
  subst l15 y15 z15
  obtain ⟨b15, kb15, rfl, N15q, kq15, gg15, u15, sb15⟩ := hQ15
  have N15 := Fr.app (Fr.nil n0) N15q
  have K15 := K14.trans kq15 (allS (Or.inr sz_b2) all0)
  have sz_b15 : h0.size ≤ b15 := Nat.le_trans K14.1 u15
  have g_b15 := gg15
  have ne_b1_b15 : b1 ≠ b15 := Nat.ne_of_lt (Nat.lt_of_lt_of_le c24.lt u15)
  have ne_b2_b15 : b2 ≠ b15 := Nat.ne_of_lt (Nat.lt_of_lt_of_le c25.lt u15)
  have OL27 : Old Z n0 T15.heap := OLD0.keep K15 all0
  have c28 := (c17.keep kq15)
  have c29 := (c18.keep kq15 (ninS ne_b1_b2 nin0))
  have c30 := (c19.keep kq15 (ninS ne_b1_b2 nin0))
  have c31 := (c20.keep kq15 (ninS ne_b1_b2 nin0))
  have c32 := (c21.keep kq15 (ninS ne_b1_b2 nin0))
  have c33 := (c22.keep kq15 (ninS ne_b1_b2 nin0))
  have c34 := (c23.keep kq15 (ninS ne_b1_b2 nin0))
  have c35 := (c24.keep kq15 (ninS ne_b1_b2 nin0))
  have c36 := (c25.keep kq15)
  obtain ⟨cq26, kq26, q26a, q26b, q26c⟩ := isOf hZ rfl c36
  obtain ⟨_, _, ⟨T26, L26, k26, n26⟩, -, X26, ⟨Lc26, hQ26, l26, y26, z26⟩, st26⟩ := X15.virtualBack hx (y := (⟨"java/lang/StringBuilder", "append", "(Ljava/lang/String;)Ljava/lang/StringBuilder;"⟩ : MethodName)) (z := (⟨"java/lang/StringBuilder", "append", "(Ljava/lang/String;)Ljava/lang/StringBuilder;"⟩ : MethodName)) hown (mvT hZ (hw _ (List.mem_of_getElem? (i := 58) rfl))) (mvT hZ (hw _ (List.mem_of_getElem? (i := 59) rfl))) (notFace_of_selects (args := #[]) (mvT hZ (hw _ (List.mem_of_getElem? (i := 61) rfl)))) (mvT hZ (hw _ (List.mem_of_getElem? (i := 61) rfl))) (mvT hZ (hw _ (List.mem_of_getElem? (i := 60) rfl))) (by decide) (backOf (W := 3) (rm10 l Z a0 hw [] b2 a1 b15 kb15 own_t18 cs_a1 17 G1 T15.heap n0 (Nat.le_trans Z0 K15.1) OL27 SCS P5 g_b2 g_b15 sb15 (own_strP XS_a1 K15) hc_a1 (by first | omega | (simp only [List.length_append, List.length_cons, List.length_nil]; omega)) (by first | omega | (simp only [List.length_append, List.length_cons, List.length_nil]; omega)) (by first | omega | (simp only [List.length_append, List.length_cons, List.length_nil]; omega))) hZ (hw _ (List.mem_of_getElem? (i := 62) rfl)) (hw _ (List.mem_of_getElem? (i := 41) rfl)) (by decide) (by decide)) q26a q26c (g := (mkF m 18 #[.val (.ref a1), .val (.ref a2)] [(.ref a1), (.ref b2), (.ref a1), (.ref b1), (.ref b1)])) rfl (by rw [hml]; rfl) (Steps.refl _) (argsL := [(.ref a1)]) (rest := [(.ref a1), (.ref b1), (.ref b1)]) (lenOf pd__Ljava_lang_String__Ljava_lang_StringBuilder_ rfl) rfl (by show 2 * 0 + _ ≤ _; exact Nat.le_of_eq rfl) (hb hby d7_18) (fun _ _ => ⟨rfl, rfl, (by decide : 6 + 0 ≤ _), (by decide : 133 + 0 ≤ _)⟩)
  dsimp only [Pt.U, Pt.locs, Pt.cells, Pt.slots] at X26 l26 y26 z26 st26 hQ26
  subst l26 y26 z26
  obtain ⟨rfl, N26q, kq26, sb26⟩ := hQ26
  have N26 := Fr.app N15 N26q
  have K26 := K15.trans kq26 (allS (Or.inr sz_b2) (allS (Or.inr sz_b15) all0))
  have pre37 : ∀ t, Steps p.tables e below (T26.setTop (mkF m 21 #[.val (.ref a1), .val (.ref a2)] [(.ref b2), (.ref a1), (.ref b1), (.ref b1)])) t → Steps p.tables e below (s₁.setTop (entryFrame m #[(.ref a1), (.ref a2)] 2)) t := by
    intro t kt
    refine pre13 _ ?_
    show Steps p.tables e below (T3.setTop (mkF m 12 #[.val (.ref a1), .val (.ref a2)] [(.ref b2), (.ref a1), (.ref b1), (.ref b1)])) _
    refine st14 _ ?_
    show Steps p.tables e below (T14.setTop (mkF m 14 #[.val (.ref a1), .val (.ref a2)] [(.ref x14), (.ref b2), (.ref a1), (.ref b1), (.ref b1)])) _
    refine st15.trans ?_
    show Steps p.tables e below (T15.setTop (mkF m 17 #[.val (.ref a1), .val (.ref a2)] [(.ref b2), (.ref a1), (.ref b1), (.ref b1)])) _
    refine XS.aloadN X15.here hx rfl (hb hby d7_17) rfl rfl ?_
    show Steps p.tables e below (T15.setTop (mkF m 18 #[.val (.ref a1), .val (.ref a2)] [(.ref a1), (.ref b2), (.ref a1), (.ref b1), (.ref b1)])) _
    refine st26.trans ?_
    show Steps p.tables e below (T26.setTop (mkF m 21 #[.val (.ref a1), .val (.ref a2)] [(.ref b2), (.ref a1), (.ref b1), (.ref b1)])) _
    exact kt
  have Xz38 := own_nil X26 (by show Keep s.heap T26.heap []; rw [hh]; exact K26)
  obtain ⟨x38, T38, h38, k38, b38, kb38, X38, e38, E38, hS38, hk38, hZ, hown, xe38, xc38, xv38, xa38, -, -, I38, lt38, st38⟩ := ldcSVL (s := s) (vm0 := T14.vm) Xz38 hx hZ hown (hw _ (List.mem_of_getElem? (i := 128) rfl)) wS rfl hS14 (Nat.le_trans (Nat.le_trans hk14 kq15.1) kq26.1) (Fr.nil _) hkp I14 (List.not_mem_cons_of_ne_of_not_mem (by decide) hnt.2) HC24 HCW (vs := own_B own_t24) (z := Int32.ofNat 2) own_ht24 (by decide) (by decide) (g := (mkF m 21 #[.val (.ref a1), .val (.ref a2)] [(.ref b2), (.ref a1), (.ref b1), (.ref b1)])) rfl (hb hby d7_21) (n := 8) own_hn24 (by decide) (by decide) (by decide)
  have xs38 : own_str Z h38 x38 own_t24 := ⟨b38, kb38, xe38, xc38, xv38, xa38⟩
  have K38 := K26.ext E38
  have sb38 := own_sbE sb26 E38
  have OL40 : Old Z n0 h38 := OLD0.keep K38 all0
  have c41 := ((c28.keep kq26).ext E38)
  have c42 := ((c29.keep kq26 (ninS ne_b1_b2 (ninS ne_b1_b15 nin0))).ext E38)
  have c43 := ((c30.keep kq26 (ninS ne_b1_b2 (ninS ne_b1_b15 nin0))).ext E38)
  have c44 := ((c31.keep kq26 (ninS ne_b1_b2 (ninS ne_b1_b15 nin0))).ext E38)
  have c45 := ((c32.keep kq26 (ninS ne_b1_b2 (ninS ne_b1_b15 nin0))).ext E38)
  have c46 := ((c33.keep kq26 (ninS ne_b1_b2 (ninS ne_b1_b15 nin0))).ext E38)
  have c47 := ((c34.keep kq26 (ninS ne_b1_b2 (ninS ne_b1_b15 nin0))).ext E38)
  have c48 := ((c35.keep kq26 (ninS ne_b1_b2 (ninS ne_b1_b15 nin0))).ext E38)
  have c49 := ((c36.keep kq26).ext E38)
  obtain ⟨cq39, kq39, q39a, q39b, q39c⟩ := isOf hZ e38 c49
  obtain ⟨_, _, ⟨T39, L39, k39, n39⟩, -, X39, ⟨Lc39, hQ39, l39, y39, z39⟩, st39⟩ := X38.virtualBack hx (y := (⟨"java/lang/StringBuilder", "append", "(Ljava/lang/String;)Ljava/lang/StringBuilder;"⟩ : MethodName)) (z := (⟨"java/lang/StringBuilder", "append", "(Ljava/lang/String;)Ljava/lang/StringBuilder;"⟩ : MethodName)) hown (mvT hZ (hw _ (List.mem_of_getElem? (i := 58) rfl))) (mvT hZ (hw _ (List.mem_of_getElem? (i := 59) rfl))) (notFace_of_selects (args := #[]) (mvT hZ (hw _ (List.mem_of_getElem? (i := 61) rfl)))) (mvT hZ (hw _ (List.mem_of_getElem? (i := 61) rfl))) (mvT hZ (hw _ (List.mem_of_getElem? (i := 60) rfl))) (by decide) (backOf (W := 3) (rm10 l Z a0 hw [] b2 x38 b15 kb15 (own_t18 ++ cs_a1) own_t24 (17 - cs_a1.length) G1 h38 n0 (Nat.le_trans Z0 K38.1) OL40 SCS P5 g_b2 g_b15 sb38 xs38 own_c24 (by first | omega | (simp only [List.length_append, List.length_cons, List.length_nil]; omega)) (by first | omega | (simp only [List.length_append, List.length_cons, List.length_nil]; omega)) (by first | omega | (simp only [List.length_append, List.length_cons, List.length_nil]; omega))) hZ (hw _ (List.mem_of_getElem? (i := 62) rfl)) (hw _ (List.mem_of_getElem? (i := 41) rfl)) (by decide) (by decide)) q39a q39c (g := (mkF m 23 #[.val (.ref a1), .val (.ref a2)] [(.ref x38), (.ref b2), (.ref a1), (.ref b1), (.ref b1)])) rfl (by rw [hml]; rfl) (Steps.refl _) (argsL := [(.ref x38)]) (rest := [(.ref a1), (.ref b1), (.ref b1)]) (lenOf pd__Ljava_lang_String__Ljava_lang_StringBuilder_ rfl) rfl (by show 2 * 0 + _ ≤ _; exact Nat.le_of_eq rfl) (hb hby d7_23) (fun _ _ => ⟨rfl, e38, (by decide : 8 + 0 ≤ _), (by decide : 145 + 0 ≤ _)⟩)
  dsimp only [Pt.U, Pt.locs, Pt.cells, Pt.slots] at X39 l39 y39 z39 st39 hQ39
  subst l39 y39 z39
  obtain ⟨rfl, N39q, kq39, sb39⟩ := hQ39
  have N39 := Fr.app (Fr.nil n0) N39q
  have K39 := K38.trans kq39 (allS (Or.inr sz_b2) (allS (Or.inr sz_b15) all0))
  have OL51 : Old Z n0 T39.heap := OLD0.keep K39 all0
  have c52 := (c41.keep kq39)
  have c53 := (c42.keep kq39 (ninS ne_b1_b2 (ninS ne_b1_b15 nin0)))
  have c54 := (c43.keep kq39 (ninS ne_b1_b2 (ninS ne_b1_b15 nin0)))
  have c55 := (c44.keep kq39 (ninS ne_b1_b2 (ninS ne_b1_b15 nin0)))
  have c56 := (c45.keep kq39 (ninS ne_b1_b2 (ninS ne_b1_b15 nin0)))
  have c57 := (c46.keep kq39 (ninS ne_b1_b2 (ninS ne_b1_b15 nin0)))
  have c58 := (c47.keep kq39 (ninS ne_b1_b2 (ninS ne_b1_b15 nin0)))
  have c59 := (c48.keep kq39 (ninS ne_b1_b2 (ninS ne_b1_b15 nin0)))
  have c60 := (c49.keep kq39)
  obtain ⟨cq50, kq50, q50a, q50b, q50c⟩ := isOf hZ rfl c60
  obtain ⟨_, _, ⟨T50, L50, k50, n50⟩, -, X50, ⟨Lc50, hQ50, l50, y50, z50⟩, st50⟩ := X39.virtualBack hx (y := (⟨"java/lang/StringBuilder", "append", "(Ljava/lang/String;)Ljava/lang/StringBuilder;"⟩ : MethodName)) (z := (⟨"java/lang/StringBuilder", "append", "(Ljava/lang/String;)Ljava/lang/StringBuilder;"⟩ : MethodName)) hown (mvT hZ (hw _ (List.mem_of_getElem? (i := 58) rfl))) (mvT hZ (hw _ (List.mem_of_getElem? (i := 59) rfl))) (notFace_of_selects (args := #[]) (mvT hZ (hw _ (List.mem_of_getElem? (i := 61) rfl)))) (mvT hZ (hw _ (List.mem_of_getElem? (i := 61) rfl))) (mvT hZ (hw _ (List.mem_of_getElem? (i := 60) rfl))) (by decide) (backOf (W := 3) (rm10 l Z a0 hw [] b2 a2 b15 kb15 ((own_t18 ++ cs_a1) ++ own_t24) cs_a2 ((17 - cs_a1.length) - own_t24.length) G1 T39.heap n0 (Nat.le_trans Z0 K39.1) OL51 SCS P5 g_b2 g_b15 sb39 (own_strP XS_a2 K39) hc_a2 (by first | omega | (simp only [List.length_append, List.length_cons, List.length_nil]; omega)) (by first | omega | (simp only [List.length_append, List.length_cons, List.length_nil]; omega)) (by first | omega | (simp only [List.length_append, List.length_cons, List.length_nil]; omega))) hZ (hw _ (List.mem_of_getElem? (i := 62) rfl)) (hw _ (List.mem_of_getElem? (i := 41) rfl)) (by decide) (by decide)) q50a q50c (g := (mkF m 27 #[.val (.ref a1), .val (.ref a2)] [(.ref a2), (.ref b2), (.ref a1), (.ref b1), (.ref b1)])) rfl (by rw [hml]; rfl) (Steps.refl _) (argsL := [(.ref a2)]) (rest := [(.ref a1), (.ref b1), (.ref b1)]) (lenOf pd__Ljava_lang_String__Ljava_lang_StringBuilder_ rfl) rfl (by show 2 * 0 + _ ≤ _; exact Nat.le_of_eq rfl) (hb hby d7_27) (fun _ _ => ⟨rfl, rfl, (by decide : 8 + 0 ≤ _), (by decide : 145 + 0 ≤ _)⟩)
  dsimp only [Pt.U, Pt.locs, Pt.cells, Pt.slots] at X50 l50 y50 z50 st50 hQ50
  subst l50 y50 z50
  obtain ⟨rfl, N50q, kq50, sb50⟩ := hQ50
  have N50 := Fr.app N39 N50q
  have K50 := K39.trans kq50 (allS (Or.inr sz_b2) (allS (Or.inr sz_b15) all0))
  have OL62 : Old Z n0 T50.heap := OLD0.keep K50 all0
  have c63 := (c52.keep kq50)
  have c64 := (c53.keep kq50 (ninS ne_b1_b2 (ninS ne_b1_b15 nin0)))
  have c65 := (c54.keep kq50 (ninS ne_b1_b2 (ninS ne_b1_b15 nin0)))
  have c66 := (c55.keep kq50 (ninS ne_b1_b2 (ninS ne_b1_b15 nin0)))
  have c67 := (c56.keep kq50 (ninS ne_b1_b2 (ninS ne_b1_b15 nin0)))
  have c68 := (c57.keep kq50 (ninS ne_b1_b2 (ninS ne_b1_b15 nin0)))
  have c69 := (c58.keep kq50 (ninS ne_b1_b2 (ninS ne_b1_b15 nin0)))
  have c70 := (c59.keep kq50 (ninS ne_b1_b2 (ninS ne_b1_b15 nin0)))
  have c71 := (c60.keep kq50)
  obtain ⟨cq61, kq61, q61a, q61b, q61c⟩ := isOf hZ rfl c71
  obtain ⟨_, _, ⟨T61, L61, k61, n61⟩, -, X61, ⟨Lc61, hQ61, l61, y61, z61⟩, st61⟩ := X50.virtualBack hx (y := (⟨"java/lang/StringBuilder", "toString", "()Ljava/lang/String;"⟩ : MethodName)) (z := (⟨"java/lang/StringBuilder", "toString", "()Ljava/lang/String;"⟩ : MethodName)) hown (mvT hZ (hw _ (List.mem_of_getElem? (i := 129) rfl))) (mvT hZ (hw _ (List.mem_of_getElem? (i := 130) rfl))) (notFace_of_selects (args := #[]) (mvT hZ (hw _ (List.mem_of_getElem? (i := 132) rfl)))) (mvT hZ (hw _ (List.mem_of_getElem? (i := 132) rfl))) (mvT hZ (hw _ (List.mem_of_getElem? (i := 131) rfl))) (by decide) (backOf (W := 3) (rm23 l Z a0 hw [] b2 b15 kb15 (((own_t18 ++ cs_a1) ++ own_t24) ++ cs_a2) (((17 - cs_a1.length) - own_t24.length) - cs_a2.length) G1 T50.heap n0 (Nat.le_trans Z0 K50.1) OL62 SCS P5 sb50 (by first | omega | (simp only [List.length_append, List.length_cons, List.length_nil]; omega)) (by first | omega | (simp only [List.length_append, List.length_cons, List.length_nil]; omega)) (by first | omega | (simp only [List.length_append, List.length_cons, List.length_nil]; omega))) hZ (hw _ (List.mem_of_getElem? (i := 133) rfl)) (hw _ (List.mem_of_getElem? (i := 41) rfl)) (by decide) (by decide)) q61a q61c (g := (mkF m 30 #[.val (.ref a1), .val (.ref a2)] [(.ref b2), (.ref a1), (.ref b1), (.ref b1)])) rfl (by rw [hml]; rfl) (Steps.refl _) (argsL := []) (rest := [(.ref a1), (.ref b1), (.ref b1)]) (lenOf pd___Ljava_lang_String_ rfl) rfl (by show 2 * 0 + _ ≤ _; exact Nat.le_of_eq rfl) (hb hby d7_30) (fun _ _ => ⟨rfl, rfl, (by decide : 8 + 2 ≤ _), (by decide : 145 + 68 ≤ _)⟩)
  dsimp only [Pt.U, Pt.locs, Pt.cells, Pt.slots] at X61 l61 y61 z61 st61 hQ61
  subst l61 y61 z61
  obtain ⟨b61, rfl, N61q, kq61, gg61, u61, ys61⟩ := hQ61
  have N61 := Fr.app N50 N61q
  have K61 := K50.trans kq61 all0
  have sz_b61 : h0.size ≤ b61 := Nat.le_trans K50.1 u61
  have g_b61 := gg61
  have ne_b1_b61 : b1 ≠ b61 := Nat.ne_of_lt (Nat.lt_of_lt_of_le c70.lt u61)
  have ne_b2_b61 : b2 ≠ b61 := Nat.ne_of_lt (Nat.lt_of_lt_of_le c71.lt u61)
  have OL73 : Old Z n0 T61.heap := OLD0.keep K61 all0
  have c74 := (c63.keep kq61)
  have hK2 : T38.vm.MethodsKnown ∧ T38.vm.FramesKnown below := ⟨Vm.MethodsKnown.alikeC (hZ0.alike.symm.trans hZ.alike) hK.1, Vm.FramesKnown.alikeC (hZ0.alike.symm.trans hZ.alike) hK.2⟩
  have c75 := (Unt.keep kq61 nin0 (Unt.keep kq50 (ninS ne_b1_b2 (ninS ne_b1_b15 nin0)) (Unt.keep kq39 (ninS ne_b1_b2 (ninS ne_b1_b15 nin0)) (Unt.ext E38 (Unt.keep kq26 (ninS ne_b1_b2 (ninS ne_b1_b15 nin0)) (Unt.keep kq15 (ninS ne_b1_b2 nin0) (Unt.ext E14 (Unt.keep kq3 (ninS ne_b1_b2 nin0) (Unt.ext E2 un1)))))))))
  have c76 := (c68.keep kq61 nin0)
  have c77 := (c64.keep kq61 nin0)
  have c78 := (c65.keep kq61 nin0)
  have c79 := (c66.keep kq61 nin0)
  have c80 := (c67.keep kq61 nin0)
  have c81 := (c70.keep kq61 nin0)
  obtain ⟨_, _, ⟨T72, L72, k72, n72⟩, -, X72, ⟨Lc72, hQ72, l72, y72, z72⟩, st72⟩ := X61.specialBack hx (y := (⟨"com/example/modelwright/modelwright/FilterException", "<init>", "(Ljava/lang/String;Ljava/lang/String;)V"⟩ : MethodName)) rfl hown (mvT hZ (hw _ (List.mem_of_getElem? (i := 168) rfl))) (mvT hZ (hw _ (List.mem_of_getElem? (i := 169) rfl))) (mvT hZ (hw _ (List.mem_of_getElem? (i := 170) rfl))) (by decide) (backOfKL (W := 1) (rm33 l Z a0 hw [] b1 a1 b61 ua ub T61.heap n0 (Nat.le_trans Z0 K61.1) hl OL73 SU SV g_b1 c74 c75 c76 c77 c78 c79 c80 c81) hZ (hw _ (List.mem_of_getElem? (i := 170) rfl)) (hw _ (List.mem_of_getElem? (i := 35) rfl)) (by decide) (by decide) hK2.1 hK2.2) (g := (mkF m 33 #[.val (.ref a1), .val (.ref a2)] [(.ref b61), (.ref a1), (.ref b1), (.ref b1)])) rfl (by rw [hml]; rfl) (Steps.refl _) (a := b1) (argsL := [(.ref a1), (.ref b61)]) (rest := [(.ref b1)]) (lenOf pd__Ljava_lang_String_Ljava_lang_String__V rfl) rfl (by show 2 * 0 + _ ≤ _; exact Nat.le_of_eq rfl) (hb hby d7_33) (fun _ _ => ⟨rfl, rfl, (by decide : 10 + 1 ≤ _), (by decide : 213 + 2752 ≤ _)⟩)
  dsimp only [Pt.U, Pt.locs, Pt.cells, Pt.slots] at X72 l72 y72 z72 st72 hQ72
  subst l72 y72 z72
  obtain ⟨rfl, N72q, kq72, ex72, fd72, fk72⟩ := hQ72
  have N72 := Fr.app N61 N72q
  have K72 := K61.trans kq72 (allS (Or.inr sz_b1) all0)
  have yz72 := own_strN hw ys61 kq72 c74
  obtain ⟨Lh, Xh, Nh⟩ := own_hide X72 N72 (C := 11) (S := 2990) (Nat.le_of_ble_eq_true rfl) (Nat.le_of_ble_eq_true rfl)
  obtain ⟨fs, hr, hrun, hended, hWz⟩ := Xh.leaveW hS38 (Nat.le_trans (Nat.le_trans (Nat.le_trans (Nat.le_trans hk38 kq39.1) kq50.1) kq61.1) kq72.1) (v := some (.ref b1)) (fun h => by rw [Bd.returns] at h; cases h)
  refine ⟨_, _, pre37 _ ?_, hrun, hended, _, _, rfl, ?_, hWz⟩
  ·
    show Steps p.tables e below (T26.setTop (mkF m 21 #[.val (.ref a1), .val (.ref a2)] [(.ref b2), (.ref a1), (.ref b1), (.ref b1)])) _
    refine st38 _ ?_
    show Steps p.tables e below (T38.setTop (mkF m 23 #[.val (.ref a1), .val (.ref a2)] [(.ref x38), (.ref b2), (.ref a1), (.ref b1), (.ref b1)])) _
    refine st39.trans ?_
    show Steps p.tables e below (T39.setTop (mkF m 26 #[.val (.ref a1), .val (.ref a2)] [(.ref b2), (.ref a1), (.ref b1), (.ref b1)])) _
    refine XS.aloadN X39.here hx rfl (hb hby d7_26) rfl rfl ?_
    show Steps p.tables e below (T39.setTop (mkF m 27 #[.val (.ref a1), .val (.ref a2)] [(.ref a2), (.ref b2), (.ref a1), (.ref b1), (.ref b1)])) _
    refine st50.trans ?_
    show Steps p.tables e below (T50.setTop (mkF m 30 #[.val (.ref a1), .val (.ref a2)] [(.ref b2), (.ref a1), (.ref b1), (.ref b1)])) _
    refine st61.trans ?_
    show Steps p.tables e below (T61.setTop (mkF m 33 #[.val (.ref a1), .val (.ref a2)] [(.ref b61), (.ref a1), (.ref b1), (.ref b1)])) _
    refine st72.trans ?_
    show Steps p.tables e below (T72.setTop (mkF m 36 #[.val (.ref a1), .val (.ref a2)] [(.ref b1)])) _
    jvm_step Xh.here [Xh.here.top, hx, (hb hby d7_36), Xh.method', Bd.returns, Value.isRef, FieldType.isReference]
    first | (intro acts; rw [hr _ acts rfl rfl rfl]) | rw [hr _ _ rfl rfl rfl]
    exact Steps.refl _
  ·
    show Q7 Z a1 a2 cs_a1 cs_a2 G1 ua ub Ts h0 n0 _ T72.heap _
    exact ⟨_, rfl, Nh, K72, g_b1, sz_b1, ex72, _, fd72, fk72, yz72⟩
theorem d40_0 : decode jdk_78_method_6_code 0 = .ok (.aload_n 0, 1) := by decide +kernel
theorem d40_1 : decode jdk_78_method_6_code 1 = .ok (.getfield 31, 3) := by decide +kernel
theorem d40_4 : decode jdk_78_method_6_code 4 = .ok (.areturn, 1) := by decide +kernel
theorem pn_40 : plainName "java/lang/Throwable" = true := by first | (simp [plainName, overriddenIn]; done) | decide +kernel
theorem ef_40 (m : MethodId) (a1 : Addr) : entryFrame m #[(.ref a1)] 1 = (mkF m 0 #[.val (.ref a1)] []) := by first | (simp [entryFrame, mkF, argsToLocals, Value.category]; done) | rfl
def Q40 (Z : State) (a1 : Addr) (y : Addr) (h0 : Heap) (n0 : Nat) (v : Option Value) (h : Heap) (L : List Loc) : Prop := v = some (.ref y) ∧ Fr n0 L ∧ h = h0
set_option maxRecDepth 65536 in
set_option maxHeartbeats 40000000 in
theorem rm40 (l : Launch) (Z : State) (a0 : Array Value) (hw : ∀ d ∈ tables_1, d.before a0 Z = true) (ws : List Jvm.Cond) (a1 : Addr) (y : Addr) (h0 : Heap) (n0 : Nat) (Z0 : n0 ≤ h0.size) (E_a1 : Exa Z h0 a1 "com/example/modelwright/modelwright/FilterException") (F_ : Fld Z h0 a1 "java/lang/Throwable" "detailMessage" "Ljava/lang/String;" (.ref y)) :
    MetFree l (⟨"java/lang/Throwable", "getMessage", "()Ljava/lang/String;"⟩ : MethodName) (head1 (Jvm.Cond.code (⟨"java/lang/Throwable", "getMessage", "()Ljava/lang/String;"⟩ : MethodName) jdk_78_method_6_code 1 (some (.object "java/lang/String")) :: ws) ({ frames := 0, cells := 0, slots := 0, locals := 0 } : Room)) (fun a U => a = #[(.ref a1)] ∧ Z.Warmed39 U.vm ∧ U.heap = h0) (fun _ _ _ _ _ => True) (fun _ U o U' => ∃ v L, o = .returned v ∧ Q40 Z a1 y h0 n0 v U'.heap L ∧ FrameEnd U o U' L ({ frames := 0, cells := 0, slots := 0, locals := 0 } : Room).cells ({ frames := 0, cells := 0, slots := 0, locals := 0 } : Room).slots) := by
  refine MetFree.of_bodySF (plainFor_of_name pn_40) hisR ?_
  intro p e s m args below meth c s₁ Bd hml0 hP hK
  obtain ⟨rfl, hZ, hh⟩ := hP
  have hx := Bd.exec
  have hby := Bd.bytes
  have hml : c.maxLocals = 1 := hml0
  have hown : s.vm.findClass "java/lang/Throwable" = some m.cls := findClass_of_methodNamed Bd.named
  have hnm := (name_of_methodNamed Bd.named Bd.method).1
  have X0 : Stand p l e ({ frames := 0, cells := 0, slots := 0, locals := 0 } : Room) s m #[(.ref a1)] below meth c s₁ [] 0 0 := Stand.of_body Bd
  have e0 : s₁.heap = h0 := by rw [← hh, Bd.state]; rfl
  have N0 := Fr.nil n0
  have K0 := Keep.refl h0 ([] : List Addr)
  have pre0 : ∀ t, Steps p.tables e below (s₁.setTop (mkF m 0 #[.val (.ref a1)] [])) t → Steps p.tables e below (s₁.setTop (entryFrame m #[(.ref a1)] 1)) t := fun t k => castTop (ef_40 m a1) k
  obtain ⟨T1, X1, e1, st1⟩ := getF X0 hx hZ hown (host := "") (Or.inl (hw _ (List.mem_of_getElem? (i := 230) rfl))) Via.refl e0 F_ (g := (mkF m 1 #[.val (.ref a1)] [(.ref a1)])) rfl rfl (hb hby d40_1)
  obtain ⟨fs, hr, hrun, hended, hW, hsame⟩ := X1.leave (v := some (.ref y)) (fun h => by rw [Bd.returns] at h; cases h)
  refine ⟨_, _, pre0 _ ?_, hrun, hended, _, _, rfl, ?_, ⟨_, rfl⟩, hW, hsame.mono (by decide) (by decide)⟩
  ·
    show Steps p.tables e below (s₁.setTop (mkF m 0 #[.val (.ref a1)] [])) _
    refine XS.aloadN X0.here hx rfl (hb hby d40_0) rfl rfl ?_
    show Steps p.tables e below (s₁.setTop (mkF m 1 #[.val (.ref a1)] [(.ref a1)])) _
    refine st1 _ ?_
    show Steps p.tables e below (T1.setTop (mkF m 4 #[.val (.ref a1)] [(.ref y)])) _
    jvm_step X1.here [X1.here.top, hx, (hb hby d40_4), X1.method', Bd.returns, Value.isRef, FieldType.isReference]
    first | (intro acts; rw [hr _ acts rfl rfl rfl]) | rw [hr _ _ rfl rfl rfl]
    exact Steps.refl _
  ·
    show Q40 Z a1 y h0 n0 _ T1.heap _
    rw [e1]
    exact ⟨rfl, N0, rfl⟩
theorem d43_0 : decode prog_3_method_4_code 0 = .ok (.aload_n 0, 1) := by decide +kernel
theorem d43_1 : decode prog_3_method_4_code 1 = .ok (.getfield 7, 3) := by decide +kernel
theorem d43_4 : decode prog_3_method_4_code 4 = .ok (.areturn, 1) := by decide +kernel
theorem pn_43 : plainName "com/example/modelwright/modelwright/FilterException" = true := by first | (simp [plainName, overriddenIn]; done) | decide +kernel
theorem ef_43 (m : MethodId) (a1 : Addr) : entryFrame m #[(.ref a1)] 1 = (mkF m 0 #[.val (.ref a1)] []) := by first | (simp [entryFrame, mkF, argsToLocals, Value.category]; done) | rfl
def Q43 (Z : State) (a1 : Addr) (y : Addr) (h0 : Heap) (n0 : Nat) (v : Option Value) (h : Heap) (L : List Loc) : Prop := v = some (.ref y) ∧ Fr n0 L ∧ h = h0
set_option maxRecDepth 65536 in
set_option maxHeartbeats 40000000 in
theorem rm43 (l : Launch) (Z : State) (a0 : Array Value) (hw : ∀ d ∈ tables_1, d.before a0 Z = true) (ws : List Jvm.Cond) (a1 : Addr) (y : Addr) (h0 : Heap) (n0 : Nat) (Z0 : n0 ≤ h0.size) (E_a1 : Exa Z h0 a1 "com/example/modelwright/modelwright/FilterException") (F_ : Fld Z h0 a1 "com/example/modelwright/modelwright/FilterException" "key" "Ljava/lang/String;" (.ref y)) :
    MetFree l (⟨"com/example/modelwright/modelwright/FilterException", "key", "()Ljava/lang/String;"⟩ : MethodName) (head1 (Jvm.Cond.code (⟨"com/example/modelwright/modelwright/FilterException", "key", "()Ljava/lang/String;"⟩ : MethodName) prog_3_method_4_code 1 (some (.object "java/lang/String")) :: ws) ({ frames := 0, cells := 0, slots := 0, locals := 0 } : Room)) (fun a U => a = #[(.ref a1)] ∧ Z.Warmed39 U.vm ∧ U.heap = h0) (fun _ _ _ _ _ => True) (fun _ U o U' => ∃ v L, o = .returned v ∧ Q43 Z a1 y h0 n0 v U'.heap L ∧ FrameEnd U o U' L ({ frames := 0, cells := 0, slots := 0, locals := 0 } : Room).cells ({ frames := 0, cells := 0, slots := 0, locals := 0 } : Room).slots) := by
  refine MetFree.of_bodySF (plainFor_of_name pn_43) hisR ?_
  intro p e s m args below meth c s₁ Bd hml0 hP hK
  obtain ⟨rfl, hZ, hh⟩ := hP
  have hx := Bd.exec
  have hby := Bd.bytes
  have hml : c.maxLocals = 1 := hml0
  have hown : s.vm.findClass "com/example/modelwright/modelwright/FilterException" = some m.cls := findClass_of_methodNamed Bd.named
  have hnm := (name_of_methodNamed Bd.named Bd.method).1
  have X0 : Stand p l e ({ frames := 0, cells := 0, slots := 0, locals := 0 } : Room) s m #[(.ref a1)] below meth c s₁ [] 0 0 := Stand.of_body Bd
  have e0 : s₁.heap = h0 := by rw [← hh, Bd.state]; rfl
  have N0 := Fr.nil n0
  have K0 := Keep.refl h0 ([] : List Addr)
  have pre0 : ∀ t, Steps p.tables e below (s₁.setTop (mkF m 0 #[.val (.ref a1)] [])) t → Steps p.tables e below (s₁.setTop (entryFrame m #[(.ref a1)] 1)) t := fun t k => castTop (ef_43 m a1) k
  obtain ⟨T1, X1, e1, st1⟩ := getF X0 hx hZ hown (host := "") (Or.inl (hw _ (List.mem_of_getElem? (i := 231) rfl))) Via.refl e0 F_ (g := (mkF m 1 #[.val (.ref a1)] [(.ref a1)])) rfl rfl (hb hby d43_1)
  obtain ⟨fs, hr, hrun, hended, hW, hsame⟩ := X1.leave (v := some (.ref y)) (fun h => by rw [Bd.returns] at h; cases h)
  refine ⟨_, _, pre0 _ ?_, hrun, hended, _, _, rfl, ?_, ⟨_, rfl⟩, hW, hsame.mono (by decide) (by decide)⟩
  ·
    show Steps p.tables e below (s₁.setTop (mkF m 0 #[.val (.ref a1)] [])) _
    refine XS.aloadN X0.here hx rfl (hb hby d43_0) rfl rfl ?_
    show Steps p.tables e below (s₁.setTop (mkF m 1 #[.val (.ref a1)] [(.ref a1)])) _
    refine st1 _ ?_
    show Steps p.tables e below (T1.setTop (mkF m 4 #[.val (.ref a1)] [(.ref y)])) _
    jvm_step X1.here [X1.here.top, hx, (hb hby d43_4), X1.method', Bd.returns, Value.isRef, FieldType.isReference]
    first | (intro acts; rw [hr _ acts rfl rfl rfl]) | rw [hr _ _ rfl rfl rfl]
    exact Steps.refl _
  ·
    show Q43 Z a1 y h0 n0 _ T1.heap _
    rw [e1]
    exact ⟨rfl, N0, rfl⟩
set_option maxRecDepth 65536 in
set_option maxHeartbeats 40000000 in
theorem own_exp0 {p : Program} {l : Launch} {e : Env} {s : State} {m : MethodId} {args : Array Value} {below : List Frame} {meth : Method} {c : Code} {T0 : State} {locs : List Loc} {Z : State} {a0 : Array Value} {h0 : Heap} {n0 : Nat} {p0 p1 kl ka kc qa qc : Int32} {kx : Addr}
    (X0 : Stand p l e room_1 s m args below meth c T0 locs 3 8) (hx : p.tables.exec = Jvm.exec) (hZ : Z.Warmed39 s.vm) (hw : ∀ d ∈ tables_1, d.before a0 Z = true) (hby : c.code = code) (hml : c.maxLocals = 12) (hown : s.vm.findClass "com/example/modelwright/modelwright/FilterExceptionOfFilterKeyPinLaw" = some m.cls) (e0 : T0.heap = h0) (N0 : Fr n0 locs) (Z0 : n0 ≤ h0.size) (hka : own_c255 ka) (hkc : own_c255 kc) (hqa : own_c255 qa) (hqc : own_c255 qc) :
    ∃ (T' : State) (b : Addr) (kb : ClassId) (locs' : List Loc), Stand p l e room_1 s m args below meth c T' locs' 4 31 ∧ Fr n0 locs' ∧ Keep h0 T'.heap [] ∧ Arv Z T'.heap b kb .char (21 : Int32) (([(67 : Int32), (97 : Int32), (110 : Int32), (110 : Int32), (111 : Int32), (116 : Int32), (32 : Int32), (102 : Int32), (105 : Int32), (108 : Int32), (116 : Int32), (101 : Int32), (114 : Int32), (32 : Int32), (98 : Int32), (121 : Int32), (32 : Int32), (58 : Int32), (32 : Int32), qa, qc] : List Int32).map Value.int) (.int (0 : Int32)) ∧ ∀ t, Steps p.tables e below (T'.setTop (mkF m 496 #[.val (.int p0), .val (.int p1), .val (.int kl), .val (.int ka), .val (.int kc), .val (.int qa), .val (.int qc), .val (.ref kx), .val (.ref b), .unset, .unset, .unset] [])) t → Steps p.tables e below (T0.setTop (mkF m 54 #[.val (.int p0), .val (.int p1), .val (.int kl), .val (.int ka), .val (.int kc), .val (.int qa), .val (.int qc), .val (.ref kx), .unset, .unset, .unset, .unset] [])) t := by
  have pre0 : ∀ t, Steps p.tables e below (T0.setTop (mkF m 54 #[.val (.int p0), .val (.int p1), .val (.int kl), .val (.int ka), .val (.int kc), .val (.int qa), .val (.int qc), .val (.ref kx), .unset, .unset, .unset, .unset] [])) t → Steps p.tables e below (T0.setTop (mkF m 54 #[.val (.int p0), .val (.int p1), .val (.int kl), .val (.int ka), .val (.int kc), .val (.int qa), .val (.int qc), .val (.ref kx), .unset, .unset, .unset, .unset] [])) t := fun t k => k
  have K0 := Keep.refl h0 ([] : List Addr)
  obtain ⟨T1, h1, k1, X1, e1, E1, A1, st1⟩ := newP X0 hx hZ (hw _ (List.mem_of_getElem? (i := 8) rfl)) e0 (g := (mkF m 56 #[.val (.int p0), .val (.int p1), .val (.int kl), .val (.int ka), .val (.int kc), .val (.int qa), .val (.int qc), .val (.ref kx), .unset, .unset, .unset, .unset] [(.int (21 : Int32))])) rfl (hb hby at_56) rfl (by decide) (cap := 21) (by decide) (by decide) (by decide) (by decide)
  obtain ⟨b1, g1⟩ : ∃ z, z = h0.size := ⟨_, rfl⟩
  rw [← g1] at A1 st1
  have g_b1 : n0 ≤ b1 := Nat.le_trans (Nat.le_trans Z0 K0.1) (Nat.le_of_eq g1.symm)
  have sz_b1 : h0.size ≤ b1 := Nat.le_trans K0.1 (Nat.le_of_eq g1.symm)
  have K1 := K0.ext E1
  have V_b1 : Arv Z h1 b1 k1 .char (21 : Int32) [(.int (0 : Int32)), (.int (0 : Int32)), (.int (0 : Int32)), (.int (0 : Int32)), (.int (0 : Int32)), (.int (0 : Int32)), (.int (0 : Int32)), (.int (0 : Int32)), (.int (0 : Int32)), (.int (0 : Int32)), (.int (0 : Int32)), (.int (0 : Int32)), (.int (0 : Int32)), (.int (0 : Int32)), (.int (0 : Int32)), (.int (0 : Int32)), (.int (0 : Int32)), (.int (0 : Int32)), (.int (0 : Int32)), (.int (0 : Int32)), (.int (0 : Int32))] (.int (0 : Int32)) := (Arv.new A1 (by decide)).pad (pad_rep [] (.int (0 : Int32)) 21)
  obtain ⟨clo2, Aro2, qo2, So2, No2, Ho2, Go2⟩ := id V_b1
  have hino2 : ¬ ((0 : Int32) < 0 ∨ clo2.slots.size ≤ ((0 : Int32)).toNatClampNeg) := inb_of So2 ⟨by decide, by decide⟩
  obtain ⟨T3, h3, X3, e3, W3, st3⟩ := stC X1 hx hZ e1 Aro2 (j := (0 : Int32)) hino2 (g := (mkF m 62 #[.val (.int p0), .val (.int p1), .val (.int kl), .val (.int ka), .val (.int kc), .val (.int qa), .val (.int qc), .val (.ref kx), .unset, .unset, .unset, .unset] [(.int (67 : Int32)), (.int (0 : Int32)), (.ref b1), (.ref b1)])) rfl rfl (hb hby at_62)
  have V3 : Arv Z h3 b1 k1 .char (21 : Int32) [(.int (nar .char (67 : Int32))), (.int (0 : Int32)), (.int (0 : Int32)), (.int (0 : Int32)), (.int (0 : Int32)), (.int (0 : Int32)), (.int (0 : Int32)), (.int (0 : Int32)), (.int (0 : Int32)), (.int (0 : Int32)), (.int (0 : Int32)), (.int (0 : Int32)), (.int (0 : Int32)), (.int (0 : Int32)), (.int (0 : Int32)), (.int (0 : Int32)), (.int (0 : Int32)), (.int (0 : Int32)), (.int (0 : Int32)), (.int (0 : Int32)), (.int (0 : Int32))] (.int (0 : Int32)) := Arv.set Aro2 qo2 So2 No2 Ho2 Go2 (fits_nar_char _) W3 0 rfl (Nat.le_of_ble_eq_true rfl)
  have K3 := K1.wr W3 (Or.inr sz_b1)
  have N3 := Fr.snoc X3 N0 g_b1
  obtain ⟨clo4, Aro4, qo4, So4, No4, Ho4, Go4⟩ := id V3
  have hino4 : ¬ ((1 : Int32) < 0 ∨ clo4.slots.size ≤ ((1 : Int32)).toNatClampNeg) := inb_of So4 ⟨by decide, by decide⟩
  obtain ⟨T5, h5, X5, e5, W5, st5⟩ := stC X3 hx hZ e3 Aro4 (j := (1 : Int32)) hino4 (g := (mkF m 67 #[.val (.int p0), .val (.int p1), .val (.int kl), .val (.int ka), .val (.int kc), .val (.int qa), .val (.int qc), .val (.ref kx), .unset, .unset, .unset, .unset] [(.int (97 : Int32)), (.int (1 : Int32)), (.ref b1), (.ref b1)])) rfl rfl (hb hby at_67)
  have V5 : Arv Z h5 b1 k1 .char (21 : Int32) [(.int (nar .char (67 : Int32))), (.int (nar .char (97 : Int32))), (.int (0 : Int32)), (.int (0 : Int32)), (.int (0 : Int32)), (.int (0 : Int32)), (.int (0 : Int32)), (.int (0 : Int32)), (.int (0 : Int32)), (.int (0 : Int32)), (.int (0 : Int32)), (.int (0 : Int32)), (.int (0 : Int32)), (.int (0 : Int32)), (.int (0 : Int32)), (.int (0 : Int32)), (.int (0 : Int32)), (.int (0 : Int32)), (.int (0 : Int32)), (.int (0 : Int32)), (.int (0 : Int32))] (.int (0 : Int32)) := Arv.set Aro4 qo4 So4 No4 Ho4 Go4 (fits_nar_char _) W5 1 rfl (Nat.le_of_ble_eq_true rfl)
  have K5 := K3.wr W5 (Or.inr sz_b1)
  have N5 := Fr.snoc X5 N3 g_b1
  obtain ⟨clo6, Aro6, qo6, So6, No6, Ho6, Go6⟩ := id V5
  have hino6 : ¬ ((2 : Int32) < 0 ∨ clo6.slots.size ≤ ((2 : Int32)).toNatClampNeg) := inb_of So6 ⟨by decide, by decide⟩
  obtain ⟨T7, h7, X7, e7, W7, st7⟩ := stC X5 hx hZ e5 Aro6 (j := (2 : Int32)) hino6 (g := (mkF m 72 #[.val (.int p0), .val (.int p1), .val (.int kl), .val (.int ka), .val (.int kc), .val (.int qa), .val (.int qc), .val (.ref kx), .unset, .unset, .unset, .unset] [(.int (110 : Int32)), (.int (2 : Int32)), (.ref b1), (.ref b1)])) rfl rfl (hb hby at_72)
  have V7 : Arv Z h7 b1 k1 .char (21 : Int32) [(.int (nar .char (67 : Int32))), (.int (nar .char (97 : Int32))), (.int (nar .char (110 : Int32))), (.int (0 : Int32)), (.int (0 : Int32)), (.int (0 : Int32)), (.int (0 : Int32)), (.int (0 : Int32)), (.int (0 : Int32)), (.int (0 : Int32)), (.int (0 : Int32)), (.int (0 : Int32)), (.int (0 : Int32)), (.int (0 : Int32)), (.int (0 : Int32)), (.int (0 : Int32)), (.int (0 : Int32)), (.int (0 : Int32)), (.int (0 : Int32)), (.int (0 : Int32)), (.int (0 : Int32))] (.int (0 : Int32)) := Arv.set Aro6 qo6 So6 No6 Ho6 Go6 (fits_nar_char _) W7 2 rfl (Nat.le_of_ble_eq_true rfl)
  have K7 := K5.wr W7 (Or.inr sz_b1)
  have N7 := Fr.snoc X7 N5 g_b1
  obtain ⟨clo8, Aro8, qo8, So8, No8, Ho8, Go8⟩ := id V7
  have hino8 : ¬ ((3 : Int32) < 0 ∨ clo8.slots.size ≤ ((3 : Int32)).toNatClampNeg) := inb_of So8 ⟨by decide, by decide⟩
  obtain ⟨T9, h9, X9, e9, W9, st9⟩ := stC X7 hx hZ e7 Aro8 (j := (3 : Int32)) hino8 (g := (mkF m 77 #[.val (.int p0), .val (.int p1), .val (.int kl), .val (.int ka), .val (.int kc), .val (.int qa), .val (.int qc), .val (.ref kx), .unset, .unset, .unset, .unset] [(.int (110 : Int32)), (.int (3 : Int32)), (.ref b1), (.ref b1)])) rfl rfl (hb hby at_77)
  have V9 : Arv Z h9 b1 k1 .char (21 : Int32) [(.int (nar .char (67 : Int32))), (.int (nar .char (97 : Int32))), (.int (nar .char (110 : Int32))), (.int (nar .char (110 : Int32))), (.int (0 : Int32)), (.int (0 : Int32)), (.int (0 : Int32)), (.int (0 : Int32)), (.int (0 : Int32)), (.int (0 : Int32)), (.int (0 : Int32)), (.int (0 : Int32)), (.int (0 : Int32)), (.int (0 : Int32)), (.int (0 : Int32)), (.int (0 : Int32)), (.int (0 : Int32)), (.int (0 : Int32)), (.int (0 : Int32)), (.int (0 : Int32)), (.int (0 : Int32))] (.int (0 : Int32)) := Arv.set Aro8 qo8 So8 No8 Ho8 Go8 (fits_nar_char _) W9 3 rfl (Nat.le_of_ble_eq_true rfl)
  have K9 := K7.wr W9 (Or.inr sz_b1)
  have N9 := Fr.snoc X9 N7 g_b1
  obtain ⟨clo10, Aro10, qo10, So10, No10, Ho10, Go10⟩ := id V9
  have hino10 : ¬ ((4 : Int32) < 0 ∨ clo10.slots.size ≤ ((4 : Int32)).toNatClampNeg) := inb_of So10 ⟨by decide, by decide⟩
  obtain ⟨T11, h11, X11, e11, W11, st11⟩ := stC X9 hx hZ e9 Aro10 (j := (4 : Int32)) hino10 (g := (mkF m 82 #[.val (.int p0), .val (.int p1), .val (.int kl), .val (.int ka), .val (.int kc), .val (.int qa), .val (.int qc), .val (.ref kx), .unset, .unset, .unset, .unset] [(.int (111 : Int32)), (.int (4 : Int32)), (.ref b1), (.ref b1)])) rfl rfl (hb hby at_82)
  have V11 : Arv Z h11 b1 k1 .char (21 : Int32) [(.int (nar .char (67 : Int32))), (.int (nar .char (97 : Int32))), (.int (nar .char (110 : Int32))), (.int (nar .char (110 : Int32))), (.int (nar .char (111 : Int32))), (.int (0 : Int32)), (.int (0 : Int32)), (.int (0 : Int32)), (.int (0 : Int32)), (.int (0 : Int32)), (.int (0 : Int32)), (.int (0 : Int32)), (.int (0 : Int32)), (.int (0 : Int32)), (.int (0 : Int32)), (.int (0 : Int32)), (.int (0 : Int32)), (.int (0 : Int32)), (.int (0 : Int32)), (.int (0 : Int32)), (.int (0 : Int32))] (.int (0 : Int32)) := Arv.set Aro10 qo10 So10 No10 Ho10 Go10 (fits_nar_char _) W11 4 rfl (Nat.le_of_ble_eq_true rfl)
  have K11 := K9.wr W11 (Or.inr sz_b1)
  have N11 := Fr.snoc X11 N9 g_b1
  obtain ⟨clo12, Aro12, qo12, So12, No12, Ho12, Go12⟩ := id V11
  have hino12 : ¬ ((5 : Int32) < 0 ∨ clo12.slots.size ≤ ((5 : Int32)).toNatClampNeg) := inb_of So12 ⟨by decide, by decide⟩
  obtain ⟨T13, h13, X13, e13, W13, st13⟩ := stC X11 hx hZ e11 Aro12 (j := (5 : Int32)) hino12 (g := (mkF m 87 #[.val (.int p0), .val (.int p1), .val (.int kl), .val (.int ka), .val (.int kc), .val (.int qa), .val (.int qc), .val (.ref kx), .unset, .unset, .unset, .unset] [(.int (116 : Int32)), (.int (5 : Int32)), (.ref b1), (.ref b1)])) rfl rfl (hb hby at_87)
  have V13 : Arv Z h13 b1 k1 .char (21 : Int32) [(.int (nar .char (67 : Int32))), (.int (nar .char (97 : Int32))), (.int (nar .char (110 : Int32))), (.int (nar .char (110 : Int32))), (.int (nar .char (111 : Int32))), (.int (nar .char (116 : Int32))), (.int (0 : Int32)), (.int (0 : Int32)), (.int (0 : Int32)), (.int (0 : Int32)), (.int (0 : Int32)), (.int (0 : Int32)), (.int (0 : Int32)), (.int (0 : Int32)), (.int (0 : Int32)), (.int (0 : Int32)), (.int (0 : Int32)), (.int (0 : Int32)), (.int (0 : Int32)), (.int (0 : Int32)), (.int (0 : Int32))] (.int (0 : Int32)) := Arv.set Aro12 qo12 So12 No12 Ho12 Go12 (fits_nar_char _) W13 5 rfl (Nat.le_of_ble_eq_true rfl)
  have K13 := K11.wr W13 (Or.inr sz_b1)
  have N13 := Fr.snoc X13 N11 g_b1
  obtain ⟨clo14, Aro14, qo14, So14, No14, Ho14, Go14⟩ := id V13
  have hino14 : ¬ ((6 : Int32) < 0 ∨ clo14.slots.size ≤ ((6 : Int32)).toNatClampNeg) := inb_of So14 ⟨by decide, by decide⟩
  obtain ⟨T15, h15, X15, e15, W15, st15⟩ := stC X13 hx hZ e13 Aro14 (j := (6 : Int32)) hino14 (g := (mkF m 93 #[.val (.int p0), .val (.int p1), .val (.int kl), .val (.int ka), .val (.int kc), .val (.int qa), .val (.int qc), .val (.ref kx), .unset, .unset, .unset, .unset] [(.int (32 : Int32)), (.int (6 : Int32)), (.ref b1), (.ref b1)])) rfl rfl (hb hby at_93)
  have V15 : Arv Z h15 b1 k1 .char (21 : Int32) [(.int (nar .char (67 : Int32))), (.int (nar .char (97 : Int32))), (.int (nar .char (110 : Int32))), (.int (nar .char (110 : Int32))), (.int (nar .char (111 : Int32))), (.int (nar .char (116 : Int32))), (.int (nar .char (32 : Int32))), (.int (0 : Int32)), (.int (0 : Int32)), (.int (0 : Int32)), (.int (0 : Int32)), (.int (0 : Int32)), (.int (0 : Int32)), (.int (0 : Int32)), (.int (0 : Int32)), (.int (0 : Int32)), (.int (0 : Int32)), (.int (0 : Int32)), (.int (0 : Int32)), (.int (0 : Int32)), (.int (0 : Int32))] (.int (0 : Int32)) := Arv.set Aro14 qo14 So14 No14 Ho14 Go14 (fits_nar_char _) W15 6 rfl (Nat.le_of_ble_eq_true rfl)
  have K15 := K13.wr W15 (Or.inr sz_b1)
  have N15 := Fr.snoc X15 N13 g_b1
  obtain ⟨clo16, Aro16, qo16, So16, No16, Ho16, Go16⟩ := id V15
  have hino16 : ¬ ((7 : Int32) < 0 ∨ clo16.slots.size ≤ ((7 : Int32)).toNatClampNeg) := inb_of So16 ⟨by decide, by decide⟩
  obtain ⟨T17, h17, X17, e17, W17, st17⟩ := stC X15 hx hZ e15 Aro16 (j := (7 : Int32)) hino16 (g := (mkF m 99 #[.val (.int p0), .val (.int p1), .val (.int kl), .val (.int ka), .val (.int kc), .val (.int qa), .val (.int qc), .val (.ref kx), .unset, .unset, .unset, .unset] [(.int (102 : Int32)), (.int (7 : Int32)), (.ref b1), (.ref b1)])) rfl rfl (hb hby at_99)
  have V17 : Arv Z h17 b1 k1 .char (21 : Int32) [(.int (nar .char (67 : Int32))), (.int (nar .char (97 : Int32))), (.int (nar .char (110 : Int32))), (.int (nar .char (110 : Int32))), (.int (nar .char (111 : Int32))), (.int (nar .char (116 : Int32))), (.int (nar .char (32 : Int32))), (.int (nar .char (102 : Int32))), (.int (0 : Int32)), (.int (0 : Int32)), (.int (0 : Int32)), (.int (0 : Int32)), (.int (0 : Int32)), (.int (0 : Int32)), (.int (0 : Int32)), (.int (0 : Int32)), (.int (0 : Int32)), (.int (0 : Int32)), (.int (0 : Int32)), (.int (0 : Int32)), (.int (0 : Int32))] (.int (0 : Int32)) := Arv.set Aro16 qo16 So16 No16 Ho16 Go16 (fits_nar_char _) W17 7 rfl (Nat.le_of_ble_eq_true rfl)
  have K17 := K15.wr W17 (Or.inr sz_b1)
  have N17 := Fr.snoc X17 N15 g_b1
  obtain ⟨clo18, Aro18, qo18, So18, No18, Ho18, Go18⟩ := id V17
  have hino18 : ¬ ((8 : Int32) < 0 ∨ clo18.slots.size ≤ ((8 : Int32)).toNatClampNeg) := inb_of So18 ⟨by decide, by decide⟩
  obtain ⟨T19, h19, X19, e19, W19, st19⟩ := stC X17 hx hZ e17 Aro18 (j := (8 : Int32)) hino18 (g := (mkF m 105 #[.val (.int p0), .val (.int p1), .val (.int kl), .val (.int ka), .val (.int kc), .val (.int qa), .val (.int qc), .val (.ref kx), .unset, .unset, .unset, .unset] [(.int (105 : Int32)), (.int (8 : Int32)), (.ref b1), (.ref b1)])) rfl rfl (hb hby at_105)
  have V19 : Arv Z h19 b1 k1 .char (21 : Int32) [(.int (nar .char (67 : Int32))), (.int (nar .char (97 : Int32))), (.int (nar .char (110 : Int32))), (.int (nar .char (110 : Int32))), (.int (nar .char (111 : Int32))), (.int (nar .char (116 : Int32))), (.int (nar .char (32 : Int32))), (.int (nar .char (102 : Int32))), (.int (nar .char (105 : Int32))), (.int (0 : Int32)), (.int (0 : Int32)), (.int (0 : Int32)), (.int (0 : Int32)), (.int (0 : Int32)), (.int (0 : Int32)), (.int (0 : Int32)), (.int (0 : Int32)), (.int (0 : Int32)), (.int (0 : Int32)), (.int (0 : Int32)), (.int (0 : Int32))] (.int (0 : Int32)) := Arv.set Aro18 qo18 So18 No18 Ho18 Go18 (fits_nar_char _) W19 8 rfl (Nat.le_of_ble_eq_true rfl)
  have K19 := K17.wr W19 (Or.inr sz_b1)
  have N19 := Fr.snoc X19 N17 g_b1
  obtain ⟨clo20, Aro20, qo20, So20, No20, Ho20, Go20⟩ := id V19
  have hino20 : ¬ ((9 : Int32) < 0 ∨ clo20.slots.size ≤ ((9 : Int32)).toNatClampNeg) := inb_of So20 ⟨by decide, by decide⟩
  obtain ⟨T21, h21, X21, e21, W21, st21⟩ := stC X19 hx hZ e19 Aro20 (j := (9 : Int32)) hino20 (g := (mkF m 111 #[.val (.int p0), .val (.int p1), .val (.int kl), .val (.int ka), .val (.int kc), .val (.int qa), .val (.int qc), .val (.ref kx), .unset, .unset, .unset, .unset] [(.int (108 : Int32)), (.int (9 : Int32)), (.ref b1), (.ref b1)])) rfl rfl (hb hby at_111)
  have V21 : Arv Z h21 b1 k1 .char (21 : Int32) [(.int (nar .char (67 : Int32))), (.int (nar .char (97 : Int32))), (.int (nar .char (110 : Int32))), (.int (nar .char (110 : Int32))), (.int (nar .char (111 : Int32))), (.int (nar .char (116 : Int32))), (.int (nar .char (32 : Int32))), (.int (nar .char (102 : Int32))), (.int (nar .char (105 : Int32))), (.int (nar .char (108 : Int32))), (.int (0 : Int32)), (.int (0 : Int32)), (.int (0 : Int32)), (.int (0 : Int32)), (.int (0 : Int32)), (.int (0 : Int32)), (.int (0 : Int32)), (.int (0 : Int32)), (.int (0 : Int32)), (.int (0 : Int32)), (.int (0 : Int32))] (.int (0 : Int32)) := Arv.set Aro20 qo20 So20 No20 Ho20 Go20 (fits_nar_char _) W21 9 rfl (Nat.le_of_ble_eq_true rfl)
  have K21 := K19.wr W21 (Or.inr sz_b1)
  have N21 := Fr.snoc X21 N19 g_b1
  obtain ⟨clo22, Aro22, qo22, So22, No22, Ho22, Go22⟩ := id V21
  have hino22 : ¬ ((10 : Int32) < 0 ∨ clo22.slots.size ≤ ((10 : Int32)).toNatClampNeg) := inb_of So22 ⟨by decide, by decide⟩
  obtain ⟨T23, h23, X23, e23, W23, st23⟩ := stC X21 hx hZ e21 Aro22 (j := (10 : Int32)) hino22 (g := (mkF m 117 #[.val (.int p0), .val (.int p1), .val (.int kl), .val (.int ka), .val (.int kc), .val (.int qa), .val (.int qc), .val (.ref kx), .unset, .unset, .unset, .unset] [(.int (116 : Int32)), (.int (10 : Int32)), (.ref b1), (.ref b1)])) rfl rfl (hb hby at_117)
  have V23 : Arv Z h23 b1 k1 .char (21 : Int32) [(.int (nar .char (67 : Int32))), (.int (nar .char (97 : Int32))), (.int (nar .char (110 : Int32))), (.int (nar .char (110 : Int32))), (.int (nar .char (111 : Int32))), (.int (nar .char (116 : Int32))), (.int (nar .char (32 : Int32))), (.int (nar .char (102 : Int32))), (.int (nar .char (105 : Int32))), (.int (nar .char (108 : Int32))), (.int (nar .char (116 : Int32))), (.int (0 : Int32)), (.int (0 : Int32)), (.int (0 : Int32)), (.int (0 : Int32)), (.int (0 : Int32)), (.int (0 : Int32)), (.int (0 : Int32)), (.int (0 : Int32)), (.int (0 : Int32)), (.int (0 : Int32))] (.int (0 : Int32)) := Arv.set Aro22 qo22 So22 No22 Ho22 Go22 (fits_nar_char _) W23 10 rfl (Nat.le_of_ble_eq_true rfl)
  have K23 := K21.wr W23 (Or.inr sz_b1)
  have N23 := Fr.snoc X23 N21 g_b1
  obtain ⟨clo24, Aro24, qo24, So24, No24, Ho24, Go24⟩ := id V23
  have hino24 : ¬ ((11 : Int32) < 0 ∨ clo24.slots.size ≤ ((11 : Int32)).toNatClampNeg) := inb_of So24 ⟨by decide, by decide⟩
  obtain ⟨T25, h25, X25, e25, W25, st25⟩ := stC X23 hx hZ e23 Aro24 (j := (11 : Int32)) hino24 (g := (mkF m 123 #[.val (.int p0), .val (.int p1), .val (.int kl), .val (.int ka), .val (.int kc), .val (.int qa), .val (.int qc), .val (.ref kx), .unset, .unset, .unset, .unset] [(.int (101 : Int32)), (.int (11 : Int32)), (.ref b1), (.ref b1)])) rfl rfl (hb hby at_123)
  have V25 : Arv Z h25 b1 k1 .char (21 : Int32) [(.int (nar .char (67 : Int32))), (.int (nar .char (97 : Int32))), (.int (nar .char (110 : Int32))), (.int (nar .char (110 : Int32))), (.int (nar .char (111 : Int32))), (.int (nar .char (116 : Int32))), (.int (nar .char (32 : Int32))), (.int (nar .char (102 : Int32))), (.int (nar .char (105 : Int32))), (.int (nar .char (108 : Int32))), (.int (nar .char (116 : Int32))), (.int (nar .char (101 : Int32))), (.int (0 : Int32)), (.int (0 : Int32)), (.int (0 : Int32)), (.int (0 : Int32)), (.int (0 : Int32)), (.int (0 : Int32)), (.int (0 : Int32)), (.int (0 : Int32)), (.int (0 : Int32))] (.int (0 : Int32)) := Arv.set Aro24 qo24 So24 No24 Ho24 Go24 (fits_nar_char _) W25 11 rfl (Nat.le_of_ble_eq_true rfl)
  have K25 := K23.wr W25 (Or.inr sz_b1)
  have N25 := Fr.snoc X25 N23 g_b1
  obtain ⟨clo26, Aro26, qo26, So26, No26, Ho26, Go26⟩ := id V25
  have hino26 : ¬ ((12 : Int32) < 0 ∨ clo26.slots.size ≤ ((12 : Int32)).toNatClampNeg) := inb_of So26 ⟨by decide, by decide⟩
  obtain ⟨T27, h27, X27, e27, W27, st27⟩ := stC X25 hx hZ e25 Aro26 (j := (12 : Int32)) hino26 (g := (mkF m 129 #[.val (.int p0), .val (.int p1), .val (.int kl), .val (.int ka), .val (.int kc), .val (.int qa), .val (.int qc), .val (.ref kx), .unset, .unset, .unset, .unset] [(.int (114 : Int32)), (.int (12 : Int32)), (.ref b1), (.ref b1)])) rfl rfl (hb hby at_129)
  have V27 : Arv Z h27 b1 k1 .char (21 : Int32) [(.int (nar .char (67 : Int32))), (.int (nar .char (97 : Int32))), (.int (nar .char (110 : Int32))), (.int (nar .char (110 : Int32))), (.int (nar .char (111 : Int32))), (.int (nar .char (116 : Int32))), (.int (nar .char (32 : Int32))), (.int (nar .char (102 : Int32))), (.int (nar .char (105 : Int32))), (.int (nar .char (108 : Int32))), (.int (nar .char (116 : Int32))), (.int (nar .char (101 : Int32))), (.int (nar .char (114 : Int32))), (.int (0 : Int32)), (.int (0 : Int32)), (.int (0 : Int32)), (.int (0 : Int32)), (.int (0 : Int32)), (.int (0 : Int32)), (.int (0 : Int32)), (.int (0 : Int32))] (.int (0 : Int32)) := Arv.set Aro26 qo26 So26 No26 Ho26 Go26 (fits_nar_char _) W27 12 rfl (Nat.le_of_ble_eq_true rfl)
  have K27 := K25.wr W27 (Or.inr sz_b1)
  have N27 := Fr.snoc X27 N25 g_b1
  obtain ⟨clo28, Aro28, qo28, So28, No28, Ho28, Go28⟩ := id V27
  have hino28 : ¬ ((13 : Int32) < 0 ∨ clo28.slots.size ≤ ((13 : Int32)).toNatClampNeg) := inb_of So28 ⟨by decide, by decide⟩
  obtain ⟨T29, h29, X29, e29, W29, st29⟩ := stC X27 hx hZ e27 Aro28 (j := (13 : Int32)) hino28 (g := (mkF m 135 #[.val (.int p0), .val (.int p1), .val (.int kl), .val (.int ka), .val (.int kc), .val (.int qa), .val (.int qc), .val (.ref kx), .unset, .unset, .unset, .unset] [(.int (32 : Int32)), (.int (13 : Int32)), (.ref b1), (.ref b1)])) rfl rfl (hb hby at_135)
  have V29 : Arv Z h29 b1 k1 .char (21 : Int32) [(.int (nar .char (67 : Int32))), (.int (nar .char (97 : Int32))), (.int (nar .char (110 : Int32))), (.int (nar .char (110 : Int32))), (.int (nar .char (111 : Int32))), (.int (nar .char (116 : Int32))), (.int (nar .char (32 : Int32))), (.int (nar .char (102 : Int32))), (.int (nar .char (105 : Int32))), (.int (nar .char (108 : Int32))), (.int (nar .char (116 : Int32))), (.int (nar .char (101 : Int32))), (.int (nar .char (114 : Int32))), (.int (nar .char (32 : Int32))), (.int (0 : Int32)), (.int (0 : Int32)), (.int (0 : Int32)), (.int (0 : Int32)), (.int (0 : Int32)), (.int (0 : Int32)), (.int (0 : Int32))] (.int (0 : Int32)) := Arv.set Aro28 qo28 So28 No28 Ho28 Go28 (fits_nar_char _) W29 13 rfl (Nat.le_of_ble_eq_true rfl)
  have K29 := K27.wr W29 (Or.inr sz_b1)
  have N29 := Fr.snoc X29 N27 g_b1
  obtain ⟨clo30, Aro30, qo30, So30, No30, Ho30, Go30⟩ := id V29
  have hino30 : ¬ ((14 : Int32) < 0 ∨ clo30.slots.size ≤ ((14 : Int32)).toNatClampNeg) := inb_of So30 ⟨by decide, by decide⟩
  obtain ⟨T31, h31, X31, e31, W31, st31⟩ := stC X29 hx hZ e29 Aro30 (j := (14 : Int32)) hino30 (g := (mkF m 141 #[.val (.int p0), .val (.int p1), .val (.int kl), .val (.int ka), .val (.int kc), .val (.int qa), .val (.int qc), .val (.ref kx), .unset, .unset, .unset, .unset] [(.int (98 : Int32)), (.int (14 : Int32)), (.ref b1), (.ref b1)])) rfl rfl (hb hby at_141)
  have V31 : Arv Z h31 b1 k1 .char (21 : Int32) [(.int (nar .char (67 : Int32))), (.int (nar .char (97 : Int32))), (.int (nar .char (110 : Int32))), (.int (nar .char (110 : Int32))), (.int (nar .char (111 : Int32))), (.int (nar .char (116 : Int32))), (.int (nar .char (32 : Int32))), (.int (nar .char (102 : Int32))), (.int (nar .char (105 : Int32))), (.int (nar .char (108 : Int32))), (.int (nar .char (116 : Int32))), (.int (nar .char (101 : Int32))), (.int (nar .char (114 : Int32))), (.int (nar .char (32 : Int32))), (.int (nar .char (98 : Int32))), (.int (0 : Int32)), (.int (0 : Int32)), (.int (0 : Int32)), (.int (0 : Int32)), (.int (0 : Int32)), (.int (0 : Int32))] (.int (0 : Int32)) := Arv.set Aro30 qo30 So30 No30 Ho30 Go30 (fits_nar_char _) W31 14 rfl (Nat.le_of_ble_eq_true rfl)
  have K31 := K29.wr W31 (Or.inr sz_b1)
  have N31 := Fr.snoc X31 N29 g_b1
  obtain ⟨clo32, Aro32, qo32, So32, No32, Ho32, Go32⟩ := id V31
  have hino32 : ¬ ((15 : Int32) < 0 ∨ clo32.slots.size ≤ ((15 : Int32)).toNatClampNeg) := inb_of So32 ⟨by decide, by decide⟩
  obtain ⟨T33, h33, X33, e33, W33, st33⟩ := stC X31 hx hZ e31 Aro32 (j := (15 : Int32)) hino32 (g := (mkF m 147 #[.val (.int p0), .val (.int p1), .val (.int kl), .val (.int ka), .val (.int kc), .val (.int qa), .val (.int qc), .val (.ref kx), .unset, .unset, .unset, .unset] [(.int (121 : Int32)), (.int (15 : Int32)), (.ref b1), (.ref b1)])) rfl rfl (hb hby at_147)
  have V33 : Arv Z h33 b1 k1 .char (21 : Int32) [(.int (nar .char (67 : Int32))), (.int (nar .char (97 : Int32))), (.int (nar .char (110 : Int32))), (.int (nar .char (110 : Int32))), (.int (nar .char (111 : Int32))), (.int (nar .char (116 : Int32))), (.int (nar .char (32 : Int32))), (.int (nar .char (102 : Int32))), (.int (nar .char (105 : Int32))), (.int (nar .char (108 : Int32))), (.int (nar .char (116 : Int32))), (.int (nar .char (101 : Int32))), (.int (nar .char (114 : Int32))), (.int (nar .char (32 : Int32))), (.int (nar .char (98 : Int32))), (.int (nar .char (121 : Int32))), (.int (0 : Int32)), (.int (0 : Int32)), (.int (0 : Int32)), (.int (0 : Int32)), (.int (0 : Int32))] (.int (0 : Int32)) := Arv.set Aro32 qo32 So32 No32 Ho32 Go32 (fits_nar_char _) W33 15 rfl (Nat.le_of_ble_eq_true rfl)
  have K33 := K31.wr W33 (Or.inr sz_b1)
  have N33 := Fr.snoc X33 N31 g_b1
  obtain ⟨clo34, Aro34, qo34, So34, No34, Ho34, Go34⟩ := id V33
  have hino34 : ¬ ((16 : Int32) < 0 ∨ clo34.slots.size ≤ ((16 : Int32)).toNatClampNeg) := inb_of So34 ⟨by decide, by decide⟩
  obtain ⟨T35, h35, X35, e35, W35, st35⟩ := stC X33 hx hZ e33 Aro34 (j := (16 : Int32)) hino34 (g := (mkF m 153 #[.val (.int p0), .val (.int p1), .val (.int kl), .val (.int ka), .val (.int kc), .val (.int qa), .val (.int qc), .val (.ref kx), .unset, .unset, .unset, .unset] [(.int (32 : Int32)), (.int (16 : Int32)), (.ref b1), (.ref b1)])) rfl rfl (hb hby at_153)
  have V35 : Arv Z h35 b1 k1 .char (21 : Int32) [(.int (nar .char (67 : Int32))), (.int (nar .char (97 : Int32))), (.int (nar .char (110 : Int32))), (.int (nar .char (110 : Int32))), (.int (nar .char (111 : Int32))), (.int (nar .char (116 : Int32))), (.int (nar .char (32 : Int32))), (.int (nar .char (102 : Int32))), (.int (nar .char (105 : Int32))), (.int (nar .char (108 : Int32))), (.int (nar .char (116 : Int32))), (.int (nar .char (101 : Int32))), (.int (nar .char (114 : Int32))), (.int (nar .char (32 : Int32))), (.int (nar .char (98 : Int32))), (.int (nar .char (121 : Int32))), (.int (nar .char (32 : Int32))), (.int (0 : Int32)), (.int (0 : Int32)), (.int (0 : Int32)), (.int (0 : Int32))] (.int (0 : Int32)) := Arv.set Aro34 qo34 So34 No34 Ho34 Go34 (fits_nar_char _) W35 16 rfl (Nat.le_of_ble_eq_true rfl)
  have K35 := K33.wr W35 (Or.inr sz_b1)
  have N35 := Fr.snoc X35 N33 g_b1
  obtain ⟨clo36, Aro36, qo36, So36, No36, Ho36, Go36⟩ := id V35
  have hino36 : ¬ ((17 : Int32) < 0 ∨ clo36.slots.size ≤ ((17 : Int32)).toNatClampNeg) := inb_of So36 ⟨by decide, by decide⟩
  obtain ⟨T37, h37, X37, e37, W37, st37⟩ := stC X35 hx hZ e35 Aro36 (j := (17 : Int32)) hino36 (g := (mkF m 159 #[.val (.int p0), .val (.int p1), .val (.int kl), .val (.int ka), .val (.int kc), .val (.int qa), .val (.int qc), .val (.ref kx), .unset, .unset, .unset, .unset] [(.int (58 : Int32)), (.int (17 : Int32)), (.ref b1), (.ref b1)])) rfl rfl (hb hby at_159)
  have V37 : Arv Z h37 b1 k1 .char (21 : Int32) [(.int (nar .char (67 : Int32))), (.int (nar .char (97 : Int32))), (.int (nar .char (110 : Int32))), (.int (nar .char (110 : Int32))), (.int (nar .char (111 : Int32))), (.int (nar .char (116 : Int32))), (.int (nar .char (32 : Int32))), (.int (nar .char (102 : Int32))), (.int (nar .char (105 : Int32))), (.int (nar .char (108 : Int32))), (.int (nar .char (116 : Int32))), (.int (nar .char (101 : Int32))), (.int (nar .char (114 : Int32))), (.int (nar .char (32 : Int32))), (.int (nar .char (98 : Int32))), (.int (nar .char (121 : Int32))), (.int (nar .char (32 : Int32))), (.int (nar .char (58 : Int32))), (.int (0 : Int32)), (.int (0 : Int32)), (.int (0 : Int32))] (.int (0 : Int32)) := Arv.set Aro36 qo36 So36 No36 Ho36 Go36 (fits_nar_char _) W37 17 rfl (Nat.le_of_ble_eq_true rfl)
  have K37 := K35.wr W37 (Or.inr sz_b1)
  have N37 := Fr.snoc X37 N35 g_b1
  obtain ⟨clo38, Aro38, qo38, So38, No38, Ho38, Go38⟩ := id V37
  have hino38 : ¬ ((18 : Int32) < 0 ∨ clo38.slots.size ≤ ((18 : Int32)).toNatClampNeg) := inb_of So38 ⟨by decide, by decide⟩
  obtain ⟨T39, h39, X39, e39, W39, st39⟩ := stC X37 hx hZ e37 Aro38 (j := (18 : Int32)) hino38 (g := (mkF m 165 #[.val (.int p0), .val (.int p1), .val (.int kl), .val (.int ka), .val (.int kc), .val (.int qa), .val (.int qc), .val (.ref kx), .unset, .unset, .unset, .unset] [(.int (32 : Int32)), (.int (18 : Int32)), (.ref b1), (.ref b1)])) rfl rfl (hb hby at_165)
  have V39 : Arv Z h39 b1 k1 .char (21 : Int32) [(.int (nar .char (67 : Int32))), (.int (nar .char (97 : Int32))), (.int (nar .char (110 : Int32))), (.int (nar .char (110 : Int32))), (.int (nar .char (111 : Int32))), (.int (nar .char (116 : Int32))), (.int (nar .char (32 : Int32))), (.int (nar .char (102 : Int32))), (.int (nar .char (105 : Int32))), (.int (nar .char (108 : Int32))), (.int (nar .char (116 : Int32))), (.int (nar .char (101 : Int32))), (.int (nar .char (114 : Int32))), (.int (nar .char (32 : Int32))), (.int (nar .char (98 : Int32))), (.int (nar .char (121 : Int32))), (.int (nar .char (32 : Int32))), (.int (nar .char (58 : Int32))), (.int (nar .char (32 : Int32))), (.int (0 : Int32)), (.int (0 : Int32))] (.int (0 : Int32)) := Arv.set Aro38 qo38 So38 No38 Ho38 Go38 (fits_nar_char _) W39 18 rfl (Nat.le_of_ble_eq_true rfl)
  have K39 := K37.wr W39 (Or.inr sz_b1)
  have N39 := Fr.snoc X39 N37 g_b1
  obtain ⟨clo40, Aro40, qo40, So40, No40, Ho40, Go40⟩ := id V39
  have hino40 : ¬ ((19 : Int32) < 0 ∨ clo40.slots.size ≤ ((19 : Int32)).toNatClampNeg) := inb_of So40 ⟨by decide, by decide⟩
  obtain ⟨T41, h41, X41, e41, W41, st41⟩ := stC X39 hx hZ e39 Aro40 (j := (19 : Int32)) hino40 (g := (mkF m 171 #[.val (.int p0), .val (.int p1), .val (.int kl), .val (.int ka), .val (.int kc), .val (.int qa), .val (.int qc), .val (.ref kx), .unset, .unset, .unset, .unset] [(.int qa), (.int (19 : Int32)), (.ref b1), (.ref b1)])) rfl rfl (hb hby at_171)
  have V41 : Arv Z h41 b1 k1 .char (21 : Int32) [(.int (nar .char (67 : Int32))), (.int (nar .char (97 : Int32))), (.int (nar .char (110 : Int32))), (.int (nar .char (110 : Int32))), (.int (nar .char (111 : Int32))), (.int (nar .char (116 : Int32))), (.int (nar .char (32 : Int32))), (.int (nar .char (102 : Int32))), (.int (nar .char (105 : Int32))), (.int (nar .char (108 : Int32))), (.int (nar .char (116 : Int32))), (.int (nar .char (101 : Int32))), (.int (nar .char (114 : Int32))), (.int (nar .char (32 : Int32))), (.int (nar .char (98 : Int32))), (.int (nar .char (121 : Int32))), (.int (nar .char (32 : Int32))), (.int (nar .char (58 : Int32))), (.int (nar .char (32 : Int32))), (.int (nar .char qa)), (.int (0 : Int32))] (.int (0 : Int32)) := Arv.set Aro40 qo40 So40 No40 Ho40 Go40 (fits_nar_char _) W41 19 rfl (Nat.le_of_ble_eq_true rfl)
  have K41 := K39.wr W41 (Or.inr sz_b1)
  have N41 := Fr.snoc X41 N39 g_b1
  obtain ⟨clo42, Aro42, qo42, So42, No42, Ho42, Go42⟩ := id V41
  have hino42 : ¬ ((20 : Int32) < 0 ∨ clo42.slots.size ≤ ((20 : Int32)).toNatClampNeg) := inb_of So42 ⟨by decide, by decide⟩
  obtain ⟨T43, h43, X43, e43, W43, st43⟩ := stC X41 hx hZ e41 Aro42 (j := (20 : Int32)) hino42 (g := (mkF m 177 #[.val (.int p0), .val (.int p1), .val (.int kl), .val (.int ka), .val (.int kc), .val (.int qa), .val (.int qc), .val (.ref kx), .unset, .unset, .unset, .unset] [(.int qc), (.int (20 : Int32)), (.ref b1), (.ref b1)])) rfl rfl (hb hby at_177)
  have V43 : Arv Z h43 b1 k1 .char (21 : Int32) [(.int (nar .char (67 : Int32))), (.int (nar .char (97 : Int32))), (.int (nar .char (110 : Int32))), (.int (nar .char (110 : Int32))), (.int (nar .char (111 : Int32))), (.int (nar .char (116 : Int32))), (.int (nar .char (32 : Int32))), (.int (nar .char (102 : Int32))), (.int (nar .char (105 : Int32))), (.int (nar .char (108 : Int32))), (.int (nar .char (116 : Int32))), (.int (nar .char (101 : Int32))), (.int (nar .char (114 : Int32))), (.int (nar .char (32 : Int32))), (.int (nar .char (98 : Int32))), (.int (nar .char (121 : Int32))), (.int (nar .char (32 : Int32))), (.int (nar .char (58 : Int32))), (.int (nar .char (32 : Int32))), (.int (nar .char qa)), (.int (nar .char qc))] (.int (0 : Int32)) := Arv.set Aro42 qo42 So42 No42 Ho42 Go42 (fits_nar_char _) W43 20 rfl (Nat.le_of_ble_eq_true rfl)
  have K43 := K41.wr W43 (Or.inr sz_b1)
  have N43 := Fr.snoc X43 N41 g_b1
  have pre44 : ∀ t, Steps p.tables e below (T43.setTop (mkF m 496 #[.val (.int p0), .val (.int p1), .val (.int kl), .val (.int ka), .val (.int kc), .val (.int qa), .val (.int qc), .val (.ref kx), .val (.ref b1), .unset, .unset, .unset] [])) t → Steps p.tables e below (T0.setTop (mkF m 54 #[.val (.int p0), .val (.int p1), .val (.int kl), .val (.int ka), .val (.int kc), .val (.int qa), .val (.int qc), .val (.ref kx), .unset, .unset, .unset, .unset] [])) t := by
    intro t kt
    refine pre0 _ ?_
    show Steps p.tables e below (T0.setTop (mkF m 54 #[.val (.int p0), .val (.int p1), .val (.int kl), .val (.int ka), .val (.int kc), .val (.int qa), .val (.int qc), .val (.ref kx), .unset, .unset, .unset, .unset] [])) _
    refine XS.bipush X0.here hx rfl (hb hby at_54) ?_
    show Steps p.tables e below (T0.setTop (mkF m 56 #[.val (.int p0), .val (.int p1), .val (.int kl), .val (.int ka), .val (.int kc), .val (.int qa), .val (.int qc), .val (.ref kx), .unset, .unset, .unset, .unset] [(.int (21 : Int32))])) _
    refine st1 _ ?_
    show Steps p.tables e below (T1.setTop (mkF m 58 #[.val (.int p0), .val (.int p1), .val (.int kl), .val (.int ka), .val (.int kc), .val (.int qa), .val (.int qc), .val (.ref kx), .unset, .unset, .unset, .unset] [(.ref b1)])) _
    refine XS.dup X1.here hx rfl (hb hby at_58) rfl rfl ?_
    show Steps p.tables e below (T1.setTop (mkF m 59 #[.val (.int p0), .val (.int p1), .val (.int kl), .val (.int ka), .val (.int kc), .val (.int qa), .val (.int qc), .val (.ref kx), .unset, .unset, .unset, .unset] [(.ref b1), (.ref b1)])) _
    refine XS.iconst X1.here hx rfl (hb hby at_59) ?_
    show Steps p.tables e below (T1.setTop (mkF m 60 #[.val (.int p0), .val (.int p1), .val (.int kl), .val (.int ka), .val (.int kc), .val (.int qa), .val (.int qc), .val (.ref kx), .unset, .unset, .unset, .unset] [(.int (0 : Int32)), (.ref b1), (.ref b1)])) _
    refine XS.bipush X1.here hx rfl (hb hby at_60) ?_
    show Steps p.tables e below (T1.setTop (mkF m 62 #[.val (.int p0), .val (.int p1), .val (.int kl), .val (.int ka), .val (.int kc), .val (.int qa), .val (.int qc), .val (.ref kx), .unset, .unset, .unset, .unset] [(.int (67 : Int32)), (.int (0 : Int32)), (.ref b1), (.ref b1)])) _
    refine st3 _ ?_
    show Steps p.tables e below (T3.setTop (mkF m 63 #[.val (.int p0), .val (.int p1), .val (.int kl), .val (.int ka), .val (.int kc), .val (.int qa), .val (.int qc), .val (.ref kx), .unset, .unset, .unset, .unset] [(.ref b1)])) _
    refine XS.dup X3.here hx rfl (hb hby at_63) rfl rfl ?_
    show Steps p.tables e below (T3.setTop (mkF m 64 #[.val (.int p0), .val (.int p1), .val (.int kl), .val (.int ka), .val (.int kc), .val (.int qa), .val (.int qc), .val (.ref kx), .unset, .unset, .unset, .unset] [(.ref b1), (.ref b1)])) _
    refine XS.iconst X3.here hx rfl (hb hby at_64) ?_
    show Steps p.tables e below (T3.setTop (mkF m 65 #[.val (.int p0), .val (.int p1), .val (.int kl), .val (.int ka), .val (.int kc), .val (.int qa), .val (.int qc), .val (.ref kx), .unset, .unset, .unset, .unset] [(.int (1 : Int32)), (.ref b1), (.ref b1)])) _
    refine XS.bipush X3.here hx rfl (hb hby at_65) ?_
    show Steps p.tables e below (T3.setTop (mkF m 67 #[.val (.int p0), .val (.int p1), .val (.int kl), .val (.int ka), .val (.int kc), .val (.int qa), .val (.int qc), .val (.ref kx), .unset, .unset, .unset, .unset] [(.int (97 : Int32)), (.int (1 : Int32)), (.ref b1), (.ref b1)])) _
    refine st5 _ ?_
    show Steps p.tables e below (T5.setTop (mkF m 68 #[.val (.int p0), .val (.int p1), .val (.int kl), .val (.int ka), .val (.int kc), .val (.int qa), .val (.int qc), .val (.ref kx), .unset, .unset, .unset, .unset] [(.ref b1)])) _
    refine XS.dup X5.here hx rfl (hb hby at_68) rfl rfl ?_
    show Steps p.tables e below (T5.setTop (mkF m 69 #[.val (.int p0), .val (.int p1), .val (.int kl), .val (.int ka), .val (.int kc), .val (.int qa), .val (.int qc), .val (.ref kx), .unset, .unset, .unset, .unset] [(.ref b1), (.ref b1)])) _
    refine XS.iconst X5.here hx rfl (hb hby at_69) ?_
    show Steps p.tables e below (T5.setTop (mkF m 70 #[.val (.int p0), .val (.int p1), .val (.int kl), .val (.int ka), .val (.int kc), .val (.int qa), .val (.int qc), .val (.ref kx), .unset, .unset, .unset, .unset] [(.int (2 : Int32)), (.ref b1), (.ref b1)])) _
    refine XS.bipush X5.here hx rfl (hb hby at_70) ?_
    show Steps p.tables e below (T5.setTop (mkF m 72 #[.val (.int p0), .val (.int p1), .val (.int kl), .val (.int ka), .val (.int kc), .val (.int qa), .val (.int qc), .val (.ref kx), .unset, .unset, .unset, .unset] [(.int (110 : Int32)), (.int (2 : Int32)), (.ref b1), (.ref b1)])) _
    refine st7 _ ?_
    show Steps p.tables e below (T7.setTop (mkF m 73 #[.val (.int p0), .val (.int p1), .val (.int kl), .val (.int ka), .val (.int kc), .val (.int qa), .val (.int qc), .val (.ref kx), .unset, .unset, .unset, .unset] [(.ref b1)])) _
    refine XS.dup X7.here hx rfl (hb hby at_73) rfl rfl ?_
    show Steps p.tables e below (T7.setTop (mkF m 74 #[.val (.int p0), .val (.int p1), .val (.int kl), .val (.int ka), .val (.int kc), .val (.int qa), .val (.int qc), .val (.ref kx), .unset, .unset, .unset, .unset] [(.ref b1), (.ref b1)])) _
    refine XS.iconst X7.here hx rfl (hb hby at_74) ?_
    show Steps p.tables e below (T7.setTop (mkF m 75 #[.val (.int p0), .val (.int p1), .val (.int kl), .val (.int ka), .val (.int kc), .val (.int qa), .val (.int qc), .val (.ref kx), .unset, .unset, .unset, .unset] [(.int (3 : Int32)), (.ref b1), (.ref b1)])) _
    refine XS.bipush X7.here hx rfl (hb hby at_75) ?_
    show Steps p.tables e below (T7.setTop (mkF m 77 #[.val (.int p0), .val (.int p1), .val (.int kl), .val (.int ka), .val (.int kc), .val (.int qa), .val (.int qc), .val (.ref kx), .unset, .unset, .unset, .unset] [(.int (110 : Int32)), (.int (3 : Int32)), (.ref b1), (.ref b1)])) _
    refine st9 _ ?_
    show Steps p.tables e below (T9.setTop (mkF m 78 #[.val (.int p0), .val (.int p1), .val (.int kl), .val (.int ka), .val (.int kc), .val (.int qa), .val (.int qc), .val (.ref kx), .unset, .unset, .unset, .unset] [(.ref b1)])) _
    refine XS.dup X9.here hx rfl (hb hby at_78) rfl rfl ?_
    show Steps p.tables e below (T9.setTop (mkF m 79 #[.val (.int p0), .val (.int p1), .val (.int kl), .val (.int ka), .val (.int kc), .val (.int qa), .val (.int qc), .val (.ref kx), .unset, .unset, .unset, .unset] [(.ref b1), (.ref b1)])) _
    refine XS.iconst X9.here hx rfl (hb hby at_79) ?_
    show Steps p.tables e below (T9.setTop (mkF m 80 #[.val (.int p0), .val (.int p1), .val (.int kl), .val (.int ka), .val (.int kc), .val (.int qa), .val (.int qc), .val (.ref kx), .unset, .unset, .unset, .unset] [(.int (4 : Int32)), (.ref b1), (.ref b1)])) _
    refine XS.bipush X9.here hx rfl (hb hby at_80) ?_
    show Steps p.tables e below (T9.setTop (mkF m 82 #[.val (.int p0), .val (.int p1), .val (.int kl), .val (.int ka), .val (.int kc), .val (.int qa), .val (.int qc), .val (.ref kx), .unset, .unset, .unset, .unset] [(.int (111 : Int32)), (.int (4 : Int32)), (.ref b1), (.ref b1)])) _
    refine st11 _ ?_
    show Steps p.tables e below (T11.setTop (mkF m 83 #[.val (.int p0), .val (.int p1), .val (.int kl), .val (.int ka), .val (.int kc), .val (.int qa), .val (.int qc), .val (.ref kx), .unset, .unset, .unset, .unset] [(.ref b1)])) _
    refine XS.dup X11.here hx rfl (hb hby at_83) rfl rfl ?_
    show Steps p.tables e below (T11.setTop (mkF m 84 #[.val (.int p0), .val (.int p1), .val (.int kl), .val (.int ka), .val (.int kc), .val (.int qa), .val (.int qc), .val (.ref kx), .unset, .unset, .unset, .unset] [(.ref b1), (.ref b1)])) _
    refine XS.iconst X11.here hx rfl (hb hby at_84) ?_
    show Steps p.tables e below (T11.setTop (mkF m 85 #[.val (.int p0), .val (.int p1), .val (.int kl), .val (.int ka), .val (.int kc), .val (.int qa), .val (.int qc), .val (.ref kx), .unset, .unset, .unset, .unset] [(.int (5 : Int32)), (.ref b1), (.ref b1)])) _
    refine XS.bipush X11.here hx rfl (hb hby at_85) ?_
    show Steps p.tables e below (T11.setTop (mkF m 87 #[.val (.int p0), .val (.int p1), .val (.int kl), .val (.int ka), .val (.int kc), .val (.int qa), .val (.int qc), .val (.ref kx), .unset, .unset, .unset, .unset] [(.int (116 : Int32)), (.int (5 : Int32)), (.ref b1), (.ref b1)])) _
    refine st13 _ ?_
    show Steps p.tables e below (T13.setTop (mkF m 88 #[.val (.int p0), .val (.int p1), .val (.int kl), .val (.int ka), .val (.int kc), .val (.int qa), .val (.int qc), .val (.ref kx), .unset, .unset, .unset, .unset] [(.ref b1)])) _
    refine XS.dup X13.here hx rfl (hb hby at_88) rfl rfl ?_
    show Steps p.tables e below (T13.setTop (mkF m 89 #[.val (.int p0), .val (.int p1), .val (.int kl), .val (.int ka), .val (.int kc), .val (.int qa), .val (.int qc), .val (.ref kx), .unset, .unset, .unset, .unset] [(.ref b1), (.ref b1)])) _
    refine XS.bipush X13.here hx rfl (hb hby at_89) ?_
    show Steps p.tables e below (T13.setTop (mkF m 91 #[.val (.int p0), .val (.int p1), .val (.int kl), .val (.int ka), .val (.int kc), .val (.int qa), .val (.int qc), .val (.ref kx), .unset, .unset, .unset, .unset] [(.int (6 : Int32)), (.ref b1), (.ref b1)])) _
    refine XS.bipush X13.here hx rfl (hb hby at_91) ?_
    show Steps p.tables e below (T13.setTop (mkF m 93 #[.val (.int p0), .val (.int p1), .val (.int kl), .val (.int ka), .val (.int kc), .val (.int qa), .val (.int qc), .val (.ref kx), .unset, .unset, .unset, .unset] [(.int (32 : Int32)), (.int (6 : Int32)), (.ref b1), (.ref b1)])) _
    refine st15 _ ?_
    show Steps p.tables e below (T15.setTop (mkF m 94 #[.val (.int p0), .val (.int p1), .val (.int kl), .val (.int ka), .val (.int kc), .val (.int qa), .val (.int qc), .val (.ref kx), .unset, .unset, .unset, .unset] [(.ref b1)])) _
    refine XS.dup X15.here hx rfl (hb hby at_94) rfl rfl ?_
    show Steps p.tables e below (T15.setTop (mkF m 95 #[.val (.int p0), .val (.int p1), .val (.int kl), .val (.int ka), .val (.int kc), .val (.int qa), .val (.int qc), .val (.ref kx), .unset, .unset, .unset, .unset] [(.ref b1), (.ref b1)])) _
    refine XS.bipush X15.here hx rfl (hb hby at_95) ?_
    show Steps p.tables e below (T15.setTop (mkF m 97 #[.val (.int p0), .val (.int p1), .val (.int kl), .val (.int ka), .val (.int kc), .val (.int qa), .val (.int qc), .val (.ref kx), .unset, .unset, .unset, .unset] [(.int (7 : Int32)), (.ref b1), (.ref b1)])) _
    refine XS.bipush X15.here hx rfl (hb hby at_97) ?_
    show Steps p.tables e below (T15.setTop (mkF m 99 #[.val (.int p0), .val (.int p1), .val (.int kl), .val (.int ka), .val (.int kc), .val (.int qa), .val (.int qc), .val (.ref kx), .unset, .unset, .unset, .unset] [(.int (102 : Int32)), (.int (7 : Int32)), (.ref b1), (.ref b1)])) _
    refine st17 _ ?_
    show Steps p.tables e below (T17.setTop (mkF m 100 #[.val (.int p0), .val (.int p1), .val (.int kl), .val (.int ka), .val (.int kc), .val (.int qa), .val (.int qc), .val (.ref kx), .unset, .unset, .unset, .unset] [(.ref b1)])) _
    refine XS.dup X17.here hx rfl (hb hby at_100) rfl rfl ?_
    show Steps p.tables e below (T17.setTop (mkF m 101 #[.val (.int p0), .val (.int p1), .val (.int kl), .val (.int ka), .val (.int kc), .val (.int qa), .val (.int qc), .val (.ref kx), .unset, .unset, .unset, .unset] [(.ref b1), (.ref b1)])) _
    refine XS.bipush X17.here hx rfl (hb hby at_101) ?_
    show Steps p.tables e below (T17.setTop (mkF m 103 #[.val (.int p0), .val (.int p1), .val (.int kl), .val (.int ka), .val (.int kc), .val (.int qa), .val (.int qc), .val (.ref kx), .unset, .unset, .unset, .unset] [(.int (8 : Int32)), (.ref b1), (.ref b1)])) _
    refine XS.bipush X17.here hx rfl (hb hby at_103) ?_
    show Steps p.tables e below (T17.setTop (mkF m 105 #[.val (.int p0), .val (.int p1), .val (.int kl), .val (.int ka), .val (.int kc), .val (.int qa), .val (.int qc), .val (.ref kx), .unset, .unset, .unset, .unset] [(.int (105 : Int32)), (.int (8 : Int32)), (.ref b1), (.ref b1)])) _
    refine st19 _ ?_
    show Steps p.tables e below (T19.setTop (mkF m 106 #[.val (.int p0), .val (.int p1), .val (.int kl), .val (.int ka), .val (.int kc), .val (.int qa), .val (.int qc), .val (.ref kx), .unset, .unset, .unset, .unset] [(.ref b1)])) _
    refine XS.dup X19.here hx rfl (hb hby at_106) rfl rfl ?_
    show Steps p.tables e below (T19.setTop (mkF m 107 #[.val (.int p0), .val (.int p1), .val (.int kl), .val (.int ka), .val (.int kc), .val (.int qa), .val (.int qc), .val (.ref kx), .unset, .unset, .unset, .unset] [(.ref b1), (.ref b1)])) _
    refine XS.bipush X19.here hx rfl (hb hby at_107) ?_
    show Steps p.tables e below (T19.setTop (mkF m 109 #[.val (.int p0), .val (.int p1), .val (.int kl), .val (.int ka), .val (.int kc), .val (.int qa), .val (.int qc), .val (.ref kx), .unset, .unset, .unset, .unset] [(.int (9 : Int32)), (.ref b1), (.ref b1)])) _
    refine XS.bipush X19.here hx rfl (hb hby at_109) ?_
    show Steps p.tables e below (T19.setTop (mkF m 111 #[.val (.int p0), .val (.int p1), .val (.int kl), .val (.int ka), .val (.int kc), .val (.int qa), .val (.int qc), .val (.ref kx), .unset, .unset, .unset, .unset] [(.int (108 : Int32)), (.int (9 : Int32)), (.ref b1), (.ref b1)])) _
    refine st21 _ ?_
    show Steps p.tables e below (T21.setTop (mkF m 112 #[.val (.int p0), .val (.int p1), .val (.int kl), .val (.int ka), .val (.int kc), .val (.int qa), .val (.int qc), .val (.ref kx), .unset, .unset, .unset, .unset] [(.ref b1)])) _
    refine XS.dup X21.here hx rfl (hb hby at_112) rfl rfl ?_
    show Steps p.tables e below (T21.setTop (mkF m 113 #[.val (.int p0), .val (.int p1), .val (.int kl), .val (.int ka), .val (.int kc), .val (.int qa), .val (.int qc), .val (.ref kx), .unset, .unset, .unset, .unset] [(.ref b1), (.ref b1)])) _
    refine XS.bipush X21.here hx rfl (hb hby at_113) ?_
    show Steps p.tables e below (T21.setTop (mkF m 115 #[.val (.int p0), .val (.int p1), .val (.int kl), .val (.int ka), .val (.int kc), .val (.int qa), .val (.int qc), .val (.ref kx), .unset, .unset, .unset, .unset] [(.int (10 : Int32)), (.ref b1), (.ref b1)])) _
    refine XS.bipush X21.here hx rfl (hb hby at_115) ?_
    show Steps p.tables e below (T21.setTop (mkF m 117 #[.val (.int p0), .val (.int p1), .val (.int kl), .val (.int ka), .val (.int kc), .val (.int qa), .val (.int qc), .val (.ref kx), .unset, .unset, .unset, .unset] [(.int (116 : Int32)), (.int (10 : Int32)), (.ref b1), (.ref b1)])) _
    refine st23 _ ?_
    show Steps p.tables e below (T23.setTop (mkF m 118 #[.val (.int p0), .val (.int p1), .val (.int kl), .val (.int ka), .val (.int kc), .val (.int qa), .val (.int qc), .val (.ref kx), .unset, .unset, .unset, .unset] [(.ref b1)])) _
    refine XS.dup X23.here hx rfl (hb hby at_118) rfl rfl ?_
    show Steps p.tables e below (T23.setTop (mkF m 119 #[.val (.int p0), .val (.int p1), .val (.int kl), .val (.int ka), .val (.int kc), .val (.int qa), .val (.int qc), .val (.ref kx), .unset, .unset, .unset, .unset] [(.ref b1), (.ref b1)])) _
    refine XS.bipush X23.here hx rfl (hb hby at_119) ?_
    show Steps p.tables e below (T23.setTop (mkF m 121 #[.val (.int p0), .val (.int p1), .val (.int kl), .val (.int ka), .val (.int kc), .val (.int qa), .val (.int qc), .val (.ref kx), .unset, .unset, .unset, .unset] [(.int (11 : Int32)), (.ref b1), (.ref b1)])) _
    refine XS.bipush X23.here hx rfl (hb hby at_121) ?_
    show Steps p.tables e below (T23.setTop (mkF m 123 #[.val (.int p0), .val (.int p1), .val (.int kl), .val (.int ka), .val (.int kc), .val (.int qa), .val (.int qc), .val (.ref kx), .unset, .unset, .unset, .unset] [(.int (101 : Int32)), (.int (11 : Int32)), (.ref b1), (.ref b1)])) _
    refine st25 _ ?_
    show Steps p.tables e below (T25.setTop (mkF m 124 #[.val (.int p0), .val (.int p1), .val (.int kl), .val (.int ka), .val (.int kc), .val (.int qa), .val (.int qc), .val (.ref kx), .unset, .unset, .unset, .unset] [(.ref b1)])) _
    refine XS.dup X25.here hx rfl (hb hby at_124) rfl rfl ?_
    show Steps p.tables e below (T25.setTop (mkF m 125 #[.val (.int p0), .val (.int p1), .val (.int kl), .val (.int ka), .val (.int kc), .val (.int qa), .val (.int qc), .val (.ref kx), .unset, .unset, .unset, .unset] [(.ref b1), (.ref b1)])) _
    refine XS.bipush X25.here hx rfl (hb hby at_125) ?_
    show Steps p.tables e below (T25.setTop (mkF m 127 #[.val (.int p0), .val (.int p1), .val (.int kl), .val (.int ka), .val (.int kc), .val (.int qa), .val (.int qc), .val (.ref kx), .unset, .unset, .unset, .unset] [(.int (12 : Int32)), (.ref b1), (.ref b1)])) _
    refine XS.bipush X25.here hx rfl (hb hby at_127) ?_
    show Steps p.tables e below (T25.setTop (mkF m 129 #[.val (.int p0), .val (.int p1), .val (.int kl), .val (.int ka), .val (.int kc), .val (.int qa), .val (.int qc), .val (.ref kx), .unset, .unset, .unset, .unset] [(.int (114 : Int32)), (.int (12 : Int32)), (.ref b1), (.ref b1)])) _
    refine st27 _ ?_
    show Steps p.tables e below (T27.setTop (mkF m 130 #[.val (.int p0), .val (.int p1), .val (.int kl), .val (.int ka), .val (.int kc), .val (.int qa), .val (.int qc), .val (.ref kx), .unset, .unset, .unset, .unset] [(.ref b1)])) _
    refine XS.dup X27.here hx rfl (hb hby at_130) rfl rfl ?_
    show Steps p.tables e below (T27.setTop (mkF m 131 #[.val (.int p0), .val (.int p1), .val (.int kl), .val (.int ka), .val (.int kc), .val (.int qa), .val (.int qc), .val (.ref kx), .unset, .unset, .unset, .unset] [(.ref b1), (.ref b1)])) _
    refine XS.bipush X27.here hx rfl (hb hby at_131) ?_
    show Steps p.tables e below (T27.setTop (mkF m 133 #[.val (.int p0), .val (.int p1), .val (.int kl), .val (.int ka), .val (.int kc), .val (.int qa), .val (.int qc), .val (.ref kx), .unset, .unset, .unset, .unset] [(.int (13 : Int32)), (.ref b1), (.ref b1)])) _
    refine XS.bipush X27.here hx rfl (hb hby at_133) ?_
    show Steps p.tables e below (T27.setTop (mkF m 135 #[.val (.int p0), .val (.int p1), .val (.int kl), .val (.int ka), .val (.int kc), .val (.int qa), .val (.int qc), .val (.ref kx), .unset, .unset, .unset, .unset] [(.int (32 : Int32)), (.int (13 : Int32)), (.ref b1), (.ref b1)])) _
    refine st29 _ ?_
    show Steps p.tables e below (T29.setTop (mkF m 136 #[.val (.int p0), .val (.int p1), .val (.int kl), .val (.int ka), .val (.int kc), .val (.int qa), .val (.int qc), .val (.ref kx), .unset, .unset, .unset, .unset] [(.ref b1)])) _
    refine XS.dup X29.here hx rfl (hb hby at_136) rfl rfl ?_
    show Steps p.tables e below (T29.setTop (mkF m 137 #[.val (.int p0), .val (.int p1), .val (.int kl), .val (.int ka), .val (.int kc), .val (.int qa), .val (.int qc), .val (.ref kx), .unset, .unset, .unset, .unset] [(.ref b1), (.ref b1)])) _
    refine XS.bipush X29.here hx rfl (hb hby at_137) ?_
    show Steps p.tables e below (T29.setTop (mkF m 139 #[.val (.int p0), .val (.int p1), .val (.int kl), .val (.int ka), .val (.int kc), .val (.int qa), .val (.int qc), .val (.ref kx), .unset, .unset, .unset, .unset] [(.int (14 : Int32)), (.ref b1), (.ref b1)])) _
    refine XS.bipush X29.here hx rfl (hb hby at_139) ?_
    show Steps p.tables e below (T29.setTop (mkF m 141 #[.val (.int p0), .val (.int p1), .val (.int kl), .val (.int ka), .val (.int kc), .val (.int qa), .val (.int qc), .val (.ref kx), .unset, .unset, .unset, .unset] [(.int (98 : Int32)), (.int (14 : Int32)), (.ref b1), (.ref b1)])) _
    refine st31 _ ?_
    show Steps p.tables e below (T31.setTop (mkF m 142 #[.val (.int p0), .val (.int p1), .val (.int kl), .val (.int ka), .val (.int kc), .val (.int qa), .val (.int qc), .val (.ref kx), .unset, .unset, .unset, .unset] [(.ref b1)])) _
    refine XS.dup X31.here hx rfl (hb hby at_142) rfl rfl ?_
    show Steps p.tables e below (T31.setTop (mkF m 143 #[.val (.int p0), .val (.int p1), .val (.int kl), .val (.int ka), .val (.int kc), .val (.int qa), .val (.int qc), .val (.ref kx), .unset, .unset, .unset, .unset] [(.ref b1), (.ref b1)])) _
    refine XS.bipush X31.here hx rfl (hb hby at_143) ?_
    show Steps p.tables e below (T31.setTop (mkF m 145 #[.val (.int p0), .val (.int p1), .val (.int kl), .val (.int ka), .val (.int kc), .val (.int qa), .val (.int qc), .val (.ref kx), .unset, .unset, .unset, .unset] [(.int (15 : Int32)), (.ref b1), (.ref b1)])) _
    refine XS.bipush X31.here hx rfl (hb hby at_145) ?_
    show Steps p.tables e below (T31.setTop (mkF m 147 #[.val (.int p0), .val (.int p1), .val (.int kl), .val (.int ka), .val (.int kc), .val (.int qa), .val (.int qc), .val (.ref kx), .unset, .unset, .unset, .unset] [(.int (121 : Int32)), (.int (15 : Int32)), (.ref b1), (.ref b1)])) _
    refine st33 _ ?_
    show Steps p.tables e below (T33.setTop (mkF m 148 #[.val (.int p0), .val (.int p1), .val (.int kl), .val (.int ka), .val (.int kc), .val (.int qa), .val (.int qc), .val (.ref kx), .unset, .unset, .unset, .unset] [(.ref b1)])) _
    refine XS.dup X33.here hx rfl (hb hby at_148) rfl rfl ?_
    show Steps p.tables e below (T33.setTop (mkF m 149 #[.val (.int p0), .val (.int p1), .val (.int kl), .val (.int ka), .val (.int kc), .val (.int qa), .val (.int qc), .val (.ref kx), .unset, .unset, .unset, .unset] [(.ref b1), (.ref b1)])) _
    refine XS.bipush X33.here hx rfl (hb hby at_149) ?_
    show Steps p.tables e below (T33.setTop (mkF m 151 #[.val (.int p0), .val (.int p1), .val (.int kl), .val (.int ka), .val (.int kc), .val (.int qa), .val (.int qc), .val (.ref kx), .unset, .unset, .unset, .unset] [(.int (16 : Int32)), (.ref b1), (.ref b1)])) _
    refine XS.bipush X33.here hx rfl (hb hby at_151) ?_
    show Steps p.tables e below (T33.setTop (mkF m 153 #[.val (.int p0), .val (.int p1), .val (.int kl), .val (.int ka), .val (.int kc), .val (.int qa), .val (.int qc), .val (.ref kx), .unset, .unset, .unset, .unset] [(.int (32 : Int32)), (.int (16 : Int32)), (.ref b1), (.ref b1)])) _
    refine st35 _ ?_
    show Steps p.tables e below (T35.setTop (mkF m 154 #[.val (.int p0), .val (.int p1), .val (.int kl), .val (.int ka), .val (.int kc), .val (.int qa), .val (.int qc), .val (.ref kx), .unset, .unset, .unset, .unset] [(.ref b1)])) _
    refine XS.dup X35.here hx rfl (hb hby at_154) rfl rfl ?_
    show Steps p.tables e below (T35.setTop (mkF m 155 #[.val (.int p0), .val (.int p1), .val (.int kl), .val (.int ka), .val (.int kc), .val (.int qa), .val (.int qc), .val (.ref kx), .unset, .unset, .unset, .unset] [(.ref b1), (.ref b1)])) _
    refine XS.bipush X35.here hx rfl (hb hby at_155) ?_
    show Steps p.tables e below (T35.setTop (mkF m 157 #[.val (.int p0), .val (.int p1), .val (.int kl), .val (.int ka), .val (.int kc), .val (.int qa), .val (.int qc), .val (.ref kx), .unset, .unset, .unset, .unset] [(.int (17 : Int32)), (.ref b1), (.ref b1)])) _
    refine XS.bipush X35.here hx rfl (hb hby at_157) ?_
    show Steps p.tables e below (T35.setTop (mkF m 159 #[.val (.int p0), .val (.int p1), .val (.int kl), .val (.int ka), .val (.int kc), .val (.int qa), .val (.int qc), .val (.ref kx), .unset, .unset, .unset, .unset] [(.int (58 : Int32)), (.int (17 : Int32)), (.ref b1), (.ref b1)])) _
    refine st37 _ ?_
    show Steps p.tables e below (T37.setTop (mkF m 160 #[.val (.int p0), .val (.int p1), .val (.int kl), .val (.int ka), .val (.int kc), .val (.int qa), .val (.int qc), .val (.ref kx), .unset, .unset, .unset, .unset] [(.ref b1)])) _
    refine XS.dup X37.here hx rfl (hb hby at_160) rfl rfl ?_
    show Steps p.tables e below (T37.setTop (mkF m 161 #[.val (.int p0), .val (.int p1), .val (.int kl), .val (.int ka), .val (.int kc), .val (.int qa), .val (.int qc), .val (.ref kx), .unset, .unset, .unset, .unset] [(.ref b1), (.ref b1)])) _
    refine XS.bipush X37.here hx rfl (hb hby at_161) ?_
    show Steps p.tables e below (T37.setTop (mkF m 163 #[.val (.int p0), .val (.int p1), .val (.int kl), .val (.int ka), .val (.int kc), .val (.int qa), .val (.int qc), .val (.ref kx), .unset, .unset, .unset, .unset] [(.int (18 : Int32)), (.ref b1), (.ref b1)])) _
    refine XS.bipush X37.here hx rfl (hb hby at_163) ?_
    show Steps p.tables e below (T37.setTop (mkF m 165 #[.val (.int p0), .val (.int p1), .val (.int kl), .val (.int ka), .val (.int kc), .val (.int qa), .val (.int qc), .val (.ref kx), .unset, .unset, .unset, .unset] [(.int (32 : Int32)), (.int (18 : Int32)), (.ref b1), (.ref b1)])) _
    refine st39 _ ?_
    show Steps p.tables e below (T39.setTop (mkF m 166 #[.val (.int p0), .val (.int p1), .val (.int kl), .val (.int ka), .val (.int kc), .val (.int qa), .val (.int qc), .val (.ref kx), .unset, .unset, .unset, .unset] [(.ref b1)])) _
    refine XS.dup X39.here hx rfl (hb hby at_166) rfl rfl ?_
    show Steps p.tables e below (T39.setTop (mkF m 167 #[.val (.int p0), .val (.int p1), .val (.int kl), .val (.int ka), .val (.int kc), .val (.int qa), .val (.int qc), .val (.ref kx), .unset, .unset, .unset, .unset] [(.ref b1), (.ref b1)])) _
    refine XS.bipush X39.here hx rfl (hb hby at_167) ?_
    show Steps p.tables e below (T39.setTop (mkF m 169 #[.val (.int p0), .val (.int p1), .val (.int kl), .val (.int ka), .val (.int kc), .val (.int qa), .val (.int qc), .val (.ref kx), .unset, .unset, .unset, .unset] [(.int (19 : Int32)), (.ref b1), (.ref b1)])) _
    refine XS.iload X39.here hx rfl (hb hby at_169) rfl ?_
    show Steps p.tables e below (T39.setTop (mkF m 171 #[.val (.int p0), .val (.int p1), .val (.int kl), .val (.int ka), .val (.int kc), .val (.int qa), .val (.int qc), .val (.ref kx), .unset, .unset, .unset, .unset] [(.int qa), (.int (19 : Int32)), (.ref b1), (.ref b1)])) _
    refine st41 _ ?_
    show Steps p.tables e below (T41.setTop (mkF m 172 #[.val (.int p0), .val (.int p1), .val (.int kl), .val (.int ka), .val (.int kc), .val (.int qa), .val (.int qc), .val (.ref kx), .unset, .unset, .unset, .unset] [(.ref b1)])) _
    refine XS.dup X41.here hx rfl (hb hby at_172) rfl rfl ?_
    show Steps p.tables e below (T41.setTop (mkF m 173 #[.val (.int p0), .val (.int p1), .val (.int kl), .val (.int ka), .val (.int kc), .val (.int qa), .val (.int qc), .val (.ref kx), .unset, .unset, .unset, .unset] [(.ref b1), (.ref b1)])) _
    refine XS.bipush X41.here hx rfl (hb hby at_173) ?_
    show Steps p.tables e below (T41.setTop (mkF m 175 #[.val (.int p0), .val (.int p1), .val (.int kl), .val (.int ka), .val (.int kc), .val (.int qa), .val (.int qc), .val (.ref kx), .unset, .unset, .unset, .unset] [(.int (20 : Int32)), (.ref b1), (.ref b1)])) _
    refine XS.iload X41.here hx rfl (hb hby at_175) rfl ?_
    show Steps p.tables e below (T41.setTop (mkF m 177 #[.val (.int p0), .val (.int p1), .val (.int kl), .val (.int ka), .val (.int kc), .val (.int qa), .val (.int qc), .val (.ref kx), .unset, .unset, .unset, .unset] [(.int qc), (.int (20 : Int32)), (.ref b1), (.ref b1)])) _
    refine st43 _ ?_
    show Steps p.tables e below (T43.setTop (mkF m 178 #[.val (.int p0), .val (.int p1), .val (.int kl), .val (.int ka), .val (.int kc), .val (.int qa), .val (.int qc), .val (.ref kx), .unset, .unset, .unset, .unset] [(.ref b1)])) _
    refine XS.astore X43.here hx rfl (hb hby at_178) rfl rfl (l' := #[.val (.int p0), .val (.int p1), .val (.int kl), .val (.int ka), .val (.int kc), .val (.int qa), .val (.int qc), .val (.ref kx), .val (.ref b1), .unset, .unset, .unset]) rfl ?_
    show Steps p.tables e below (T43.setTop (mkF m 180 #[.val (.int p0), .val (.int p1), .val (.int kl), .val (.int ka), .val (.int kc), .val (.int qa), .val (.int qc), .val (.ref kx), .val (.ref b1), .unset, .unset, .unset] [])) _
    refine XS.goto X43.here hx rfl (pc0 := 180) (pc' := 496) rfl (hb hby at_180) (by decide) (by decide) ?_
    show Steps p.tables e below (T43.setTop (mkF m 496 #[.val (.int p0), .val (.int p1), .val (.int kl), .val (.int ka), .val (.int kc), .val (.int qa), .val (.int qc), .val (.ref kx), .val (.ref b1), .unset, .unset, .unset] [])) _
    exact kt
  have vz : Arv Z h43 b1 k1 .char (21 : Int32) (([(67 : Int32), (97 : Int32), (110 : Int32), (110 : Int32), (111 : Int32), (116 : Int32), (32 : Int32), (102 : Int32), (105 : Int32), (108 : Int32), (116 : Int32), (101 : Int32), (114 : Int32), (32 : Int32), (98 : Int32), (121 : Int32), (32 : Int32), (58 : Int32), (32 : Int32), qa, qc] : List Int32).map Value.int) (.int (0 : Int32)) := by
    have q : Arv Z h43 b1 k1 .char (21 : Int32) (([(67 : Int32), (97 : Int32), (110 : Int32), (110 : Int32), (111 : Int32), (116 : Int32), (32 : Int32), (102 : Int32), (105 : Int32), (108 : Int32), (116 : Int32), (101 : Int32), (114 : Int32), (32 : Int32), (98 : Int32), (121 : Int32), (32 : Int32), (58 : Int32), (32 : Int32), qa, qc] : List Int32).map fun c => Value.int (nar .char c)) (.int (0 : Int32)) := V43
    rw [own_c16L (own_cons ⟨by decide, by decide⟩ (own_cons ⟨by decide, by decide⟩ (own_cons ⟨by decide, by decide⟩ (own_cons ⟨by decide, by decide⟩ (own_cons ⟨by decide, by decide⟩ (own_cons ⟨by decide, by decide⟩ (own_cons ⟨by decide, by decide⟩ (own_cons ⟨by decide, by decide⟩ (own_cons ⟨by decide, by decide⟩ (own_cons ⟨by decide, by decide⟩ (own_cons ⟨by decide, by decide⟩ (own_cons ⟨by decide, by decide⟩ (own_cons ⟨by decide, by decide⟩ (own_cons ⟨by decide, by decide⟩ (own_cons ⟨by decide, by decide⟩ (own_cons ⟨by decide, by decide⟩ (own_cons ⟨by decide, by decide⟩ (own_cons ⟨by decide, by decide⟩ (own_cons ⟨by decide, by decide⟩ (own_cons hqa (own_cons hqc own_lm0)))))))))))))))))))))] at q; exact q
  exact ⟨_, _, _, _, X43.more (by decide) (by decide), N43, by rw [e43]; exact K43, by rw [e43]; exact vz, pre44⟩
set_option maxRecDepth 65536 in
set_option maxHeartbeats 40000000 in
theorem own_exp1 {p : Program} {l : Launch} {e : Env} {s : State} {m : MethodId} {args : Array Value} {below : List Frame} {meth : Method} {c : Code} {T0 : State} {locs : List Loc} {Z : State} {a0 : Array Value} {h0 : Heap} {n0 : Nat} {p0 p1 kl ka kc qa qc : Int32} {kx : Addr}
    (X0 : Stand p l e room_1 s m args below meth c T0 locs 3 8) (hx : p.tables.exec = Jvm.exec) (hZ : Z.Warmed39 s.vm) (hw : ∀ d ∈ tables_1, d.before a0 Z = true) (hby : c.code = code) (hml : c.maxLocals = 12) (hown : s.vm.findClass "com/example/modelwright/modelwright/FilterExceptionOfFilterKeyPinLaw" = some m.cls) (e0 : T0.heap = h0) (N0 : Fr n0 locs) (Z0 : n0 ≤ h0.size) (hka : own_c255 ka) (hkc : own_c255 kc) (hqa : own_c255 qa) (hqc : own_c255 qc) :
    ∃ (T' : State) (b : Addr) (kb : ClassId) (locs' : List Loc), Stand p l e room_1 s m args below meth c T' locs' 4 31 ∧ Fr n0 locs' ∧ Keep h0 T'.heap [] ∧ Arv Z T'.heap b kb .char (22 : Int32) (([(67 : Int32), (97 : Int32), (110 : Int32), (110 : Int32), (111 : Int32), (116 : Int32), (32 : Int32), (102 : Int32), (105 : Int32), (108 : Int32), (116 : Int32), (101 : Int32), (114 : Int32), (32 : Int32), (98 : Int32), (121 : Int32), (32 : Int32), ka, (58 : Int32), (32 : Int32), qa, qc] : List Int32).map Value.int) (.int (0 : Int32)) ∧ ∀ t, Steps p.tables e below (T'.setTop (mkF m 496 #[.val (.int p0), .val (.int p1), .val (.int kl), .val (.int ka), .val (.int kc), .val (.int qa), .val (.int qc), .val (.ref kx), .val (.ref b), .unset, .unset, .unset] [])) t → Steps p.tables e below (T0.setTop (mkF m 204 #[.val (.int p0), .val (.int p1), .val (.int kl), .val (.int ka), .val (.int kc), .val (.int qa), .val (.int qc), .val (.ref kx), .unset, .unset, .unset, .unset] [])) t := by
  have pre0 : ∀ t, Steps p.tables e below (T0.setTop (mkF m 204 #[.val (.int p0), .val (.int p1), .val (.int kl), .val (.int ka), .val (.int kc), .val (.int qa), .val (.int qc), .val (.ref kx), .unset, .unset, .unset, .unset] [])) t → Steps p.tables e below (T0.setTop (mkF m 204 #[.val (.int p0), .val (.int p1), .val (.int kl), .val (.int ka), .val (.int kc), .val (.int qa), .val (.int qc), .val (.ref kx), .unset, .unset, .unset, .unset] [])) t := fun t k => k
  have K0 := Keep.refl h0 ([] : List Addr)
  obtain ⟨T1, h1, k1, X1, e1, E1, A1, st1⟩ := newP X0 hx hZ (hw _ (List.mem_of_getElem? (i := 8) rfl)) e0 (g := (mkF m 206 #[.val (.int p0), .val (.int p1), .val (.int kl), .val (.int ka), .val (.int kc), .val (.int qa), .val (.int qc), .val (.ref kx), .unset, .unset, .unset, .unset] [(.int (22 : Int32))])) rfl (hb hby at_206) rfl (by decide) (cap := 22) (by decide) (by decide) (by decide) (by decide)
  obtain ⟨b1, g1⟩ : ∃ z, z = h0.size := ⟨_, rfl⟩
  rw [← g1] at A1 st1
  have g_b1 : n0 ≤ b1 := Nat.le_trans (Nat.le_trans Z0 K0.1) (Nat.le_of_eq g1.symm)
  have sz_b1 : h0.size ≤ b1 := Nat.le_trans K0.1 (Nat.le_of_eq g1.symm)
  have K1 := K0.ext E1
  have V_b1 : Arv Z h1 b1 k1 .char (22 : Int32) [(.int (0 : Int32)), (.int (0 : Int32)), (.int (0 : Int32)), (.int (0 : Int32)), (.int (0 : Int32)), (.int (0 : Int32)), (.int (0 : Int32)), (.int (0 : Int32)), (.int (0 : Int32)), (.int (0 : Int32)), (.int (0 : Int32)), (.int (0 : Int32)), (.int (0 : Int32)), (.int (0 : Int32)), (.int (0 : Int32)), (.int (0 : Int32)), (.int (0 : Int32)), (.int (0 : Int32)), (.int (0 : Int32)), (.int (0 : Int32)), (.int (0 : Int32)), (.int (0 : Int32))] (.int (0 : Int32)) := (Arv.new A1 (by decide)).pad (pad_rep [] (.int (0 : Int32)) 22)
  obtain ⟨clo2, Aro2, qo2, So2, No2, Ho2, Go2⟩ := id V_b1
  have hino2 : ¬ ((0 : Int32) < 0 ∨ clo2.slots.size ≤ ((0 : Int32)).toNatClampNeg) := inb_of So2 ⟨by decide, by decide⟩
  obtain ⟨T3, h3, X3, e3, W3, st3⟩ := stC X1 hx hZ e1 Aro2 (j := (0 : Int32)) hino2 (g := (mkF m 212 #[.val (.int p0), .val (.int p1), .val (.int kl), .val (.int ka), .val (.int kc), .val (.int qa), .val (.int qc), .val (.ref kx), .unset, .unset, .unset, .unset] [(.int (67 : Int32)), (.int (0 : Int32)), (.ref b1), (.ref b1)])) rfl rfl (hb hby at_212)
  have V3 : Arv Z h3 b1 k1 .char (22 : Int32) [(.int (nar .char (67 : Int32))), (.int (0 : Int32)), (.int (0 : Int32)), (.int (0 : Int32)), (.int (0 : Int32)), (.int (0 : Int32)), (.int (0 : Int32)), (.int (0 : Int32)), (.int (0 : Int32)), (.int (0 : Int32)), (.int (0 : Int32)), (.int (0 : Int32)), (.int (0 : Int32)), (.int (0 : Int32)), (.int (0 : Int32)), (.int (0 : Int32)), (.int (0 : Int32)), (.int (0 : Int32)), (.int (0 : Int32)), (.int (0 : Int32)), (.int (0 : Int32)), (.int (0 : Int32))] (.int (0 : Int32)) := Arv.set Aro2 qo2 So2 No2 Ho2 Go2 (fits_nar_char _) W3 0 rfl (Nat.le_of_ble_eq_true rfl)
  have K3 := K1.wr W3 (Or.inr sz_b1)
  have N3 := Fr.snoc X3 N0 g_b1
  obtain ⟨clo4, Aro4, qo4, So4, No4, Ho4, Go4⟩ := id V3
  have hino4 : ¬ ((1 : Int32) < 0 ∨ clo4.slots.size ≤ ((1 : Int32)).toNatClampNeg) := inb_of So4 ⟨by decide, by decide⟩
  obtain ⟨T5, h5, X5, e5, W5, st5⟩ := stC X3 hx hZ e3 Aro4 (j := (1 : Int32)) hino4 (g := (mkF m 217 #[.val (.int p0), .val (.int p1), .val (.int kl), .val (.int ka), .val (.int kc), .val (.int qa), .val (.int qc), .val (.ref kx), .unset, .unset, .unset, .unset] [(.int (97 : Int32)), (.int (1 : Int32)), (.ref b1), (.ref b1)])) rfl rfl (hb hby at_217)
  have V5 : Arv Z h5 b1 k1 .char (22 : Int32) [(.int (nar .char (67 : Int32))), (.int (nar .char (97 : Int32))), (.int (0 : Int32)), (.int (0 : Int32)), (.int (0 : Int32)), (.int (0 : Int32)), (.int (0 : Int32)), (.int (0 : Int32)), (.int (0 : Int32)), (.int (0 : Int32)), (.int (0 : Int32)), (.int (0 : Int32)), (.int (0 : Int32)), (.int (0 : Int32)), (.int (0 : Int32)), (.int (0 : Int32)), (.int (0 : Int32)), (.int (0 : Int32)), (.int (0 : Int32)), (.int (0 : Int32)), (.int (0 : Int32)), (.int (0 : Int32))] (.int (0 : Int32)) := Arv.set Aro4 qo4 So4 No4 Ho4 Go4 (fits_nar_char _) W5 1 rfl (Nat.le_of_ble_eq_true rfl)
  have K5 := K3.wr W5 (Or.inr sz_b1)
  have N5 := Fr.snoc X5 N3 g_b1
  obtain ⟨clo6, Aro6, qo6, So6, No6, Ho6, Go6⟩ := id V5
  have hino6 : ¬ ((2 : Int32) < 0 ∨ clo6.slots.size ≤ ((2 : Int32)).toNatClampNeg) := inb_of So6 ⟨by decide, by decide⟩
  obtain ⟨T7, h7, X7, e7, W7, st7⟩ := stC X5 hx hZ e5 Aro6 (j := (2 : Int32)) hino6 (g := (mkF m 222 #[.val (.int p0), .val (.int p1), .val (.int kl), .val (.int ka), .val (.int kc), .val (.int qa), .val (.int qc), .val (.ref kx), .unset, .unset, .unset, .unset] [(.int (110 : Int32)), (.int (2 : Int32)), (.ref b1), (.ref b1)])) rfl rfl (hb hby at_222)
  have V7 : Arv Z h7 b1 k1 .char (22 : Int32) [(.int (nar .char (67 : Int32))), (.int (nar .char (97 : Int32))), (.int (nar .char (110 : Int32))), (.int (0 : Int32)), (.int (0 : Int32)), (.int (0 : Int32)), (.int (0 : Int32)), (.int (0 : Int32)), (.int (0 : Int32)), (.int (0 : Int32)), (.int (0 : Int32)), (.int (0 : Int32)), (.int (0 : Int32)), (.int (0 : Int32)), (.int (0 : Int32)), (.int (0 : Int32)), (.int (0 : Int32)), (.int (0 : Int32)), (.int (0 : Int32)), (.int (0 : Int32)), (.int (0 : Int32)), (.int (0 : Int32))] (.int (0 : Int32)) := Arv.set Aro6 qo6 So6 No6 Ho6 Go6 (fits_nar_char _) W7 2 rfl (Nat.le_of_ble_eq_true rfl)
  have K7 := K5.wr W7 (Or.inr sz_b1)
  have N7 := Fr.snoc X7 N5 g_b1
  obtain ⟨clo8, Aro8, qo8, So8, No8, Ho8, Go8⟩ := id V7
  have hino8 : ¬ ((3 : Int32) < 0 ∨ clo8.slots.size ≤ ((3 : Int32)).toNatClampNeg) := inb_of So8 ⟨by decide, by decide⟩
  obtain ⟨T9, h9, X9, e9, W9, st9⟩ := stC X7 hx hZ e7 Aro8 (j := (3 : Int32)) hino8 (g := (mkF m 227 #[.val (.int p0), .val (.int p1), .val (.int kl), .val (.int ka), .val (.int kc), .val (.int qa), .val (.int qc), .val (.ref kx), .unset, .unset, .unset, .unset] [(.int (110 : Int32)), (.int (3 : Int32)), (.ref b1), (.ref b1)])) rfl rfl (hb hby at_227)
  have V9 : Arv Z h9 b1 k1 .char (22 : Int32) [(.int (nar .char (67 : Int32))), (.int (nar .char (97 : Int32))), (.int (nar .char (110 : Int32))), (.int (nar .char (110 : Int32))), (.int (0 : Int32)), (.int (0 : Int32)), (.int (0 : Int32)), (.int (0 : Int32)), (.int (0 : Int32)), (.int (0 : Int32)), (.int (0 : Int32)), (.int (0 : Int32)), (.int (0 : Int32)), (.int (0 : Int32)), (.int (0 : Int32)), (.int (0 : Int32)), (.int (0 : Int32)), (.int (0 : Int32)), (.int (0 : Int32)), (.int (0 : Int32)), (.int (0 : Int32)), (.int (0 : Int32))] (.int (0 : Int32)) := Arv.set Aro8 qo8 So8 No8 Ho8 Go8 (fits_nar_char _) W9 3 rfl (Nat.le_of_ble_eq_true rfl)
  have K9 := K7.wr W9 (Or.inr sz_b1)
  have N9 := Fr.snoc X9 N7 g_b1
  obtain ⟨clo10, Aro10, qo10, So10, No10, Ho10, Go10⟩ := id V9
  have hino10 : ¬ ((4 : Int32) < 0 ∨ clo10.slots.size ≤ ((4 : Int32)).toNatClampNeg) := inb_of So10 ⟨by decide, by decide⟩
  obtain ⟨T11, h11, X11, e11, W11, st11⟩ := stC X9 hx hZ e9 Aro10 (j := (4 : Int32)) hino10 (g := (mkF m 232 #[.val (.int p0), .val (.int p1), .val (.int kl), .val (.int ka), .val (.int kc), .val (.int qa), .val (.int qc), .val (.ref kx), .unset, .unset, .unset, .unset] [(.int (111 : Int32)), (.int (4 : Int32)), (.ref b1), (.ref b1)])) rfl rfl (hb hby at_232)
  have V11 : Arv Z h11 b1 k1 .char (22 : Int32) [(.int (nar .char (67 : Int32))), (.int (nar .char (97 : Int32))), (.int (nar .char (110 : Int32))), (.int (nar .char (110 : Int32))), (.int (nar .char (111 : Int32))), (.int (0 : Int32)), (.int (0 : Int32)), (.int (0 : Int32)), (.int (0 : Int32)), (.int (0 : Int32)), (.int (0 : Int32)), (.int (0 : Int32)), (.int (0 : Int32)), (.int (0 : Int32)), (.int (0 : Int32)), (.int (0 : Int32)), (.int (0 : Int32)), (.int (0 : Int32)), (.int (0 : Int32)), (.int (0 : Int32)), (.int (0 : Int32)), (.int (0 : Int32))] (.int (0 : Int32)) := Arv.set Aro10 qo10 So10 No10 Ho10 Go10 (fits_nar_char _) W11 4 rfl (Nat.le_of_ble_eq_true rfl)
  have K11 := K9.wr W11 (Or.inr sz_b1)
  have N11 := Fr.snoc X11 N9 g_b1
  obtain ⟨clo12, Aro12, qo12, So12, No12, Ho12, Go12⟩ := id V11
  have hino12 : ¬ ((5 : Int32) < 0 ∨ clo12.slots.size ≤ ((5 : Int32)).toNatClampNeg) := inb_of So12 ⟨by decide, by decide⟩
  obtain ⟨T13, h13, X13, e13, W13, st13⟩ := stC X11 hx hZ e11 Aro12 (j := (5 : Int32)) hino12 (g := (mkF m 237 #[.val (.int p0), .val (.int p1), .val (.int kl), .val (.int ka), .val (.int kc), .val (.int qa), .val (.int qc), .val (.ref kx), .unset, .unset, .unset, .unset] [(.int (116 : Int32)), (.int (5 : Int32)), (.ref b1), (.ref b1)])) rfl rfl (hb hby at_237)
  have V13 : Arv Z h13 b1 k1 .char (22 : Int32) [(.int (nar .char (67 : Int32))), (.int (nar .char (97 : Int32))), (.int (nar .char (110 : Int32))), (.int (nar .char (110 : Int32))), (.int (nar .char (111 : Int32))), (.int (nar .char (116 : Int32))), (.int (0 : Int32)), (.int (0 : Int32)), (.int (0 : Int32)), (.int (0 : Int32)), (.int (0 : Int32)), (.int (0 : Int32)), (.int (0 : Int32)), (.int (0 : Int32)), (.int (0 : Int32)), (.int (0 : Int32)), (.int (0 : Int32)), (.int (0 : Int32)), (.int (0 : Int32)), (.int (0 : Int32)), (.int (0 : Int32)), (.int (0 : Int32))] (.int (0 : Int32)) := Arv.set Aro12 qo12 So12 No12 Ho12 Go12 (fits_nar_char _) W13 5 rfl (Nat.le_of_ble_eq_true rfl)
  have K13 := K11.wr W13 (Or.inr sz_b1)
  have N13 := Fr.snoc X13 N11 g_b1
  obtain ⟨clo14, Aro14, qo14, So14, No14, Ho14, Go14⟩ := id V13
  have hino14 : ¬ ((6 : Int32) < 0 ∨ clo14.slots.size ≤ ((6 : Int32)).toNatClampNeg) := inb_of So14 ⟨by decide, by decide⟩
  obtain ⟨T15, h15, X15, e15, W15, st15⟩ := stC X13 hx hZ e13 Aro14 (j := (6 : Int32)) hino14 (g := (mkF m 243 #[.val (.int p0), .val (.int p1), .val (.int kl), .val (.int ka), .val (.int kc), .val (.int qa), .val (.int qc), .val (.ref kx), .unset, .unset, .unset, .unset] [(.int (32 : Int32)), (.int (6 : Int32)), (.ref b1), (.ref b1)])) rfl rfl (hb hby at_243)
  have V15 : Arv Z h15 b1 k1 .char (22 : Int32) [(.int (nar .char (67 : Int32))), (.int (nar .char (97 : Int32))), (.int (nar .char (110 : Int32))), (.int (nar .char (110 : Int32))), (.int (nar .char (111 : Int32))), (.int (nar .char (116 : Int32))), (.int (nar .char (32 : Int32))), (.int (0 : Int32)), (.int (0 : Int32)), (.int (0 : Int32)), (.int (0 : Int32)), (.int (0 : Int32)), (.int (0 : Int32)), (.int (0 : Int32)), (.int (0 : Int32)), (.int (0 : Int32)), (.int (0 : Int32)), (.int (0 : Int32)), (.int (0 : Int32)), (.int (0 : Int32)), (.int (0 : Int32)), (.int (0 : Int32))] (.int (0 : Int32)) := Arv.set Aro14 qo14 So14 No14 Ho14 Go14 (fits_nar_char _) W15 6 rfl (Nat.le_of_ble_eq_true rfl)
  have K15 := K13.wr W15 (Or.inr sz_b1)
  have N15 := Fr.snoc X15 N13 g_b1
  obtain ⟨clo16, Aro16, qo16, So16, No16, Ho16, Go16⟩ := id V15
  have hino16 : ¬ ((7 : Int32) < 0 ∨ clo16.slots.size ≤ ((7 : Int32)).toNatClampNeg) := inb_of So16 ⟨by decide, by decide⟩
  obtain ⟨T17, h17, X17, e17, W17, st17⟩ := stC X15 hx hZ e15 Aro16 (j := (7 : Int32)) hino16 (g := (mkF m 249 #[.val (.int p0), .val (.int p1), .val (.int kl), .val (.int ka), .val (.int kc), .val (.int qa), .val (.int qc), .val (.ref kx), .unset, .unset, .unset, .unset] [(.int (102 : Int32)), (.int (7 : Int32)), (.ref b1), (.ref b1)])) rfl rfl (hb hby at_249)
  have V17 : Arv Z h17 b1 k1 .char (22 : Int32) [(.int (nar .char (67 : Int32))), (.int (nar .char (97 : Int32))), (.int (nar .char (110 : Int32))), (.int (nar .char (110 : Int32))), (.int (nar .char (111 : Int32))), (.int (nar .char (116 : Int32))), (.int (nar .char (32 : Int32))), (.int (nar .char (102 : Int32))), (.int (0 : Int32)), (.int (0 : Int32)), (.int (0 : Int32)), (.int (0 : Int32)), (.int (0 : Int32)), (.int (0 : Int32)), (.int (0 : Int32)), (.int (0 : Int32)), (.int (0 : Int32)), (.int (0 : Int32)), (.int (0 : Int32)), (.int (0 : Int32)), (.int (0 : Int32)), (.int (0 : Int32))] (.int (0 : Int32)) := Arv.set Aro16 qo16 So16 No16 Ho16 Go16 (fits_nar_char _) W17 7 rfl (Nat.le_of_ble_eq_true rfl)
  have K17 := K15.wr W17 (Or.inr sz_b1)
  have N17 := Fr.snoc X17 N15 g_b1
  obtain ⟨clo18, Aro18, qo18, So18, No18, Ho18, Go18⟩ := id V17
  have hino18 : ¬ ((8 : Int32) < 0 ∨ clo18.slots.size ≤ ((8 : Int32)).toNatClampNeg) := inb_of So18 ⟨by decide, by decide⟩
  obtain ⟨T19, h19, X19, e19, W19, st19⟩ := stC X17 hx hZ e17 Aro18 (j := (8 : Int32)) hino18 (g := (mkF m 255 #[.val (.int p0), .val (.int p1), .val (.int kl), .val (.int ka), .val (.int kc), .val (.int qa), .val (.int qc), .val (.ref kx), .unset, .unset, .unset, .unset] [(.int (105 : Int32)), (.int (8 : Int32)), (.ref b1), (.ref b1)])) rfl rfl (hb hby at_255)
  have V19 : Arv Z h19 b1 k1 .char (22 : Int32) [(.int (nar .char (67 : Int32))), (.int (nar .char (97 : Int32))), (.int (nar .char (110 : Int32))), (.int (nar .char (110 : Int32))), (.int (nar .char (111 : Int32))), (.int (nar .char (116 : Int32))), (.int (nar .char (32 : Int32))), (.int (nar .char (102 : Int32))), (.int (nar .char (105 : Int32))), (.int (0 : Int32)), (.int (0 : Int32)), (.int (0 : Int32)), (.int (0 : Int32)), (.int (0 : Int32)), (.int (0 : Int32)), (.int (0 : Int32)), (.int (0 : Int32)), (.int (0 : Int32)), (.int (0 : Int32)), (.int (0 : Int32)), (.int (0 : Int32)), (.int (0 : Int32))] (.int (0 : Int32)) := Arv.set Aro18 qo18 So18 No18 Ho18 Go18 (fits_nar_char _) W19 8 rfl (Nat.le_of_ble_eq_true rfl)
  have K19 := K17.wr W19 (Or.inr sz_b1)
  have N19 := Fr.snoc X19 N17 g_b1
  obtain ⟨clo20, Aro20, qo20, So20, No20, Ho20, Go20⟩ := id V19
  have hino20 : ¬ ((9 : Int32) < 0 ∨ clo20.slots.size ≤ ((9 : Int32)).toNatClampNeg) := inb_of So20 ⟨by decide, by decide⟩
  obtain ⟨T21, h21, X21, e21, W21, st21⟩ := stC X19 hx hZ e19 Aro20 (j := (9 : Int32)) hino20 (g := (mkF m 261 #[.val (.int p0), .val (.int p1), .val (.int kl), .val (.int ka), .val (.int kc), .val (.int qa), .val (.int qc), .val (.ref kx), .unset, .unset, .unset, .unset] [(.int (108 : Int32)), (.int (9 : Int32)), (.ref b1), (.ref b1)])) rfl rfl (hb hby at_261)
  have V21 : Arv Z h21 b1 k1 .char (22 : Int32) [(.int (nar .char (67 : Int32))), (.int (nar .char (97 : Int32))), (.int (nar .char (110 : Int32))), (.int (nar .char (110 : Int32))), (.int (nar .char (111 : Int32))), (.int (nar .char (116 : Int32))), (.int (nar .char (32 : Int32))), (.int (nar .char (102 : Int32))), (.int (nar .char (105 : Int32))), (.int (nar .char (108 : Int32))), (.int (0 : Int32)), (.int (0 : Int32)), (.int (0 : Int32)), (.int (0 : Int32)), (.int (0 : Int32)), (.int (0 : Int32)), (.int (0 : Int32)), (.int (0 : Int32)), (.int (0 : Int32)), (.int (0 : Int32)), (.int (0 : Int32)), (.int (0 : Int32))] (.int (0 : Int32)) := Arv.set Aro20 qo20 So20 No20 Ho20 Go20 (fits_nar_char _) W21 9 rfl (Nat.le_of_ble_eq_true rfl)
  have K21 := K19.wr W21 (Or.inr sz_b1)
  have N21 := Fr.snoc X21 N19 g_b1
  obtain ⟨clo22, Aro22, qo22, So22, No22, Ho22, Go22⟩ := id V21
  have hino22 : ¬ ((10 : Int32) < 0 ∨ clo22.slots.size ≤ ((10 : Int32)).toNatClampNeg) := inb_of So22 ⟨by decide, by decide⟩
  obtain ⟨T23, h23, X23, e23, W23, st23⟩ := stC X21 hx hZ e21 Aro22 (j := (10 : Int32)) hino22 (g := (mkF m 267 #[.val (.int p0), .val (.int p1), .val (.int kl), .val (.int ka), .val (.int kc), .val (.int qa), .val (.int qc), .val (.ref kx), .unset, .unset, .unset, .unset] [(.int (116 : Int32)), (.int (10 : Int32)), (.ref b1), (.ref b1)])) rfl rfl (hb hby at_267)
  have V23 : Arv Z h23 b1 k1 .char (22 : Int32) [(.int (nar .char (67 : Int32))), (.int (nar .char (97 : Int32))), (.int (nar .char (110 : Int32))), (.int (nar .char (110 : Int32))), (.int (nar .char (111 : Int32))), (.int (nar .char (116 : Int32))), (.int (nar .char (32 : Int32))), (.int (nar .char (102 : Int32))), (.int (nar .char (105 : Int32))), (.int (nar .char (108 : Int32))), (.int (nar .char (116 : Int32))), (.int (0 : Int32)), (.int (0 : Int32)), (.int (0 : Int32)), (.int (0 : Int32)), (.int (0 : Int32)), (.int (0 : Int32)), (.int (0 : Int32)), (.int (0 : Int32)), (.int (0 : Int32)), (.int (0 : Int32)), (.int (0 : Int32))] (.int (0 : Int32)) := Arv.set Aro22 qo22 So22 No22 Ho22 Go22 (fits_nar_char _) W23 10 rfl (Nat.le_of_ble_eq_true rfl)
  have K23 := K21.wr W23 (Or.inr sz_b1)
  have N23 := Fr.snoc X23 N21 g_b1
  obtain ⟨clo24, Aro24, qo24, So24, No24, Ho24, Go24⟩ := id V23
  have hino24 : ¬ ((11 : Int32) < 0 ∨ clo24.slots.size ≤ ((11 : Int32)).toNatClampNeg) := inb_of So24 ⟨by decide, by decide⟩
  obtain ⟨T25, h25, X25, e25, W25, st25⟩ := stC X23 hx hZ e23 Aro24 (j := (11 : Int32)) hino24 (g := (mkF m 273 #[.val (.int p0), .val (.int p1), .val (.int kl), .val (.int ka), .val (.int kc), .val (.int qa), .val (.int qc), .val (.ref kx), .unset, .unset, .unset, .unset] [(.int (101 : Int32)), (.int (11 : Int32)), (.ref b1), (.ref b1)])) rfl rfl (hb hby at_273)
  have V25 : Arv Z h25 b1 k1 .char (22 : Int32) [(.int (nar .char (67 : Int32))), (.int (nar .char (97 : Int32))), (.int (nar .char (110 : Int32))), (.int (nar .char (110 : Int32))), (.int (nar .char (111 : Int32))), (.int (nar .char (116 : Int32))), (.int (nar .char (32 : Int32))), (.int (nar .char (102 : Int32))), (.int (nar .char (105 : Int32))), (.int (nar .char (108 : Int32))), (.int (nar .char (116 : Int32))), (.int (nar .char (101 : Int32))), (.int (0 : Int32)), (.int (0 : Int32)), (.int (0 : Int32)), (.int (0 : Int32)), (.int (0 : Int32)), (.int (0 : Int32)), (.int (0 : Int32)), (.int (0 : Int32)), (.int (0 : Int32)), (.int (0 : Int32))] (.int (0 : Int32)) := Arv.set Aro24 qo24 So24 No24 Ho24 Go24 (fits_nar_char _) W25 11 rfl (Nat.le_of_ble_eq_true rfl)
  have K25 := K23.wr W25 (Or.inr sz_b1)
  have N25 := Fr.snoc X25 N23 g_b1
  obtain ⟨clo26, Aro26, qo26, So26, No26, Ho26, Go26⟩ := id V25
  have hino26 : ¬ ((12 : Int32) < 0 ∨ clo26.slots.size ≤ ((12 : Int32)).toNatClampNeg) := inb_of So26 ⟨by decide, by decide⟩
  obtain ⟨T27, h27, X27, e27, W27, st27⟩ := stC X25 hx hZ e25 Aro26 (j := (12 : Int32)) hino26 (g := (mkF m 279 #[.val (.int p0), .val (.int p1), .val (.int kl), .val (.int ka), .val (.int kc), .val (.int qa), .val (.int qc), .val (.ref kx), .unset, .unset, .unset, .unset] [(.int (114 : Int32)), (.int (12 : Int32)), (.ref b1), (.ref b1)])) rfl rfl (hb hby at_279)
  have V27 : Arv Z h27 b1 k1 .char (22 : Int32) [(.int (nar .char (67 : Int32))), (.int (nar .char (97 : Int32))), (.int (nar .char (110 : Int32))), (.int (nar .char (110 : Int32))), (.int (nar .char (111 : Int32))), (.int (nar .char (116 : Int32))), (.int (nar .char (32 : Int32))), (.int (nar .char (102 : Int32))), (.int (nar .char (105 : Int32))), (.int (nar .char (108 : Int32))), (.int (nar .char (116 : Int32))), (.int (nar .char (101 : Int32))), (.int (nar .char (114 : Int32))), (.int (0 : Int32)), (.int (0 : Int32)), (.int (0 : Int32)), (.int (0 : Int32)), (.int (0 : Int32)), (.int (0 : Int32)), (.int (0 : Int32)), (.int (0 : Int32)), (.int (0 : Int32))] (.int (0 : Int32)) := Arv.set Aro26 qo26 So26 No26 Ho26 Go26 (fits_nar_char _) W27 12 rfl (Nat.le_of_ble_eq_true rfl)
  have K27 := K25.wr W27 (Or.inr sz_b1)
  have N27 := Fr.snoc X27 N25 g_b1
  obtain ⟨clo28, Aro28, qo28, So28, No28, Ho28, Go28⟩ := id V27
  have hino28 : ¬ ((13 : Int32) < 0 ∨ clo28.slots.size ≤ ((13 : Int32)).toNatClampNeg) := inb_of So28 ⟨by decide, by decide⟩
  obtain ⟨T29, h29, X29, e29, W29, st29⟩ := stC X27 hx hZ e27 Aro28 (j := (13 : Int32)) hino28 (g := (mkF m 285 #[.val (.int p0), .val (.int p1), .val (.int kl), .val (.int ka), .val (.int kc), .val (.int qa), .val (.int qc), .val (.ref kx), .unset, .unset, .unset, .unset] [(.int (32 : Int32)), (.int (13 : Int32)), (.ref b1), (.ref b1)])) rfl rfl (hb hby at_285)
  have V29 : Arv Z h29 b1 k1 .char (22 : Int32) [(.int (nar .char (67 : Int32))), (.int (nar .char (97 : Int32))), (.int (nar .char (110 : Int32))), (.int (nar .char (110 : Int32))), (.int (nar .char (111 : Int32))), (.int (nar .char (116 : Int32))), (.int (nar .char (32 : Int32))), (.int (nar .char (102 : Int32))), (.int (nar .char (105 : Int32))), (.int (nar .char (108 : Int32))), (.int (nar .char (116 : Int32))), (.int (nar .char (101 : Int32))), (.int (nar .char (114 : Int32))), (.int (nar .char (32 : Int32))), (.int (0 : Int32)), (.int (0 : Int32)), (.int (0 : Int32)), (.int (0 : Int32)), (.int (0 : Int32)), (.int (0 : Int32)), (.int (0 : Int32)), (.int (0 : Int32))] (.int (0 : Int32)) := Arv.set Aro28 qo28 So28 No28 Ho28 Go28 (fits_nar_char _) W29 13 rfl (Nat.le_of_ble_eq_true rfl)
  have K29 := K27.wr W29 (Or.inr sz_b1)
  have N29 := Fr.snoc X29 N27 g_b1
  obtain ⟨clo30, Aro30, qo30, So30, No30, Ho30, Go30⟩ := id V29
  have hino30 : ¬ ((14 : Int32) < 0 ∨ clo30.slots.size ≤ ((14 : Int32)).toNatClampNeg) := inb_of So30 ⟨by decide, by decide⟩
  obtain ⟨T31, h31, X31, e31, W31, st31⟩ := stC X29 hx hZ e29 Aro30 (j := (14 : Int32)) hino30 (g := (mkF m 291 #[.val (.int p0), .val (.int p1), .val (.int kl), .val (.int ka), .val (.int kc), .val (.int qa), .val (.int qc), .val (.ref kx), .unset, .unset, .unset, .unset] [(.int (98 : Int32)), (.int (14 : Int32)), (.ref b1), (.ref b1)])) rfl rfl (hb hby at_291)
  have V31 : Arv Z h31 b1 k1 .char (22 : Int32) [(.int (nar .char (67 : Int32))), (.int (nar .char (97 : Int32))), (.int (nar .char (110 : Int32))), (.int (nar .char (110 : Int32))), (.int (nar .char (111 : Int32))), (.int (nar .char (116 : Int32))), (.int (nar .char (32 : Int32))), (.int (nar .char (102 : Int32))), (.int (nar .char (105 : Int32))), (.int (nar .char (108 : Int32))), (.int (nar .char (116 : Int32))), (.int (nar .char (101 : Int32))), (.int (nar .char (114 : Int32))), (.int (nar .char (32 : Int32))), (.int (nar .char (98 : Int32))), (.int (0 : Int32)), (.int (0 : Int32)), (.int (0 : Int32)), (.int (0 : Int32)), (.int (0 : Int32)), (.int (0 : Int32)), (.int (0 : Int32))] (.int (0 : Int32)) := Arv.set Aro30 qo30 So30 No30 Ho30 Go30 (fits_nar_char _) W31 14 rfl (Nat.le_of_ble_eq_true rfl)
  have K31 := K29.wr W31 (Or.inr sz_b1)
  have N31 := Fr.snoc X31 N29 g_b1
  obtain ⟨clo32, Aro32, qo32, So32, No32, Ho32, Go32⟩ := id V31
  have hino32 : ¬ ((15 : Int32) < 0 ∨ clo32.slots.size ≤ ((15 : Int32)).toNatClampNeg) := inb_of So32 ⟨by decide, by decide⟩
  obtain ⟨T33, h33, X33, e33, W33, st33⟩ := stC X31 hx hZ e31 Aro32 (j := (15 : Int32)) hino32 (g := (mkF m 297 #[.val (.int p0), .val (.int p1), .val (.int kl), .val (.int ka), .val (.int kc), .val (.int qa), .val (.int qc), .val (.ref kx), .unset, .unset, .unset, .unset] [(.int (121 : Int32)), (.int (15 : Int32)), (.ref b1), (.ref b1)])) rfl rfl (hb hby at_297)
  have V33 : Arv Z h33 b1 k1 .char (22 : Int32) [(.int (nar .char (67 : Int32))), (.int (nar .char (97 : Int32))), (.int (nar .char (110 : Int32))), (.int (nar .char (110 : Int32))), (.int (nar .char (111 : Int32))), (.int (nar .char (116 : Int32))), (.int (nar .char (32 : Int32))), (.int (nar .char (102 : Int32))), (.int (nar .char (105 : Int32))), (.int (nar .char (108 : Int32))), (.int (nar .char (116 : Int32))), (.int (nar .char (101 : Int32))), (.int (nar .char (114 : Int32))), (.int (nar .char (32 : Int32))), (.int (nar .char (98 : Int32))), (.int (nar .char (121 : Int32))), (.int (0 : Int32)), (.int (0 : Int32)), (.int (0 : Int32)), (.int (0 : Int32)), (.int (0 : Int32)), (.int (0 : Int32))] (.int (0 : Int32)) := Arv.set Aro32 qo32 So32 No32 Ho32 Go32 (fits_nar_char _) W33 15 rfl (Nat.le_of_ble_eq_true rfl)
  have K33 := K31.wr W33 (Or.inr sz_b1)
  have N33 := Fr.snoc X33 N31 g_b1
  obtain ⟨clo34, Aro34, qo34, So34, No34, Ho34, Go34⟩ := id V33
  have hino34 : ¬ ((16 : Int32) < 0 ∨ clo34.slots.size ≤ ((16 : Int32)).toNatClampNeg) := inb_of So34 ⟨by decide, by decide⟩
  obtain ⟨T35, h35, X35, e35, W35, st35⟩ := stC X33 hx hZ e33 Aro34 (j := (16 : Int32)) hino34 (g := (mkF m 303 #[.val (.int p0), .val (.int p1), .val (.int kl), .val (.int ka), .val (.int kc), .val (.int qa), .val (.int qc), .val (.ref kx), .unset, .unset, .unset, .unset] [(.int (32 : Int32)), (.int (16 : Int32)), (.ref b1), (.ref b1)])) rfl rfl (hb hby at_303)
  have V35 : Arv Z h35 b1 k1 .char (22 : Int32) [(.int (nar .char (67 : Int32))), (.int (nar .char (97 : Int32))), (.int (nar .char (110 : Int32))), (.int (nar .char (110 : Int32))), (.int (nar .char (111 : Int32))), (.int (nar .char (116 : Int32))), (.int (nar .char (32 : Int32))), (.int (nar .char (102 : Int32))), (.int (nar .char (105 : Int32))), (.int (nar .char (108 : Int32))), (.int (nar .char (116 : Int32))), (.int (nar .char (101 : Int32))), (.int (nar .char (114 : Int32))), (.int (nar .char (32 : Int32))), (.int (nar .char (98 : Int32))), (.int (nar .char (121 : Int32))), (.int (nar .char (32 : Int32))), (.int (0 : Int32)), (.int (0 : Int32)), (.int (0 : Int32)), (.int (0 : Int32)), (.int (0 : Int32))] (.int (0 : Int32)) := Arv.set Aro34 qo34 So34 No34 Ho34 Go34 (fits_nar_char _) W35 16 rfl (Nat.le_of_ble_eq_true rfl)
  have K35 := K33.wr W35 (Or.inr sz_b1)
  have N35 := Fr.snoc X35 N33 g_b1
  obtain ⟨clo36, Aro36, qo36, So36, No36, Ho36, Go36⟩ := id V35
  have hino36 : ¬ ((17 : Int32) < 0 ∨ clo36.slots.size ≤ ((17 : Int32)).toNatClampNeg) := inb_of So36 ⟨by decide, by decide⟩
  obtain ⟨T37, h37, X37, e37, W37, st37⟩ := stC X35 hx hZ e35 Aro36 (j := (17 : Int32)) hino36 (g := (mkF m 308 #[.val (.int p0), .val (.int p1), .val (.int kl), .val (.int ka), .val (.int kc), .val (.int qa), .val (.int qc), .val (.ref kx), .unset, .unset, .unset, .unset] [(.int ka), (.int (17 : Int32)), (.ref b1), (.ref b1)])) rfl rfl (hb hby at_308)
  have V37 : Arv Z h37 b1 k1 .char (22 : Int32) [(.int (nar .char (67 : Int32))), (.int (nar .char (97 : Int32))), (.int (nar .char (110 : Int32))), (.int (nar .char (110 : Int32))), (.int (nar .char (111 : Int32))), (.int (nar .char (116 : Int32))), (.int (nar .char (32 : Int32))), (.int (nar .char (102 : Int32))), (.int (nar .char (105 : Int32))), (.int (nar .char (108 : Int32))), (.int (nar .char (116 : Int32))), (.int (nar .char (101 : Int32))), (.int (nar .char (114 : Int32))), (.int (nar .char (32 : Int32))), (.int (nar .char (98 : Int32))), (.int (nar .char (121 : Int32))), (.int (nar .char (32 : Int32))), (.int (nar .char ka)), (.int (0 : Int32)), (.int (0 : Int32)), (.int (0 : Int32)), (.int (0 : Int32))] (.int (0 : Int32)) := Arv.set Aro36 qo36 So36 No36 Ho36 Go36 (fits_nar_char _) W37 17 rfl (Nat.le_of_ble_eq_true rfl)
  have K37 := K35.wr W37 (Or.inr sz_b1)
  have N37 := Fr.snoc X37 N35 g_b1
  obtain ⟨clo38, Aro38, qo38, So38, No38, Ho38, Go38⟩ := id V37
  have hino38 : ¬ ((18 : Int32) < 0 ∨ clo38.slots.size ≤ ((18 : Int32)).toNatClampNeg) := inb_of So38 ⟨by decide, by decide⟩
  obtain ⟨T39, h39, X39, e39, W39, st39⟩ := stC X37 hx hZ e37 Aro38 (j := (18 : Int32)) hino38 (g := (mkF m 314 #[.val (.int p0), .val (.int p1), .val (.int kl), .val (.int ka), .val (.int kc), .val (.int qa), .val (.int qc), .val (.ref kx), .unset, .unset, .unset, .unset] [(.int (58 : Int32)), (.int (18 : Int32)), (.ref b1), (.ref b1)])) rfl rfl (hb hby at_314)
  have V39 : Arv Z h39 b1 k1 .char (22 : Int32) [(.int (nar .char (67 : Int32))), (.int (nar .char (97 : Int32))), (.int (nar .char (110 : Int32))), (.int (nar .char (110 : Int32))), (.int (nar .char (111 : Int32))), (.int (nar .char (116 : Int32))), (.int (nar .char (32 : Int32))), (.int (nar .char (102 : Int32))), (.int (nar .char (105 : Int32))), (.int (nar .char (108 : Int32))), (.int (nar .char (116 : Int32))), (.int (nar .char (101 : Int32))), (.int (nar .char (114 : Int32))), (.int (nar .char (32 : Int32))), (.int (nar .char (98 : Int32))), (.int (nar .char (121 : Int32))), (.int (nar .char (32 : Int32))), (.int (nar .char ka)), (.int (nar .char (58 : Int32))), (.int (0 : Int32)), (.int (0 : Int32)), (.int (0 : Int32))] (.int (0 : Int32)) := Arv.set Aro38 qo38 So38 No38 Ho38 Go38 (fits_nar_char _) W39 18 rfl (Nat.le_of_ble_eq_true rfl)
  have K39 := K37.wr W39 (Or.inr sz_b1)
  have N39 := Fr.snoc X39 N37 g_b1
  obtain ⟨clo40, Aro40, qo40, So40, No40, Ho40, Go40⟩ := id V39
  have hino40 : ¬ ((19 : Int32) < 0 ∨ clo40.slots.size ≤ ((19 : Int32)).toNatClampNeg) := inb_of So40 ⟨by decide, by decide⟩
  obtain ⟨T41, h41, X41, e41, W41, st41⟩ := stC X39 hx hZ e39 Aro40 (j := (19 : Int32)) hino40 (g := (mkF m 320 #[.val (.int p0), .val (.int p1), .val (.int kl), .val (.int ka), .val (.int kc), .val (.int qa), .val (.int qc), .val (.ref kx), .unset, .unset, .unset, .unset] [(.int (32 : Int32)), (.int (19 : Int32)), (.ref b1), (.ref b1)])) rfl rfl (hb hby at_320)
  have V41 : Arv Z h41 b1 k1 .char (22 : Int32) [(.int (nar .char (67 : Int32))), (.int (nar .char (97 : Int32))), (.int (nar .char (110 : Int32))), (.int (nar .char (110 : Int32))), (.int (nar .char (111 : Int32))), (.int (nar .char (116 : Int32))), (.int (nar .char (32 : Int32))), (.int (nar .char (102 : Int32))), (.int (nar .char (105 : Int32))), (.int (nar .char (108 : Int32))), (.int (nar .char (116 : Int32))), (.int (nar .char (101 : Int32))), (.int (nar .char (114 : Int32))), (.int (nar .char (32 : Int32))), (.int (nar .char (98 : Int32))), (.int (nar .char (121 : Int32))), (.int (nar .char (32 : Int32))), (.int (nar .char ka)), (.int (nar .char (58 : Int32))), (.int (nar .char (32 : Int32))), (.int (0 : Int32)), (.int (0 : Int32))] (.int (0 : Int32)) := Arv.set Aro40 qo40 So40 No40 Ho40 Go40 (fits_nar_char _) W41 19 rfl (Nat.le_of_ble_eq_true rfl)
  have K41 := K39.wr W41 (Or.inr sz_b1)
  have N41 := Fr.snoc X41 N39 g_b1
  obtain ⟨clo42, Aro42, qo42, So42, No42, Ho42, Go42⟩ := id V41
  have hino42 : ¬ ((20 : Int32) < 0 ∨ clo42.slots.size ≤ ((20 : Int32)).toNatClampNeg) := inb_of So42 ⟨by decide, by decide⟩
  obtain ⟨T43, h43, X43, e43, W43, st43⟩ := stC X41 hx hZ e41 Aro42 (j := (20 : Int32)) hino42 (g := (mkF m 326 #[.val (.int p0), .val (.int p1), .val (.int kl), .val (.int ka), .val (.int kc), .val (.int qa), .val (.int qc), .val (.ref kx), .unset, .unset, .unset, .unset] [(.int qa), (.int (20 : Int32)), (.ref b1), (.ref b1)])) rfl rfl (hb hby at_326)
  have V43 : Arv Z h43 b1 k1 .char (22 : Int32) [(.int (nar .char (67 : Int32))), (.int (nar .char (97 : Int32))), (.int (nar .char (110 : Int32))), (.int (nar .char (110 : Int32))), (.int (nar .char (111 : Int32))), (.int (nar .char (116 : Int32))), (.int (nar .char (32 : Int32))), (.int (nar .char (102 : Int32))), (.int (nar .char (105 : Int32))), (.int (nar .char (108 : Int32))), (.int (nar .char (116 : Int32))), (.int (nar .char (101 : Int32))), (.int (nar .char (114 : Int32))), (.int (nar .char (32 : Int32))), (.int (nar .char (98 : Int32))), (.int (nar .char (121 : Int32))), (.int (nar .char (32 : Int32))), (.int (nar .char ka)), (.int (nar .char (58 : Int32))), (.int (nar .char (32 : Int32))), (.int (nar .char qa)), (.int (0 : Int32))] (.int (0 : Int32)) := Arv.set Aro42 qo42 So42 No42 Ho42 Go42 (fits_nar_char _) W43 20 rfl (Nat.le_of_ble_eq_true rfl)
  have K43 := K41.wr W43 (Or.inr sz_b1)
  have N43 := Fr.snoc X43 N41 g_b1
  obtain ⟨clo44, Aro44, qo44, So44, No44, Ho44, Go44⟩ := id V43
  have hino44 : ¬ ((21 : Int32) < 0 ∨ clo44.slots.size ≤ ((21 : Int32)).toNatClampNeg) := inb_of So44 ⟨by decide, by decide⟩
  obtain ⟨T45, h45, X45, e45, W45, st45⟩ := stC X43 hx hZ e43 Aro44 (j := (21 : Int32)) hino44 (g := (mkF m 332 #[.val (.int p0), .val (.int p1), .val (.int kl), .val (.int ka), .val (.int kc), .val (.int qa), .val (.int qc), .val (.ref kx), .unset, .unset, .unset, .unset] [(.int qc), (.int (21 : Int32)), (.ref b1), (.ref b1)])) rfl rfl (hb hby at_332)
  have V45 : Arv Z h45 b1 k1 .char (22 : Int32) [(.int (nar .char (67 : Int32))), (.int (nar .char (97 : Int32))), (.int (nar .char (110 : Int32))), (.int (nar .char (110 : Int32))), (.int (nar .char (111 : Int32))), (.int (nar .char (116 : Int32))), (.int (nar .char (32 : Int32))), (.int (nar .char (102 : Int32))), (.int (nar .char (105 : Int32))), (.int (nar .char (108 : Int32))), (.int (nar .char (116 : Int32))), (.int (nar .char (101 : Int32))), (.int (nar .char (114 : Int32))), (.int (nar .char (32 : Int32))), (.int (nar .char (98 : Int32))), (.int (nar .char (121 : Int32))), (.int (nar .char (32 : Int32))), (.int (nar .char ka)), (.int (nar .char (58 : Int32))), (.int (nar .char (32 : Int32))), (.int (nar .char qa)), (.int (nar .char qc))] (.int (0 : Int32)) := Arv.set Aro44 qo44 So44 No44 Ho44 Go44 (fits_nar_char _) W45 21 rfl (Nat.le_of_ble_eq_true rfl)
  have K45 := K43.wr W45 (Or.inr sz_b1)
  have N45 := Fr.snoc X45 N43 g_b1
  have pre46 : ∀ t, Steps p.tables e below (T45.setTop (mkF m 496 #[.val (.int p0), .val (.int p1), .val (.int kl), .val (.int ka), .val (.int kc), .val (.int qa), .val (.int qc), .val (.ref kx), .val (.ref b1), .unset, .unset, .unset] [])) t → Steps p.tables e below (T0.setTop (mkF m 204 #[.val (.int p0), .val (.int p1), .val (.int kl), .val (.int ka), .val (.int kc), .val (.int qa), .val (.int qc), .val (.ref kx), .unset, .unset, .unset, .unset] [])) t := by
    intro t kt
    refine pre0 _ ?_
    show Steps p.tables e below (T0.setTop (mkF m 204 #[.val (.int p0), .val (.int p1), .val (.int kl), .val (.int ka), .val (.int kc), .val (.int qa), .val (.int qc), .val (.ref kx), .unset, .unset, .unset, .unset] [])) _
    refine XS.bipush X0.here hx rfl (hb hby at_204) ?_
    show Steps p.tables e below (T0.setTop (mkF m 206 #[.val (.int p0), .val (.int p1), .val (.int kl), .val (.int ka), .val (.int kc), .val (.int qa), .val (.int qc), .val (.ref kx), .unset, .unset, .unset, .unset] [(.int (22 : Int32))])) _
    refine st1 _ ?_
    show Steps p.tables e below (T1.setTop (mkF m 208 #[.val (.int p0), .val (.int p1), .val (.int kl), .val (.int ka), .val (.int kc), .val (.int qa), .val (.int qc), .val (.ref kx), .unset, .unset, .unset, .unset] [(.ref b1)])) _
    refine XS.dup X1.here hx rfl (hb hby at_208) rfl rfl ?_
    show Steps p.tables e below (T1.setTop (mkF m 209 #[.val (.int p0), .val (.int p1), .val (.int kl), .val (.int ka), .val (.int kc), .val (.int qa), .val (.int qc), .val (.ref kx), .unset, .unset, .unset, .unset] [(.ref b1), (.ref b1)])) _
    refine XS.iconst X1.here hx rfl (hb hby at_209) ?_
    show Steps p.tables e below (T1.setTop (mkF m 210 #[.val (.int p0), .val (.int p1), .val (.int kl), .val (.int ka), .val (.int kc), .val (.int qa), .val (.int qc), .val (.ref kx), .unset, .unset, .unset, .unset] [(.int (0 : Int32)), (.ref b1), (.ref b1)])) _
    refine XS.bipush X1.here hx rfl (hb hby at_210) ?_
    show Steps p.tables e below (T1.setTop (mkF m 212 #[.val (.int p0), .val (.int p1), .val (.int kl), .val (.int ka), .val (.int kc), .val (.int qa), .val (.int qc), .val (.ref kx), .unset, .unset, .unset, .unset] [(.int (67 : Int32)), (.int (0 : Int32)), (.ref b1), (.ref b1)])) _
    refine st3 _ ?_
    show Steps p.tables e below (T3.setTop (mkF m 213 #[.val (.int p0), .val (.int p1), .val (.int kl), .val (.int ka), .val (.int kc), .val (.int qa), .val (.int qc), .val (.ref kx), .unset, .unset, .unset, .unset] [(.ref b1)])) _
    refine XS.dup X3.here hx rfl (hb hby at_213) rfl rfl ?_
    show Steps p.tables e below (T3.setTop (mkF m 214 #[.val (.int p0), .val (.int p1), .val (.int kl), .val (.int ka), .val (.int kc), .val (.int qa), .val (.int qc), .val (.ref kx), .unset, .unset, .unset, .unset] [(.ref b1), (.ref b1)])) _
    refine XS.iconst X3.here hx rfl (hb hby at_214) ?_
    show Steps p.tables e below (T3.setTop (mkF m 215 #[.val (.int p0), .val (.int p1), .val (.int kl), .val (.int ka), .val (.int kc), .val (.int qa), .val (.int qc), .val (.ref kx), .unset, .unset, .unset, .unset] [(.int (1 : Int32)), (.ref b1), (.ref b1)])) _
    refine XS.bipush X3.here hx rfl (hb hby at_215) ?_
    show Steps p.tables e below (T3.setTop (mkF m 217 #[.val (.int p0), .val (.int p1), .val (.int kl), .val (.int ka), .val (.int kc), .val (.int qa), .val (.int qc), .val (.ref kx), .unset, .unset, .unset, .unset] [(.int (97 : Int32)), (.int (1 : Int32)), (.ref b1), (.ref b1)])) _
    refine st5 _ ?_
    show Steps p.tables e below (T5.setTop (mkF m 218 #[.val (.int p0), .val (.int p1), .val (.int kl), .val (.int ka), .val (.int kc), .val (.int qa), .val (.int qc), .val (.ref kx), .unset, .unset, .unset, .unset] [(.ref b1)])) _
    refine XS.dup X5.here hx rfl (hb hby at_218) rfl rfl ?_
    show Steps p.tables e below (T5.setTop (mkF m 219 #[.val (.int p0), .val (.int p1), .val (.int kl), .val (.int ka), .val (.int kc), .val (.int qa), .val (.int qc), .val (.ref kx), .unset, .unset, .unset, .unset] [(.ref b1), (.ref b1)])) _
    refine XS.iconst X5.here hx rfl (hb hby at_219) ?_
    show Steps p.tables e below (T5.setTop (mkF m 220 #[.val (.int p0), .val (.int p1), .val (.int kl), .val (.int ka), .val (.int kc), .val (.int qa), .val (.int qc), .val (.ref kx), .unset, .unset, .unset, .unset] [(.int (2 : Int32)), (.ref b1), (.ref b1)])) _
    refine XS.bipush X5.here hx rfl (hb hby at_220) ?_
    show Steps p.tables e below (T5.setTop (mkF m 222 #[.val (.int p0), .val (.int p1), .val (.int kl), .val (.int ka), .val (.int kc), .val (.int qa), .val (.int qc), .val (.ref kx), .unset, .unset, .unset, .unset] [(.int (110 : Int32)), (.int (2 : Int32)), (.ref b1), (.ref b1)])) _
    refine st7 _ ?_
    show Steps p.tables e below (T7.setTop (mkF m 223 #[.val (.int p0), .val (.int p1), .val (.int kl), .val (.int ka), .val (.int kc), .val (.int qa), .val (.int qc), .val (.ref kx), .unset, .unset, .unset, .unset] [(.ref b1)])) _
    refine XS.dup X7.here hx rfl (hb hby at_223) rfl rfl ?_
    show Steps p.tables e below (T7.setTop (mkF m 224 #[.val (.int p0), .val (.int p1), .val (.int kl), .val (.int ka), .val (.int kc), .val (.int qa), .val (.int qc), .val (.ref kx), .unset, .unset, .unset, .unset] [(.ref b1), (.ref b1)])) _
    refine XS.iconst X7.here hx rfl (hb hby at_224) ?_
    show Steps p.tables e below (T7.setTop (mkF m 225 #[.val (.int p0), .val (.int p1), .val (.int kl), .val (.int ka), .val (.int kc), .val (.int qa), .val (.int qc), .val (.ref kx), .unset, .unset, .unset, .unset] [(.int (3 : Int32)), (.ref b1), (.ref b1)])) _
    refine XS.bipush X7.here hx rfl (hb hby at_225) ?_
    show Steps p.tables e below (T7.setTop (mkF m 227 #[.val (.int p0), .val (.int p1), .val (.int kl), .val (.int ka), .val (.int kc), .val (.int qa), .val (.int qc), .val (.ref kx), .unset, .unset, .unset, .unset] [(.int (110 : Int32)), (.int (3 : Int32)), (.ref b1), (.ref b1)])) _
    refine st9 _ ?_
    show Steps p.tables e below (T9.setTop (mkF m 228 #[.val (.int p0), .val (.int p1), .val (.int kl), .val (.int ka), .val (.int kc), .val (.int qa), .val (.int qc), .val (.ref kx), .unset, .unset, .unset, .unset] [(.ref b1)])) _
    refine XS.dup X9.here hx rfl (hb hby at_228) rfl rfl ?_
    show Steps p.tables e below (T9.setTop (mkF m 229 #[.val (.int p0), .val (.int p1), .val (.int kl), .val (.int ka), .val (.int kc), .val (.int qa), .val (.int qc), .val (.ref kx), .unset, .unset, .unset, .unset] [(.ref b1), (.ref b1)])) _
    refine XS.iconst X9.here hx rfl (hb hby at_229) ?_
    show Steps p.tables e below (T9.setTop (mkF m 230 #[.val (.int p0), .val (.int p1), .val (.int kl), .val (.int ka), .val (.int kc), .val (.int qa), .val (.int qc), .val (.ref kx), .unset, .unset, .unset, .unset] [(.int (4 : Int32)), (.ref b1), (.ref b1)])) _
    refine XS.bipush X9.here hx rfl (hb hby at_230) ?_
    show Steps p.tables e below (T9.setTop (mkF m 232 #[.val (.int p0), .val (.int p1), .val (.int kl), .val (.int ka), .val (.int kc), .val (.int qa), .val (.int qc), .val (.ref kx), .unset, .unset, .unset, .unset] [(.int (111 : Int32)), (.int (4 : Int32)), (.ref b1), (.ref b1)])) _
    refine st11 _ ?_
    show Steps p.tables e below (T11.setTop (mkF m 233 #[.val (.int p0), .val (.int p1), .val (.int kl), .val (.int ka), .val (.int kc), .val (.int qa), .val (.int qc), .val (.ref kx), .unset, .unset, .unset, .unset] [(.ref b1)])) _
    refine XS.dup X11.here hx rfl (hb hby at_233) rfl rfl ?_
    show Steps p.tables e below (T11.setTop (mkF m 234 #[.val (.int p0), .val (.int p1), .val (.int kl), .val (.int ka), .val (.int kc), .val (.int qa), .val (.int qc), .val (.ref kx), .unset, .unset, .unset, .unset] [(.ref b1), (.ref b1)])) _
    refine XS.iconst X11.here hx rfl (hb hby at_234) ?_
    show Steps p.tables e below (T11.setTop (mkF m 235 #[.val (.int p0), .val (.int p1), .val (.int kl), .val (.int ka), .val (.int kc), .val (.int qa), .val (.int qc), .val (.ref kx), .unset, .unset, .unset, .unset] [(.int (5 : Int32)), (.ref b1), (.ref b1)])) _
    refine XS.bipush X11.here hx rfl (hb hby at_235) ?_
    show Steps p.tables e below (T11.setTop (mkF m 237 #[.val (.int p0), .val (.int p1), .val (.int kl), .val (.int ka), .val (.int kc), .val (.int qa), .val (.int qc), .val (.ref kx), .unset, .unset, .unset, .unset] [(.int (116 : Int32)), (.int (5 : Int32)), (.ref b1), (.ref b1)])) _
    refine st13 _ ?_
    show Steps p.tables e below (T13.setTop (mkF m 238 #[.val (.int p0), .val (.int p1), .val (.int kl), .val (.int ka), .val (.int kc), .val (.int qa), .val (.int qc), .val (.ref kx), .unset, .unset, .unset, .unset] [(.ref b1)])) _
    refine XS.dup X13.here hx rfl (hb hby at_238) rfl rfl ?_
    show Steps p.tables e below (T13.setTop (mkF m 239 #[.val (.int p0), .val (.int p1), .val (.int kl), .val (.int ka), .val (.int kc), .val (.int qa), .val (.int qc), .val (.ref kx), .unset, .unset, .unset, .unset] [(.ref b1), (.ref b1)])) _
    refine XS.bipush X13.here hx rfl (hb hby at_239) ?_
    show Steps p.tables e below (T13.setTop (mkF m 241 #[.val (.int p0), .val (.int p1), .val (.int kl), .val (.int ka), .val (.int kc), .val (.int qa), .val (.int qc), .val (.ref kx), .unset, .unset, .unset, .unset] [(.int (6 : Int32)), (.ref b1), (.ref b1)])) _
    refine XS.bipush X13.here hx rfl (hb hby at_241) ?_
    show Steps p.tables e below (T13.setTop (mkF m 243 #[.val (.int p0), .val (.int p1), .val (.int kl), .val (.int ka), .val (.int kc), .val (.int qa), .val (.int qc), .val (.ref kx), .unset, .unset, .unset, .unset] [(.int (32 : Int32)), (.int (6 : Int32)), (.ref b1), (.ref b1)])) _
    refine st15 _ ?_
    show Steps p.tables e below (T15.setTop (mkF m 244 #[.val (.int p0), .val (.int p1), .val (.int kl), .val (.int ka), .val (.int kc), .val (.int qa), .val (.int qc), .val (.ref kx), .unset, .unset, .unset, .unset] [(.ref b1)])) _
    refine XS.dup X15.here hx rfl (hb hby at_244) rfl rfl ?_
    show Steps p.tables e below (T15.setTop (mkF m 245 #[.val (.int p0), .val (.int p1), .val (.int kl), .val (.int ka), .val (.int kc), .val (.int qa), .val (.int qc), .val (.ref kx), .unset, .unset, .unset, .unset] [(.ref b1), (.ref b1)])) _
    refine XS.bipush X15.here hx rfl (hb hby at_245) ?_
    show Steps p.tables e below (T15.setTop (mkF m 247 #[.val (.int p0), .val (.int p1), .val (.int kl), .val (.int ka), .val (.int kc), .val (.int qa), .val (.int qc), .val (.ref kx), .unset, .unset, .unset, .unset] [(.int (7 : Int32)), (.ref b1), (.ref b1)])) _
    refine XS.bipush X15.here hx rfl (hb hby at_247) ?_
    show Steps p.tables e below (T15.setTop (mkF m 249 #[.val (.int p0), .val (.int p1), .val (.int kl), .val (.int ka), .val (.int kc), .val (.int qa), .val (.int qc), .val (.ref kx), .unset, .unset, .unset, .unset] [(.int (102 : Int32)), (.int (7 : Int32)), (.ref b1), (.ref b1)])) _
    refine st17 _ ?_
    show Steps p.tables e below (T17.setTop (mkF m 250 #[.val (.int p0), .val (.int p1), .val (.int kl), .val (.int ka), .val (.int kc), .val (.int qa), .val (.int qc), .val (.ref kx), .unset, .unset, .unset, .unset] [(.ref b1)])) _
    refine XS.dup X17.here hx rfl (hb hby at_250) rfl rfl ?_
    show Steps p.tables e below (T17.setTop (mkF m 251 #[.val (.int p0), .val (.int p1), .val (.int kl), .val (.int ka), .val (.int kc), .val (.int qa), .val (.int qc), .val (.ref kx), .unset, .unset, .unset, .unset] [(.ref b1), (.ref b1)])) _
    refine XS.bipush X17.here hx rfl (hb hby at_251) ?_
    show Steps p.tables e below (T17.setTop (mkF m 253 #[.val (.int p0), .val (.int p1), .val (.int kl), .val (.int ka), .val (.int kc), .val (.int qa), .val (.int qc), .val (.ref kx), .unset, .unset, .unset, .unset] [(.int (8 : Int32)), (.ref b1), (.ref b1)])) _
    refine XS.bipush X17.here hx rfl (hb hby at_253) ?_
    show Steps p.tables e below (T17.setTop (mkF m 255 #[.val (.int p0), .val (.int p1), .val (.int kl), .val (.int ka), .val (.int kc), .val (.int qa), .val (.int qc), .val (.ref kx), .unset, .unset, .unset, .unset] [(.int (105 : Int32)), (.int (8 : Int32)), (.ref b1), (.ref b1)])) _
    refine st19 _ ?_
    show Steps p.tables e below (T19.setTop (mkF m 256 #[.val (.int p0), .val (.int p1), .val (.int kl), .val (.int ka), .val (.int kc), .val (.int qa), .val (.int qc), .val (.ref kx), .unset, .unset, .unset, .unset] [(.ref b1)])) _
    refine XS.dup X19.here hx rfl (hb hby at_256) rfl rfl ?_
    show Steps p.tables e below (T19.setTop (mkF m 257 #[.val (.int p0), .val (.int p1), .val (.int kl), .val (.int ka), .val (.int kc), .val (.int qa), .val (.int qc), .val (.ref kx), .unset, .unset, .unset, .unset] [(.ref b1), (.ref b1)])) _
    refine XS.bipush X19.here hx rfl (hb hby at_257) ?_
    show Steps p.tables e below (T19.setTop (mkF m 259 #[.val (.int p0), .val (.int p1), .val (.int kl), .val (.int ka), .val (.int kc), .val (.int qa), .val (.int qc), .val (.ref kx), .unset, .unset, .unset, .unset] [(.int (9 : Int32)), (.ref b1), (.ref b1)])) _
    refine XS.bipush X19.here hx rfl (hb hby at_259) ?_
    show Steps p.tables e below (T19.setTop (mkF m 261 #[.val (.int p0), .val (.int p1), .val (.int kl), .val (.int ka), .val (.int kc), .val (.int qa), .val (.int qc), .val (.ref kx), .unset, .unset, .unset, .unset] [(.int (108 : Int32)), (.int (9 : Int32)), (.ref b1), (.ref b1)])) _
    refine st21 _ ?_
    show Steps p.tables e below (T21.setTop (mkF m 262 #[.val (.int p0), .val (.int p1), .val (.int kl), .val (.int ka), .val (.int kc), .val (.int qa), .val (.int qc), .val (.ref kx), .unset, .unset, .unset, .unset] [(.ref b1)])) _
    refine XS.dup X21.here hx rfl (hb hby at_262) rfl rfl ?_
    show Steps p.tables e below (T21.setTop (mkF m 263 #[.val (.int p0), .val (.int p1), .val (.int kl), .val (.int ka), .val (.int kc), .val (.int qa), .val (.int qc), .val (.ref kx), .unset, .unset, .unset, .unset] [(.ref b1), (.ref b1)])) _
    refine XS.bipush X21.here hx rfl (hb hby at_263) ?_
    show Steps p.tables e below (T21.setTop (mkF m 265 #[.val (.int p0), .val (.int p1), .val (.int kl), .val (.int ka), .val (.int kc), .val (.int qa), .val (.int qc), .val (.ref kx), .unset, .unset, .unset, .unset] [(.int (10 : Int32)), (.ref b1), (.ref b1)])) _
    refine XS.bipush X21.here hx rfl (hb hby at_265) ?_
    show Steps p.tables e below (T21.setTop (mkF m 267 #[.val (.int p0), .val (.int p1), .val (.int kl), .val (.int ka), .val (.int kc), .val (.int qa), .val (.int qc), .val (.ref kx), .unset, .unset, .unset, .unset] [(.int (116 : Int32)), (.int (10 : Int32)), (.ref b1), (.ref b1)])) _
    refine st23 _ ?_
    show Steps p.tables e below (T23.setTop (mkF m 268 #[.val (.int p0), .val (.int p1), .val (.int kl), .val (.int ka), .val (.int kc), .val (.int qa), .val (.int qc), .val (.ref kx), .unset, .unset, .unset, .unset] [(.ref b1)])) _
    refine XS.dup X23.here hx rfl (hb hby at_268) rfl rfl ?_
    show Steps p.tables e below (T23.setTop (mkF m 269 #[.val (.int p0), .val (.int p1), .val (.int kl), .val (.int ka), .val (.int kc), .val (.int qa), .val (.int qc), .val (.ref kx), .unset, .unset, .unset, .unset] [(.ref b1), (.ref b1)])) _
    refine XS.bipush X23.here hx rfl (hb hby at_269) ?_
    show Steps p.tables e below (T23.setTop (mkF m 271 #[.val (.int p0), .val (.int p1), .val (.int kl), .val (.int ka), .val (.int kc), .val (.int qa), .val (.int qc), .val (.ref kx), .unset, .unset, .unset, .unset] [(.int (11 : Int32)), (.ref b1), (.ref b1)])) _
    refine XS.bipush X23.here hx rfl (hb hby at_271) ?_
    show Steps p.tables e below (T23.setTop (mkF m 273 #[.val (.int p0), .val (.int p1), .val (.int kl), .val (.int ka), .val (.int kc), .val (.int qa), .val (.int qc), .val (.ref kx), .unset, .unset, .unset, .unset] [(.int (101 : Int32)), (.int (11 : Int32)), (.ref b1), (.ref b1)])) _
    refine st25 _ ?_
    show Steps p.tables e below (T25.setTop (mkF m 274 #[.val (.int p0), .val (.int p1), .val (.int kl), .val (.int ka), .val (.int kc), .val (.int qa), .val (.int qc), .val (.ref kx), .unset, .unset, .unset, .unset] [(.ref b1)])) _
    refine XS.dup X25.here hx rfl (hb hby at_274) rfl rfl ?_
    show Steps p.tables e below (T25.setTop (mkF m 275 #[.val (.int p0), .val (.int p1), .val (.int kl), .val (.int ka), .val (.int kc), .val (.int qa), .val (.int qc), .val (.ref kx), .unset, .unset, .unset, .unset] [(.ref b1), (.ref b1)])) _
    refine XS.bipush X25.here hx rfl (hb hby at_275) ?_
    show Steps p.tables e below (T25.setTop (mkF m 277 #[.val (.int p0), .val (.int p1), .val (.int kl), .val (.int ka), .val (.int kc), .val (.int qa), .val (.int qc), .val (.ref kx), .unset, .unset, .unset, .unset] [(.int (12 : Int32)), (.ref b1), (.ref b1)])) _
    refine XS.bipush X25.here hx rfl (hb hby at_277) ?_
    show Steps p.tables e below (T25.setTop (mkF m 279 #[.val (.int p0), .val (.int p1), .val (.int kl), .val (.int ka), .val (.int kc), .val (.int qa), .val (.int qc), .val (.ref kx), .unset, .unset, .unset, .unset] [(.int (114 : Int32)), (.int (12 : Int32)), (.ref b1), (.ref b1)])) _
    refine st27 _ ?_
    show Steps p.tables e below (T27.setTop (mkF m 280 #[.val (.int p0), .val (.int p1), .val (.int kl), .val (.int ka), .val (.int kc), .val (.int qa), .val (.int qc), .val (.ref kx), .unset, .unset, .unset, .unset] [(.ref b1)])) _
    refine XS.dup X27.here hx rfl (hb hby at_280) rfl rfl ?_
    show Steps p.tables e below (T27.setTop (mkF m 281 #[.val (.int p0), .val (.int p1), .val (.int kl), .val (.int ka), .val (.int kc), .val (.int qa), .val (.int qc), .val (.ref kx), .unset, .unset, .unset, .unset] [(.ref b1), (.ref b1)])) _
    refine XS.bipush X27.here hx rfl (hb hby at_281) ?_
    show Steps p.tables e below (T27.setTop (mkF m 283 #[.val (.int p0), .val (.int p1), .val (.int kl), .val (.int ka), .val (.int kc), .val (.int qa), .val (.int qc), .val (.ref kx), .unset, .unset, .unset, .unset] [(.int (13 : Int32)), (.ref b1), (.ref b1)])) _
    refine XS.bipush X27.here hx rfl (hb hby at_283) ?_
    show Steps p.tables e below (T27.setTop (mkF m 285 #[.val (.int p0), .val (.int p1), .val (.int kl), .val (.int ka), .val (.int kc), .val (.int qa), .val (.int qc), .val (.ref kx), .unset, .unset, .unset, .unset] [(.int (32 : Int32)), (.int (13 : Int32)), (.ref b1), (.ref b1)])) _
    refine st29 _ ?_
    show Steps p.tables e below (T29.setTop (mkF m 286 #[.val (.int p0), .val (.int p1), .val (.int kl), .val (.int ka), .val (.int kc), .val (.int qa), .val (.int qc), .val (.ref kx), .unset, .unset, .unset, .unset] [(.ref b1)])) _
    refine XS.dup X29.here hx rfl (hb hby at_286) rfl rfl ?_
    show Steps p.tables e below (T29.setTop (mkF m 287 #[.val (.int p0), .val (.int p1), .val (.int kl), .val (.int ka), .val (.int kc), .val (.int qa), .val (.int qc), .val (.ref kx), .unset, .unset, .unset, .unset] [(.ref b1), (.ref b1)])) _
    refine XS.bipush X29.here hx rfl (hb hby at_287) ?_
    show Steps p.tables e below (T29.setTop (mkF m 289 #[.val (.int p0), .val (.int p1), .val (.int kl), .val (.int ka), .val (.int kc), .val (.int qa), .val (.int qc), .val (.ref kx), .unset, .unset, .unset, .unset] [(.int (14 : Int32)), (.ref b1), (.ref b1)])) _
    refine XS.bipush X29.here hx rfl (hb hby at_289) ?_
    show Steps p.tables e below (T29.setTop (mkF m 291 #[.val (.int p0), .val (.int p1), .val (.int kl), .val (.int ka), .val (.int kc), .val (.int qa), .val (.int qc), .val (.ref kx), .unset, .unset, .unset, .unset] [(.int (98 : Int32)), (.int (14 : Int32)), (.ref b1), (.ref b1)])) _
    refine st31 _ ?_
    show Steps p.tables e below (T31.setTop (mkF m 292 #[.val (.int p0), .val (.int p1), .val (.int kl), .val (.int ka), .val (.int kc), .val (.int qa), .val (.int qc), .val (.ref kx), .unset, .unset, .unset, .unset] [(.ref b1)])) _
    refine XS.dup X31.here hx rfl (hb hby at_292) rfl rfl ?_
    show Steps p.tables e below (T31.setTop (mkF m 293 #[.val (.int p0), .val (.int p1), .val (.int kl), .val (.int ka), .val (.int kc), .val (.int qa), .val (.int qc), .val (.ref kx), .unset, .unset, .unset, .unset] [(.ref b1), (.ref b1)])) _
    refine XS.bipush X31.here hx rfl (hb hby at_293) ?_
    show Steps p.tables e below (T31.setTop (mkF m 295 #[.val (.int p0), .val (.int p1), .val (.int kl), .val (.int ka), .val (.int kc), .val (.int qa), .val (.int qc), .val (.ref kx), .unset, .unset, .unset, .unset] [(.int (15 : Int32)), (.ref b1), (.ref b1)])) _
    refine XS.bipush X31.here hx rfl (hb hby at_295) ?_
    show Steps p.tables e below (T31.setTop (mkF m 297 #[.val (.int p0), .val (.int p1), .val (.int kl), .val (.int ka), .val (.int kc), .val (.int qa), .val (.int qc), .val (.ref kx), .unset, .unset, .unset, .unset] [(.int (121 : Int32)), (.int (15 : Int32)), (.ref b1), (.ref b1)])) _
    refine st33 _ ?_
    show Steps p.tables e below (T33.setTop (mkF m 298 #[.val (.int p0), .val (.int p1), .val (.int kl), .val (.int ka), .val (.int kc), .val (.int qa), .val (.int qc), .val (.ref kx), .unset, .unset, .unset, .unset] [(.ref b1)])) _
    refine XS.dup X33.here hx rfl (hb hby at_298) rfl rfl ?_
    show Steps p.tables e below (T33.setTop (mkF m 299 #[.val (.int p0), .val (.int p1), .val (.int kl), .val (.int ka), .val (.int kc), .val (.int qa), .val (.int qc), .val (.ref kx), .unset, .unset, .unset, .unset] [(.ref b1), (.ref b1)])) _
    refine XS.bipush X33.here hx rfl (hb hby at_299) ?_
    show Steps p.tables e below (T33.setTop (mkF m 301 #[.val (.int p0), .val (.int p1), .val (.int kl), .val (.int ka), .val (.int kc), .val (.int qa), .val (.int qc), .val (.ref kx), .unset, .unset, .unset, .unset] [(.int (16 : Int32)), (.ref b1), (.ref b1)])) _
    refine XS.bipush X33.here hx rfl (hb hby at_301) ?_
    show Steps p.tables e below (T33.setTop (mkF m 303 #[.val (.int p0), .val (.int p1), .val (.int kl), .val (.int ka), .val (.int kc), .val (.int qa), .val (.int qc), .val (.ref kx), .unset, .unset, .unset, .unset] [(.int (32 : Int32)), (.int (16 : Int32)), (.ref b1), (.ref b1)])) _
    refine st35 _ ?_
    show Steps p.tables e below (T35.setTop (mkF m 304 #[.val (.int p0), .val (.int p1), .val (.int kl), .val (.int ka), .val (.int kc), .val (.int qa), .val (.int qc), .val (.ref kx), .unset, .unset, .unset, .unset] [(.ref b1)])) _
    refine XS.dup X35.here hx rfl (hb hby at_304) rfl rfl ?_
    show Steps p.tables e below (T35.setTop (mkF m 305 #[.val (.int p0), .val (.int p1), .val (.int kl), .val (.int ka), .val (.int kc), .val (.int qa), .val (.int qc), .val (.ref kx), .unset, .unset, .unset, .unset] [(.ref b1), (.ref b1)])) _
    refine XS.bipush X35.here hx rfl (hb hby at_305) ?_
    show Steps p.tables e below (T35.setTop (mkF m 307 #[.val (.int p0), .val (.int p1), .val (.int kl), .val (.int ka), .val (.int kc), .val (.int qa), .val (.int qc), .val (.ref kx), .unset, .unset, .unset, .unset] [(.int (17 : Int32)), (.ref b1), (.ref b1)])) _
    refine XS.iloadN X35.here hx rfl (hb hby at_307) rfl ?_
    show Steps p.tables e below (T35.setTop (mkF m 308 #[.val (.int p0), .val (.int p1), .val (.int kl), .val (.int ka), .val (.int kc), .val (.int qa), .val (.int qc), .val (.ref kx), .unset, .unset, .unset, .unset] [(.int ka), (.int (17 : Int32)), (.ref b1), (.ref b1)])) _
    refine st37 _ ?_
    show Steps p.tables e below (T37.setTop (mkF m 309 #[.val (.int p0), .val (.int p1), .val (.int kl), .val (.int ka), .val (.int kc), .val (.int qa), .val (.int qc), .val (.ref kx), .unset, .unset, .unset, .unset] [(.ref b1)])) _
    refine XS.dup X37.here hx rfl (hb hby at_309) rfl rfl ?_
    show Steps p.tables e below (T37.setTop (mkF m 310 #[.val (.int p0), .val (.int p1), .val (.int kl), .val (.int ka), .val (.int kc), .val (.int qa), .val (.int qc), .val (.ref kx), .unset, .unset, .unset, .unset] [(.ref b1), (.ref b1)])) _
    refine XS.bipush X37.here hx rfl (hb hby at_310) ?_
    show Steps p.tables e below (T37.setTop (mkF m 312 #[.val (.int p0), .val (.int p1), .val (.int kl), .val (.int ka), .val (.int kc), .val (.int qa), .val (.int qc), .val (.ref kx), .unset, .unset, .unset, .unset] [(.int (18 : Int32)), (.ref b1), (.ref b1)])) _
    refine XS.bipush X37.here hx rfl (hb hby at_312) ?_
    show Steps p.tables e below (T37.setTop (mkF m 314 #[.val (.int p0), .val (.int p1), .val (.int kl), .val (.int ka), .val (.int kc), .val (.int qa), .val (.int qc), .val (.ref kx), .unset, .unset, .unset, .unset] [(.int (58 : Int32)), (.int (18 : Int32)), (.ref b1), (.ref b1)])) _
    refine st39 _ ?_
    show Steps p.tables e below (T39.setTop (mkF m 315 #[.val (.int p0), .val (.int p1), .val (.int kl), .val (.int ka), .val (.int kc), .val (.int qa), .val (.int qc), .val (.ref kx), .unset, .unset, .unset, .unset] [(.ref b1)])) _
    refine XS.dup X39.here hx rfl (hb hby at_315) rfl rfl ?_
    show Steps p.tables e below (T39.setTop (mkF m 316 #[.val (.int p0), .val (.int p1), .val (.int kl), .val (.int ka), .val (.int kc), .val (.int qa), .val (.int qc), .val (.ref kx), .unset, .unset, .unset, .unset] [(.ref b1), (.ref b1)])) _
    refine XS.bipush X39.here hx rfl (hb hby at_316) ?_
    show Steps p.tables e below (T39.setTop (mkF m 318 #[.val (.int p0), .val (.int p1), .val (.int kl), .val (.int ka), .val (.int kc), .val (.int qa), .val (.int qc), .val (.ref kx), .unset, .unset, .unset, .unset] [(.int (19 : Int32)), (.ref b1), (.ref b1)])) _
    refine XS.bipush X39.here hx rfl (hb hby at_318) ?_
    show Steps p.tables e below (T39.setTop (mkF m 320 #[.val (.int p0), .val (.int p1), .val (.int kl), .val (.int ka), .val (.int kc), .val (.int qa), .val (.int qc), .val (.ref kx), .unset, .unset, .unset, .unset] [(.int (32 : Int32)), (.int (19 : Int32)), (.ref b1), (.ref b1)])) _
    refine st41 _ ?_
    show Steps p.tables e below (T41.setTop (mkF m 321 #[.val (.int p0), .val (.int p1), .val (.int kl), .val (.int ka), .val (.int kc), .val (.int qa), .val (.int qc), .val (.ref kx), .unset, .unset, .unset, .unset] [(.ref b1)])) _
    refine XS.dup X41.here hx rfl (hb hby at_321) rfl rfl ?_
    show Steps p.tables e below (T41.setTop (mkF m 322 #[.val (.int p0), .val (.int p1), .val (.int kl), .val (.int ka), .val (.int kc), .val (.int qa), .val (.int qc), .val (.ref kx), .unset, .unset, .unset, .unset] [(.ref b1), (.ref b1)])) _
    refine XS.bipush X41.here hx rfl (hb hby at_322) ?_
    show Steps p.tables e below (T41.setTop (mkF m 324 #[.val (.int p0), .val (.int p1), .val (.int kl), .val (.int ka), .val (.int kc), .val (.int qa), .val (.int qc), .val (.ref kx), .unset, .unset, .unset, .unset] [(.int (20 : Int32)), (.ref b1), (.ref b1)])) _
    refine XS.iload X41.here hx rfl (hb hby at_324) rfl ?_
    show Steps p.tables e below (T41.setTop (mkF m 326 #[.val (.int p0), .val (.int p1), .val (.int kl), .val (.int ka), .val (.int kc), .val (.int qa), .val (.int qc), .val (.ref kx), .unset, .unset, .unset, .unset] [(.int qa), (.int (20 : Int32)), (.ref b1), (.ref b1)])) _
    refine st43 _ ?_
    show Steps p.tables e below (T43.setTop (mkF m 327 #[.val (.int p0), .val (.int p1), .val (.int kl), .val (.int ka), .val (.int kc), .val (.int qa), .val (.int qc), .val (.ref kx), .unset, .unset, .unset, .unset] [(.ref b1)])) _
    refine XS.dup X43.here hx rfl (hb hby at_327) rfl rfl ?_
    show Steps p.tables e below (T43.setTop (mkF m 328 #[.val (.int p0), .val (.int p1), .val (.int kl), .val (.int ka), .val (.int kc), .val (.int qa), .val (.int qc), .val (.ref kx), .unset, .unset, .unset, .unset] [(.ref b1), (.ref b1)])) _
    refine XS.bipush X43.here hx rfl (hb hby at_328) ?_
    show Steps p.tables e below (T43.setTop (mkF m 330 #[.val (.int p0), .val (.int p1), .val (.int kl), .val (.int ka), .val (.int kc), .val (.int qa), .val (.int qc), .val (.ref kx), .unset, .unset, .unset, .unset] [(.int (21 : Int32)), (.ref b1), (.ref b1)])) _
    refine XS.iload X43.here hx rfl (hb hby at_330) rfl ?_
    show Steps p.tables e below (T43.setTop (mkF m 332 #[.val (.int p0), .val (.int p1), .val (.int kl), .val (.int ka), .val (.int kc), .val (.int qa), .val (.int qc), .val (.ref kx), .unset, .unset, .unset, .unset] [(.int qc), (.int (21 : Int32)), (.ref b1), (.ref b1)])) _
    refine st45 _ ?_
    show Steps p.tables e below (T45.setTop (mkF m 333 #[.val (.int p0), .val (.int p1), .val (.int kl), .val (.int ka), .val (.int kc), .val (.int qa), .val (.int qc), .val (.ref kx), .unset, .unset, .unset, .unset] [(.ref b1)])) _
    refine XS.astore X45.here hx rfl (hb hby at_333) rfl rfl (l' := #[.val (.int p0), .val (.int p1), .val (.int kl), .val (.int ka), .val (.int kc), .val (.int qa), .val (.int qc), .val (.ref kx), .val (.ref b1), .unset, .unset, .unset]) rfl ?_
    show Steps p.tables e below (T45.setTop (mkF m 335 #[.val (.int p0), .val (.int p1), .val (.int kl), .val (.int ka), .val (.int kc), .val (.int qa), .val (.int qc), .val (.ref kx), .val (.ref b1), .unset, .unset, .unset] [])) _
    refine XS.goto X45.here hx rfl (pc0 := 335) (pc' := 496) rfl (hb hby at_335) (by decide) (by decide) ?_
    show Steps p.tables e below (T45.setTop (mkF m 496 #[.val (.int p0), .val (.int p1), .val (.int kl), .val (.int ka), .val (.int kc), .val (.int qa), .val (.int qc), .val (.ref kx), .val (.ref b1), .unset, .unset, .unset] [])) _
    exact kt
  have vz : Arv Z h45 b1 k1 .char (22 : Int32) (([(67 : Int32), (97 : Int32), (110 : Int32), (110 : Int32), (111 : Int32), (116 : Int32), (32 : Int32), (102 : Int32), (105 : Int32), (108 : Int32), (116 : Int32), (101 : Int32), (114 : Int32), (32 : Int32), (98 : Int32), (121 : Int32), (32 : Int32), ka, (58 : Int32), (32 : Int32), qa, qc] : List Int32).map Value.int) (.int (0 : Int32)) := by
    have q : Arv Z h45 b1 k1 .char (22 : Int32) (([(67 : Int32), (97 : Int32), (110 : Int32), (110 : Int32), (111 : Int32), (116 : Int32), (32 : Int32), (102 : Int32), (105 : Int32), (108 : Int32), (116 : Int32), (101 : Int32), (114 : Int32), (32 : Int32), (98 : Int32), (121 : Int32), (32 : Int32), ka, (58 : Int32), (32 : Int32), qa, qc] : List Int32).map fun c => Value.int (nar .char c)) (.int (0 : Int32)) := V45
    rw [own_c16L (own_cons ⟨by decide, by decide⟩ (own_cons ⟨by decide, by decide⟩ (own_cons ⟨by decide, by decide⟩ (own_cons ⟨by decide, by decide⟩ (own_cons ⟨by decide, by decide⟩ (own_cons ⟨by decide, by decide⟩ (own_cons ⟨by decide, by decide⟩ (own_cons ⟨by decide, by decide⟩ (own_cons ⟨by decide, by decide⟩ (own_cons ⟨by decide, by decide⟩ (own_cons ⟨by decide, by decide⟩ (own_cons ⟨by decide, by decide⟩ (own_cons ⟨by decide, by decide⟩ (own_cons ⟨by decide, by decide⟩ (own_cons ⟨by decide, by decide⟩ (own_cons ⟨by decide, by decide⟩ (own_cons ⟨by decide, by decide⟩ (own_cons hka (own_cons ⟨by decide, by decide⟩ (own_cons ⟨by decide, by decide⟩ (own_cons hqa (own_cons hqc own_lm0))))))))))))))))))))))] at q; exact q
  exact ⟨_, _, _, _, X45.more (by decide) (by decide), N45, by rw [e45]; exact K45, by rw [e45]; exact vz, pre46⟩
set_option maxRecDepth 65536 in
set_option maxHeartbeats 40000000 in
theorem own_exp2 {p : Program} {l : Launch} {e : Env} {s : State} {m : MethodId} {args : Array Value} {below : List Frame} {meth : Method} {c : Code} {T0 : State} {locs : List Loc} {Z : State} {a0 : Array Value} {h0 : Heap} {n0 : Nat} {p0 p1 kl ka kc qa qc : Int32} {kx : Addr}
    (X0 : Stand p l e room_1 s m args below meth c T0 locs 3 8) (hx : p.tables.exec = Jvm.exec) (hZ : Z.Warmed39 s.vm) (hw : ∀ d ∈ tables_1, d.before a0 Z = true) (hby : c.code = code) (hml : c.maxLocals = 12) (hown : s.vm.findClass "com/example/modelwright/modelwright/FilterExceptionOfFilterKeyPinLaw" = some m.cls) (e0 : T0.heap = h0) (N0 : Fr n0 locs) (Z0 : n0 ≤ h0.size) (hka : own_c255 ka) (hkc : own_c255 kc) (hqa : own_c255 qa) (hqc : own_c255 qc) :
    ∃ (T' : State) (b : Addr) (kb : ClassId) (locs' : List Loc), Stand p l e room_1 s m args below meth c T' locs' 4 31 ∧ Fr n0 locs' ∧ Keep h0 T'.heap [] ∧ Arv Z T'.heap b kb .char (23 : Int32) (([(67 : Int32), (97 : Int32), (110 : Int32), (110 : Int32), (111 : Int32), (116 : Int32), (32 : Int32), (102 : Int32), (105 : Int32), (108 : Int32), (116 : Int32), (101 : Int32), (114 : Int32), (32 : Int32), (98 : Int32), (121 : Int32), (32 : Int32), ka, kc, (58 : Int32), (32 : Int32), qa, qc] : List Int32).map Value.int) (.int (0 : Int32)) ∧ ∀ t, Steps p.tables e below (T'.setTop (mkF m 496 #[.val (.int p0), .val (.int p1), .val (.int kl), .val (.int ka), .val (.int kc), .val (.int qa), .val (.int qc), .val (.ref kx), .val (.ref b), .unset, .unset, .unset] [])) t → Steps p.tables e below (T0.setTop (mkF m 359 #[.val (.int p0), .val (.int p1), .val (.int kl), .val (.int ka), .val (.int kc), .val (.int qa), .val (.int qc), .val (.ref kx), .unset, .unset, .unset, .unset] [])) t := by
  have pre0 : ∀ t, Steps p.tables e below (T0.setTop (mkF m 359 #[.val (.int p0), .val (.int p1), .val (.int kl), .val (.int ka), .val (.int kc), .val (.int qa), .val (.int qc), .val (.ref kx), .unset, .unset, .unset, .unset] [])) t → Steps p.tables e below (T0.setTop (mkF m 359 #[.val (.int p0), .val (.int p1), .val (.int kl), .val (.int ka), .val (.int kc), .val (.int qa), .val (.int qc), .val (.ref kx), .unset, .unset, .unset, .unset] [])) t := fun t k => k
  have K0 := Keep.refl h0 ([] : List Addr)
  obtain ⟨T1, h1, k1, X1, e1, E1, A1, st1⟩ := newP X0 hx hZ (hw _ (List.mem_of_getElem? (i := 8) rfl)) e0 (g := (mkF m 361 #[.val (.int p0), .val (.int p1), .val (.int kl), .val (.int ka), .val (.int kc), .val (.int qa), .val (.int qc), .val (.ref kx), .unset, .unset, .unset, .unset] [(.int (23 : Int32))])) rfl (hb hby at_361) rfl (by decide) (cap := 23) (by decide) (by decide) (by decide) (by decide)
  obtain ⟨b1, g1⟩ : ∃ z, z = h0.size := ⟨_, rfl⟩
  rw [← g1] at A1 st1
  have g_b1 : n0 ≤ b1 := Nat.le_trans (Nat.le_trans Z0 K0.1) (Nat.le_of_eq g1.symm)
  have sz_b1 : h0.size ≤ b1 := Nat.le_trans K0.1 (Nat.le_of_eq g1.symm)
  have K1 := K0.ext E1
  have V_b1 : Arv Z h1 b1 k1 .char (23 : Int32) [(.int (0 : Int32)), (.int (0 : Int32)), (.int (0 : Int32)), (.int (0 : Int32)), (.int (0 : Int32)), (.int (0 : Int32)), (.int (0 : Int32)), (.int (0 : Int32)), (.int (0 : Int32)), (.int (0 : Int32)), (.int (0 : Int32)), (.int (0 : Int32)), (.int (0 : Int32)), (.int (0 : Int32)), (.int (0 : Int32)), (.int (0 : Int32)), (.int (0 : Int32)), (.int (0 : Int32)), (.int (0 : Int32)), (.int (0 : Int32)), (.int (0 : Int32)), (.int (0 : Int32)), (.int (0 : Int32))] (.int (0 : Int32)) := (Arv.new A1 (by decide)).pad (pad_rep [] (.int (0 : Int32)) 23)
  obtain ⟨clo2, Aro2, qo2, So2, No2, Ho2, Go2⟩ := id V_b1
  have hino2 : ¬ ((0 : Int32) < 0 ∨ clo2.slots.size ≤ ((0 : Int32)).toNatClampNeg) := inb_of So2 ⟨by decide, by decide⟩
  obtain ⟨T3, h3, X3, e3, W3, st3⟩ := stC X1 hx hZ e1 Aro2 (j := (0 : Int32)) hino2 (g := (mkF m 367 #[.val (.int p0), .val (.int p1), .val (.int kl), .val (.int ka), .val (.int kc), .val (.int qa), .val (.int qc), .val (.ref kx), .unset, .unset, .unset, .unset] [(.int (67 : Int32)), (.int (0 : Int32)), (.ref b1), (.ref b1)])) rfl rfl (hb hby at_367)
  have V3 : Arv Z h3 b1 k1 .char (23 : Int32) [(.int (nar .char (67 : Int32))), (.int (0 : Int32)), (.int (0 : Int32)), (.int (0 : Int32)), (.int (0 : Int32)), (.int (0 : Int32)), (.int (0 : Int32)), (.int (0 : Int32)), (.int (0 : Int32)), (.int (0 : Int32)), (.int (0 : Int32)), (.int (0 : Int32)), (.int (0 : Int32)), (.int (0 : Int32)), (.int (0 : Int32)), (.int (0 : Int32)), (.int (0 : Int32)), (.int (0 : Int32)), (.int (0 : Int32)), (.int (0 : Int32)), (.int (0 : Int32)), (.int (0 : Int32)), (.int (0 : Int32))] (.int (0 : Int32)) := Arv.set Aro2 qo2 So2 No2 Ho2 Go2 (fits_nar_char _) W3 0 rfl (Nat.le_of_ble_eq_true rfl)
  have K3 := K1.wr W3 (Or.inr sz_b1)
  have N3 := Fr.snoc X3 N0 g_b1
  obtain ⟨clo4, Aro4, qo4, So4, No4, Ho4, Go4⟩ := id V3
  have hino4 : ¬ ((1 : Int32) < 0 ∨ clo4.slots.size ≤ ((1 : Int32)).toNatClampNeg) := inb_of So4 ⟨by decide, by decide⟩
  obtain ⟨T5, h5, X5, e5, W5, st5⟩ := stC X3 hx hZ e3 Aro4 (j := (1 : Int32)) hino4 (g := (mkF m 372 #[.val (.int p0), .val (.int p1), .val (.int kl), .val (.int ka), .val (.int kc), .val (.int qa), .val (.int qc), .val (.ref kx), .unset, .unset, .unset, .unset] [(.int (97 : Int32)), (.int (1 : Int32)), (.ref b1), (.ref b1)])) rfl rfl (hb hby at_372)
  have V5 : Arv Z h5 b1 k1 .char (23 : Int32) [(.int (nar .char (67 : Int32))), (.int (nar .char (97 : Int32))), (.int (0 : Int32)), (.int (0 : Int32)), (.int (0 : Int32)), (.int (0 : Int32)), (.int (0 : Int32)), (.int (0 : Int32)), (.int (0 : Int32)), (.int (0 : Int32)), (.int (0 : Int32)), (.int (0 : Int32)), (.int (0 : Int32)), (.int (0 : Int32)), (.int (0 : Int32)), (.int (0 : Int32)), (.int (0 : Int32)), (.int (0 : Int32)), (.int (0 : Int32)), (.int (0 : Int32)), (.int (0 : Int32)), (.int (0 : Int32)), (.int (0 : Int32))] (.int (0 : Int32)) := Arv.set Aro4 qo4 So4 No4 Ho4 Go4 (fits_nar_char _) W5 1 rfl (Nat.le_of_ble_eq_true rfl)
  have K5 := K3.wr W5 (Or.inr sz_b1)
  have N5 := Fr.snoc X5 N3 g_b1
  obtain ⟨clo6, Aro6, qo6, So6, No6, Ho6, Go6⟩ := id V5
  have hino6 : ¬ ((2 : Int32) < 0 ∨ clo6.slots.size ≤ ((2 : Int32)).toNatClampNeg) := inb_of So6 ⟨by decide, by decide⟩
  obtain ⟨T7, h7, X7, e7, W7, st7⟩ := stC X5 hx hZ e5 Aro6 (j := (2 : Int32)) hino6 (g := (mkF m 377 #[.val (.int p0), .val (.int p1), .val (.int kl), .val (.int ka), .val (.int kc), .val (.int qa), .val (.int qc), .val (.ref kx), .unset, .unset, .unset, .unset] [(.int (110 : Int32)), (.int (2 : Int32)), (.ref b1), (.ref b1)])) rfl rfl (hb hby at_377)
  have V7 : Arv Z h7 b1 k1 .char (23 : Int32) [(.int (nar .char (67 : Int32))), (.int (nar .char (97 : Int32))), (.int (nar .char (110 : Int32))), (.int (0 : Int32)), (.int (0 : Int32)), (.int (0 : Int32)), (.int (0 : Int32)), (.int (0 : Int32)), (.int (0 : Int32)), (.int (0 : Int32)), (.int (0 : Int32)), (.int (0 : Int32)), (.int (0 : Int32)), (.int (0 : Int32)), (.int (0 : Int32)), (.int (0 : Int32)), (.int (0 : Int32)), (.int (0 : Int32)), (.int (0 : Int32)), (.int (0 : Int32)), (.int (0 : Int32)), (.int (0 : Int32)), (.int (0 : Int32))] (.int (0 : Int32)) := Arv.set Aro6 qo6 So6 No6 Ho6 Go6 (fits_nar_char _) W7 2 rfl (Nat.le_of_ble_eq_true rfl)
  have K7 := K5.wr W7 (Or.inr sz_b1)
  have N7 := Fr.snoc X7 N5 g_b1
  obtain ⟨clo8, Aro8, qo8, So8, No8, Ho8, Go8⟩ := id V7
  have hino8 : ¬ ((3 : Int32) < 0 ∨ clo8.slots.size ≤ ((3 : Int32)).toNatClampNeg) := inb_of So8 ⟨by decide, by decide⟩
  obtain ⟨T9, h9, X9, e9, W9, st9⟩ := stC X7 hx hZ e7 Aro8 (j := (3 : Int32)) hino8 (g := (mkF m 382 #[.val (.int p0), .val (.int p1), .val (.int kl), .val (.int ka), .val (.int kc), .val (.int qa), .val (.int qc), .val (.ref kx), .unset, .unset, .unset, .unset] [(.int (110 : Int32)), (.int (3 : Int32)), (.ref b1), (.ref b1)])) rfl rfl (hb hby at_382)
  have V9 : Arv Z h9 b1 k1 .char (23 : Int32) [(.int (nar .char (67 : Int32))), (.int (nar .char (97 : Int32))), (.int (nar .char (110 : Int32))), (.int (nar .char (110 : Int32))), (.int (0 : Int32)), (.int (0 : Int32)), (.int (0 : Int32)), (.int (0 : Int32)), (.int (0 : Int32)), (.int (0 : Int32)), (.int (0 : Int32)), (.int (0 : Int32)), (.int (0 : Int32)), (.int (0 : Int32)), (.int (0 : Int32)), (.int (0 : Int32)), (.int (0 : Int32)), (.int (0 : Int32)), (.int (0 : Int32)), (.int (0 : Int32)), (.int (0 : Int32)), (.int (0 : Int32)), (.int (0 : Int32))] (.int (0 : Int32)) := Arv.set Aro8 qo8 So8 No8 Ho8 Go8 (fits_nar_char _) W9 3 rfl (Nat.le_of_ble_eq_true rfl)
  have K9 := K7.wr W9 (Or.inr sz_b1)
  have N9 := Fr.snoc X9 N7 g_b1
  obtain ⟨clo10, Aro10, qo10, So10, No10, Ho10, Go10⟩ := id V9
  have hino10 : ¬ ((4 : Int32) < 0 ∨ clo10.slots.size ≤ ((4 : Int32)).toNatClampNeg) := inb_of So10 ⟨by decide, by decide⟩
  obtain ⟨T11, h11, X11, e11, W11, st11⟩ := stC X9 hx hZ e9 Aro10 (j := (4 : Int32)) hino10 (g := (mkF m 387 #[.val (.int p0), .val (.int p1), .val (.int kl), .val (.int ka), .val (.int kc), .val (.int qa), .val (.int qc), .val (.ref kx), .unset, .unset, .unset, .unset] [(.int (111 : Int32)), (.int (4 : Int32)), (.ref b1), (.ref b1)])) rfl rfl (hb hby at_387)
  have V11 : Arv Z h11 b1 k1 .char (23 : Int32) [(.int (nar .char (67 : Int32))), (.int (nar .char (97 : Int32))), (.int (nar .char (110 : Int32))), (.int (nar .char (110 : Int32))), (.int (nar .char (111 : Int32))), (.int (0 : Int32)), (.int (0 : Int32)), (.int (0 : Int32)), (.int (0 : Int32)), (.int (0 : Int32)), (.int (0 : Int32)), (.int (0 : Int32)), (.int (0 : Int32)), (.int (0 : Int32)), (.int (0 : Int32)), (.int (0 : Int32)), (.int (0 : Int32)), (.int (0 : Int32)), (.int (0 : Int32)), (.int (0 : Int32)), (.int (0 : Int32)), (.int (0 : Int32)), (.int (0 : Int32))] (.int (0 : Int32)) := Arv.set Aro10 qo10 So10 No10 Ho10 Go10 (fits_nar_char _) W11 4 rfl (Nat.le_of_ble_eq_true rfl)
  have K11 := K9.wr W11 (Or.inr sz_b1)
  have N11 := Fr.snoc X11 N9 g_b1
  obtain ⟨clo12, Aro12, qo12, So12, No12, Ho12, Go12⟩ := id V11
  have hino12 : ¬ ((5 : Int32) < 0 ∨ clo12.slots.size ≤ ((5 : Int32)).toNatClampNeg) := inb_of So12 ⟨by decide, by decide⟩
  obtain ⟨T13, h13, X13, e13, W13, st13⟩ := stC X11 hx hZ e11 Aro12 (j := (5 : Int32)) hino12 (g := (mkF m 392 #[.val (.int p0), .val (.int p1), .val (.int kl), .val (.int ka), .val (.int kc), .val (.int qa), .val (.int qc), .val (.ref kx), .unset, .unset, .unset, .unset] [(.int (116 : Int32)), (.int (5 : Int32)), (.ref b1), (.ref b1)])) rfl rfl (hb hby at_392)
  have V13 : Arv Z h13 b1 k1 .char (23 : Int32) [(.int (nar .char (67 : Int32))), (.int (nar .char (97 : Int32))), (.int (nar .char (110 : Int32))), (.int (nar .char (110 : Int32))), (.int (nar .char (111 : Int32))), (.int (nar .char (116 : Int32))), (.int (0 : Int32)), (.int (0 : Int32)), (.int (0 : Int32)), (.int (0 : Int32)), (.int (0 : Int32)), (.int (0 : Int32)), (.int (0 : Int32)), (.int (0 : Int32)), (.int (0 : Int32)), (.int (0 : Int32)), (.int (0 : Int32)), (.int (0 : Int32)), (.int (0 : Int32)), (.int (0 : Int32)), (.int (0 : Int32)), (.int (0 : Int32)), (.int (0 : Int32))] (.int (0 : Int32)) := Arv.set Aro12 qo12 So12 No12 Ho12 Go12 (fits_nar_char _) W13 5 rfl (Nat.le_of_ble_eq_true rfl)
  have K13 := K11.wr W13 (Or.inr sz_b1)
  have N13 := Fr.snoc X13 N11 g_b1
  obtain ⟨clo14, Aro14, qo14, So14, No14, Ho14, Go14⟩ := id V13
  have hino14 : ¬ ((6 : Int32) < 0 ∨ clo14.slots.size ≤ ((6 : Int32)).toNatClampNeg) := inb_of So14 ⟨by decide, by decide⟩
  obtain ⟨T15, h15, X15, e15, W15, st15⟩ := stC X13 hx hZ e13 Aro14 (j := (6 : Int32)) hino14 (g := (mkF m 398 #[.val (.int p0), .val (.int p1), .val (.int kl), .val (.int ka), .val (.int kc), .val (.int qa), .val (.int qc), .val (.ref kx), .unset, .unset, .unset, .unset] [(.int (32 : Int32)), (.int (6 : Int32)), (.ref b1), (.ref b1)])) rfl rfl (hb hby at_398)
  have V15 : Arv Z h15 b1 k1 .char (23 : Int32) [(.int (nar .char (67 : Int32))), (.int (nar .char (97 : Int32))), (.int (nar .char (110 : Int32))), (.int (nar .char (110 : Int32))), (.int (nar .char (111 : Int32))), (.int (nar .char (116 : Int32))), (.int (nar .char (32 : Int32))), (.int (0 : Int32)), (.int (0 : Int32)), (.int (0 : Int32)), (.int (0 : Int32)), (.int (0 : Int32)), (.int (0 : Int32)), (.int (0 : Int32)), (.int (0 : Int32)), (.int (0 : Int32)), (.int (0 : Int32)), (.int (0 : Int32)), (.int (0 : Int32)), (.int (0 : Int32)), (.int (0 : Int32)), (.int (0 : Int32)), (.int (0 : Int32))] (.int (0 : Int32)) := Arv.set Aro14 qo14 So14 No14 Ho14 Go14 (fits_nar_char _) W15 6 rfl (Nat.le_of_ble_eq_true rfl)
  have K15 := K13.wr W15 (Or.inr sz_b1)
  have N15 := Fr.snoc X15 N13 g_b1
  obtain ⟨clo16, Aro16, qo16, So16, No16, Ho16, Go16⟩ := id V15
  have hino16 : ¬ ((7 : Int32) < 0 ∨ clo16.slots.size ≤ ((7 : Int32)).toNatClampNeg) := inb_of So16 ⟨by decide, by decide⟩
  obtain ⟨T17, h17, X17, e17, W17, st17⟩ := stC X15 hx hZ e15 Aro16 (j := (7 : Int32)) hino16 (g := (mkF m 404 #[.val (.int p0), .val (.int p1), .val (.int kl), .val (.int ka), .val (.int kc), .val (.int qa), .val (.int qc), .val (.ref kx), .unset, .unset, .unset, .unset] [(.int (102 : Int32)), (.int (7 : Int32)), (.ref b1), (.ref b1)])) rfl rfl (hb hby at_404)
  have V17 : Arv Z h17 b1 k1 .char (23 : Int32) [(.int (nar .char (67 : Int32))), (.int (nar .char (97 : Int32))), (.int (nar .char (110 : Int32))), (.int (nar .char (110 : Int32))), (.int (nar .char (111 : Int32))), (.int (nar .char (116 : Int32))), (.int (nar .char (32 : Int32))), (.int (nar .char (102 : Int32))), (.int (0 : Int32)), (.int (0 : Int32)), (.int (0 : Int32)), (.int (0 : Int32)), (.int (0 : Int32)), (.int (0 : Int32)), (.int (0 : Int32)), (.int (0 : Int32)), (.int (0 : Int32)), (.int (0 : Int32)), (.int (0 : Int32)), (.int (0 : Int32)), (.int (0 : Int32)), (.int (0 : Int32)), (.int (0 : Int32))] (.int (0 : Int32)) := Arv.set Aro16 qo16 So16 No16 Ho16 Go16 (fits_nar_char _) W17 7 rfl (Nat.le_of_ble_eq_true rfl)
  have K17 := K15.wr W17 (Or.inr sz_b1)
  have N17 := Fr.snoc X17 N15 g_b1
  obtain ⟨clo18, Aro18, qo18, So18, No18, Ho18, Go18⟩ := id V17
  have hino18 : ¬ ((8 : Int32) < 0 ∨ clo18.slots.size ≤ ((8 : Int32)).toNatClampNeg) := inb_of So18 ⟨by decide, by decide⟩
  obtain ⟨T19, h19, X19, e19, W19, st19⟩ := stC X17 hx hZ e17 Aro18 (j := (8 : Int32)) hino18 (g := (mkF m 410 #[.val (.int p0), .val (.int p1), .val (.int kl), .val (.int ka), .val (.int kc), .val (.int qa), .val (.int qc), .val (.ref kx), .unset, .unset, .unset, .unset] [(.int (105 : Int32)), (.int (8 : Int32)), (.ref b1), (.ref b1)])) rfl rfl (hb hby at_410)
  have V19 : Arv Z h19 b1 k1 .char (23 : Int32) [(.int (nar .char (67 : Int32))), (.int (nar .char (97 : Int32))), (.int (nar .char (110 : Int32))), (.int (nar .char (110 : Int32))), (.int (nar .char (111 : Int32))), (.int (nar .char (116 : Int32))), (.int (nar .char (32 : Int32))), (.int (nar .char (102 : Int32))), (.int (nar .char (105 : Int32))), (.int (0 : Int32)), (.int (0 : Int32)), (.int (0 : Int32)), (.int (0 : Int32)), (.int (0 : Int32)), (.int (0 : Int32)), (.int (0 : Int32)), (.int (0 : Int32)), (.int (0 : Int32)), (.int (0 : Int32)), (.int (0 : Int32)), (.int (0 : Int32)), (.int (0 : Int32)), (.int (0 : Int32))] (.int (0 : Int32)) := Arv.set Aro18 qo18 So18 No18 Ho18 Go18 (fits_nar_char _) W19 8 rfl (Nat.le_of_ble_eq_true rfl)
  have K19 := K17.wr W19 (Or.inr sz_b1)
  have N19 := Fr.snoc X19 N17 g_b1
  obtain ⟨clo20, Aro20, qo20, So20, No20, Ho20, Go20⟩ := id V19
  have hino20 : ¬ ((9 : Int32) < 0 ∨ clo20.slots.size ≤ ((9 : Int32)).toNatClampNeg) := inb_of So20 ⟨by decide, by decide⟩
  obtain ⟨T21, h21, X21, e21, W21, st21⟩ := stC X19 hx hZ e19 Aro20 (j := (9 : Int32)) hino20 (g := (mkF m 416 #[.val (.int p0), .val (.int p1), .val (.int kl), .val (.int ka), .val (.int kc), .val (.int qa), .val (.int qc), .val (.ref kx), .unset, .unset, .unset, .unset] [(.int (108 : Int32)), (.int (9 : Int32)), (.ref b1), (.ref b1)])) rfl rfl (hb hby at_416)
  have V21 : Arv Z h21 b1 k1 .char (23 : Int32) [(.int (nar .char (67 : Int32))), (.int (nar .char (97 : Int32))), (.int (nar .char (110 : Int32))), (.int (nar .char (110 : Int32))), (.int (nar .char (111 : Int32))), (.int (nar .char (116 : Int32))), (.int (nar .char (32 : Int32))), (.int (nar .char (102 : Int32))), (.int (nar .char (105 : Int32))), (.int (nar .char (108 : Int32))), (.int (0 : Int32)), (.int (0 : Int32)), (.int (0 : Int32)), (.int (0 : Int32)), (.int (0 : Int32)), (.int (0 : Int32)), (.int (0 : Int32)), (.int (0 : Int32)), (.int (0 : Int32)), (.int (0 : Int32)), (.int (0 : Int32)), (.int (0 : Int32)), (.int (0 : Int32))] (.int (0 : Int32)) := Arv.set Aro20 qo20 So20 No20 Ho20 Go20 (fits_nar_char _) W21 9 rfl (Nat.le_of_ble_eq_true rfl)
  have K21 := K19.wr W21 (Or.inr sz_b1)
  have N21 := Fr.snoc X21 N19 g_b1
  obtain ⟨clo22, Aro22, qo22, So22, No22, Ho22, Go22⟩ := id V21
  have hino22 : ¬ ((10 : Int32) < 0 ∨ clo22.slots.size ≤ ((10 : Int32)).toNatClampNeg) := inb_of So22 ⟨by decide, by decide⟩
  obtain ⟨T23, h23, X23, e23, W23, st23⟩ := stC X21 hx hZ e21 Aro22 (j := (10 : Int32)) hino22 (g := (mkF m 422 #[.val (.int p0), .val (.int p1), .val (.int kl), .val (.int ka), .val (.int kc), .val (.int qa), .val (.int qc), .val (.ref kx), .unset, .unset, .unset, .unset] [(.int (116 : Int32)), (.int (10 : Int32)), (.ref b1), (.ref b1)])) rfl rfl (hb hby at_422)
  have V23 : Arv Z h23 b1 k1 .char (23 : Int32) [(.int (nar .char (67 : Int32))), (.int (nar .char (97 : Int32))), (.int (nar .char (110 : Int32))), (.int (nar .char (110 : Int32))), (.int (nar .char (111 : Int32))), (.int (nar .char (116 : Int32))), (.int (nar .char (32 : Int32))), (.int (nar .char (102 : Int32))), (.int (nar .char (105 : Int32))), (.int (nar .char (108 : Int32))), (.int (nar .char (116 : Int32))), (.int (0 : Int32)), (.int (0 : Int32)), (.int (0 : Int32)), (.int (0 : Int32)), (.int (0 : Int32)), (.int (0 : Int32)), (.int (0 : Int32)), (.int (0 : Int32)), (.int (0 : Int32)), (.int (0 : Int32)), (.int (0 : Int32)), (.int (0 : Int32))] (.int (0 : Int32)) := Arv.set Aro22 qo22 So22 No22 Ho22 Go22 (fits_nar_char _) W23 10 rfl (Nat.le_of_ble_eq_true rfl)
  have K23 := K21.wr W23 (Or.inr sz_b1)
  have N23 := Fr.snoc X23 N21 g_b1
  obtain ⟨clo24, Aro24, qo24, So24, No24, Ho24, Go24⟩ := id V23
  have hino24 : ¬ ((11 : Int32) < 0 ∨ clo24.slots.size ≤ ((11 : Int32)).toNatClampNeg) := inb_of So24 ⟨by decide, by decide⟩
  obtain ⟨T25, h25, X25, e25, W25, st25⟩ := stC X23 hx hZ e23 Aro24 (j := (11 : Int32)) hino24 (g := (mkF m 428 #[.val (.int p0), .val (.int p1), .val (.int kl), .val (.int ka), .val (.int kc), .val (.int qa), .val (.int qc), .val (.ref kx), .unset, .unset, .unset, .unset] [(.int (101 : Int32)), (.int (11 : Int32)), (.ref b1), (.ref b1)])) rfl rfl (hb hby at_428)
  have V25 : Arv Z h25 b1 k1 .char (23 : Int32) [(.int (nar .char (67 : Int32))), (.int (nar .char (97 : Int32))), (.int (nar .char (110 : Int32))), (.int (nar .char (110 : Int32))), (.int (nar .char (111 : Int32))), (.int (nar .char (116 : Int32))), (.int (nar .char (32 : Int32))), (.int (nar .char (102 : Int32))), (.int (nar .char (105 : Int32))), (.int (nar .char (108 : Int32))), (.int (nar .char (116 : Int32))), (.int (nar .char (101 : Int32))), (.int (0 : Int32)), (.int (0 : Int32)), (.int (0 : Int32)), (.int (0 : Int32)), (.int (0 : Int32)), (.int (0 : Int32)), (.int (0 : Int32)), (.int (0 : Int32)), (.int (0 : Int32)), (.int (0 : Int32)), (.int (0 : Int32))] (.int (0 : Int32)) := Arv.set Aro24 qo24 So24 No24 Ho24 Go24 (fits_nar_char _) W25 11 rfl (Nat.le_of_ble_eq_true rfl)
  have K25 := K23.wr W25 (Or.inr sz_b1)
  have N25 := Fr.snoc X25 N23 g_b1
  obtain ⟨clo26, Aro26, qo26, So26, No26, Ho26, Go26⟩ := id V25
  have hino26 : ¬ ((12 : Int32) < 0 ∨ clo26.slots.size ≤ ((12 : Int32)).toNatClampNeg) := inb_of So26 ⟨by decide, by decide⟩
  obtain ⟨T27, h27, X27, e27, W27, st27⟩ := stC X25 hx hZ e25 Aro26 (j := (12 : Int32)) hino26 (g := (mkF m 434 #[.val (.int p0), .val (.int p1), .val (.int kl), .val (.int ka), .val (.int kc), .val (.int qa), .val (.int qc), .val (.ref kx), .unset, .unset, .unset, .unset] [(.int (114 : Int32)), (.int (12 : Int32)), (.ref b1), (.ref b1)])) rfl rfl (hb hby at_434)
  have V27 : Arv Z h27 b1 k1 .char (23 : Int32) [(.int (nar .char (67 : Int32))), (.int (nar .char (97 : Int32))), (.int (nar .char (110 : Int32))), (.int (nar .char (110 : Int32))), (.int (nar .char (111 : Int32))), (.int (nar .char (116 : Int32))), (.int (nar .char (32 : Int32))), (.int (nar .char (102 : Int32))), (.int (nar .char (105 : Int32))), (.int (nar .char (108 : Int32))), (.int (nar .char (116 : Int32))), (.int (nar .char (101 : Int32))), (.int (nar .char (114 : Int32))), (.int (0 : Int32)), (.int (0 : Int32)), (.int (0 : Int32)), (.int (0 : Int32)), (.int (0 : Int32)), (.int (0 : Int32)), (.int (0 : Int32)), (.int (0 : Int32)), (.int (0 : Int32)), (.int (0 : Int32))] (.int (0 : Int32)) := Arv.set Aro26 qo26 So26 No26 Ho26 Go26 (fits_nar_char _) W27 12 rfl (Nat.le_of_ble_eq_true rfl)
  have K27 := K25.wr W27 (Or.inr sz_b1)
  have N27 := Fr.snoc X27 N25 g_b1
  obtain ⟨clo28, Aro28, qo28, So28, No28, Ho28, Go28⟩ := id V27
  have hino28 : ¬ ((13 : Int32) < 0 ∨ clo28.slots.size ≤ ((13 : Int32)).toNatClampNeg) := inb_of So28 ⟨by decide, by decide⟩
  obtain ⟨T29, h29, X29, e29, W29, st29⟩ := stC X27 hx hZ e27 Aro28 (j := (13 : Int32)) hino28 (g := (mkF m 440 #[.val (.int p0), .val (.int p1), .val (.int kl), .val (.int ka), .val (.int kc), .val (.int qa), .val (.int qc), .val (.ref kx), .unset, .unset, .unset, .unset] [(.int (32 : Int32)), (.int (13 : Int32)), (.ref b1), (.ref b1)])) rfl rfl (hb hby at_440)
  have V29 : Arv Z h29 b1 k1 .char (23 : Int32) [(.int (nar .char (67 : Int32))), (.int (nar .char (97 : Int32))), (.int (nar .char (110 : Int32))), (.int (nar .char (110 : Int32))), (.int (nar .char (111 : Int32))), (.int (nar .char (116 : Int32))), (.int (nar .char (32 : Int32))), (.int (nar .char (102 : Int32))), (.int (nar .char (105 : Int32))), (.int (nar .char (108 : Int32))), (.int (nar .char (116 : Int32))), (.int (nar .char (101 : Int32))), (.int (nar .char (114 : Int32))), (.int (nar .char (32 : Int32))), (.int (0 : Int32)), (.int (0 : Int32)), (.int (0 : Int32)), (.int (0 : Int32)), (.int (0 : Int32)), (.int (0 : Int32)), (.int (0 : Int32)), (.int (0 : Int32)), (.int (0 : Int32))] (.int (0 : Int32)) := Arv.set Aro28 qo28 So28 No28 Ho28 Go28 (fits_nar_char _) W29 13 rfl (Nat.le_of_ble_eq_true rfl)
  have K29 := K27.wr W29 (Or.inr sz_b1)
  have N29 := Fr.snoc X29 N27 g_b1
  obtain ⟨clo30, Aro30, qo30, So30, No30, Ho30, Go30⟩ := id V29
  have hino30 : ¬ ((14 : Int32) < 0 ∨ clo30.slots.size ≤ ((14 : Int32)).toNatClampNeg) := inb_of So30 ⟨by decide, by decide⟩
  obtain ⟨T31, h31, X31, e31, W31, st31⟩ := stC X29 hx hZ e29 Aro30 (j := (14 : Int32)) hino30 (g := (mkF m 446 #[.val (.int p0), .val (.int p1), .val (.int kl), .val (.int ka), .val (.int kc), .val (.int qa), .val (.int qc), .val (.ref kx), .unset, .unset, .unset, .unset] [(.int (98 : Int32)), (.int (14 : Int32)), (.ref b1), (.ref b1)])) rfl rfl (hb hby at_446)
  have V31 : Arv Z h31 b1 k1 .char (23 : Int32) [(.int (nar .char (67 : Int32))), (.int (nar .char (97 : Int32))), (.int (nar .char (110 : Int32))), (.int (nar .char (110 : Int32))), (.int (nar .char (111 : Int32))), (.int (nar .char (116 : Int32))), (.int (nar .char (32 : Int32))), (.int (nar .char (102 : Int32))), (.int (nar .char (105 : Int32))), (.int (nar .char (108 : Int32))), (.int (nar .char (116 : Int32))), (.int (nar .char (101 : Int32))), (.int (nar .char (114 : Int32))), (.int (nar .char (32 : Int32))), (.int (nar .char (98 : Int32))), (.int (0 : Int32)), (.int (0 : Int32)), (.int (0 : Int32)), (.int (0 : Int32)), (.int (0 : Int32)), (.int (0 : Int32)), (.int (0 : Int32)), (.int (0 : Int32))] (.int (0 : Int32)) := Arv.set Aro30 qo30 So30 No30 Ho30 Go30 (fits_nar_char _) W31 14 rfl (Nat.le_of_ble_eq_true rfl)
  have K31 := K29.wr W31 (Or.inr sz_b1)
  have N31 := Fr.snoc X31 N29 g_b1
  obtain ⟨clo32, Aro32, qo32, So32, No32, Ho32, Go32⟩ := id V31
  have hino32 : ¬ ((15 : Int32) < 0 ∨ clo32.slots.size ≤ ((15 : Int32)).toNatClampNeg) := inb_of So32 ⟨by decide, by decide⟩
  obtain ⟨T33, h33, X33, e33, W33, st33⟩ := stC X31 hx hZ e31 Aro32 (j := (15 : Int32)) hino32 (g := (mkF m 452 #[.val (.int p0), .val (.int p1), .val (.int kl), .val (.int ka), .val (.int kc), .val (.int qa), .val (.int qc), .val (.ref kx), .unset, .unset, .unset, .unset] [(.int (121 : Int32)), (.int (15 : Int32)), (.ref b1), (.ref b1)])) rfl rfl (hb hby at_452)
  have V33 : Arv Z h33 b1 k1 .char (23 : Int32) [(.int (nar .char (67 : Int32))), (.int (nar .char (97 : Int32))), (.int (nar .char (110 : Int32))), (.int (nar .char (110 : Int32))), (.int (nar .char (111 : Int32))), (.int (nar .char (116 : Int32))), (.int (nar .char (32 : Int32))), (.int (nar .char (102 : Int32))), (.int (nar .char (105 : Int32))), (.int (nar .char (108 : Int32))), (.int (nar .char (116 : Int32))), (.int (nar .char (101 : Int32))), (.int (nar .char (114 : Int32))), (.int (nar .char (32 : Int32))), (.int (nar .char (98 : Int32))), (.int (nar .char (121 : Int32))), (.int (0 : Int32)), (.int (0 : Int32)), (.int (0 : Int32)), (.int (0 : Int32)), (.int (0 : Int32)), (.int (0 : Int32)), (.int (0 : Int32))] (.int (0 : Int32)) := Arv.set Aro32 qo32 So32 No32 Ho32 Go32 (fits_nar_char _) W33 15 rfl (Nat.le_of_ble_eq_true rfl)
  have K33 := K31.wr W33 (Or.inr sz_b1)
  have N33 := Fr.snoc X33 N31 g_b1
  obtain ⟨clo34, Aro34, qo34, So34, No34, Ho34, Go34⟩ := id V33
  have hino34 : ¬ ((16 : Int32) < 0 ∨ clo34.slots.size ≤ ((16 : Int32)).toNatClampNeg) := inb_of So34 ⟨by decide, by decide⟩
  obtain ⟨T35, h35, X35, e35, W35, st35⟩ := stC X33 hx hZ e33 Aro34 (j := (16 : Int32)) hino34 (g := (mkF m 458 #[.val (.int p0), .val (.int p1), .val (.int kl), .val (.int ka), .val (.int kc), .val (.int qa), .val (.int qc), .val (.ref kx), .unset, .unset, .unset, .unset] [(.int (32 : Int32)), (.int (16 : Int32)), (.ref b1), (.ref b1)])) rfl rfl (hb hby at_458)
  have V35 : Arv Z h35 b1 k1 .char (23 : Int32) [(.int (nar .char (67 : Int32))), (.int (nar .char (97 : Int32))), (.int (nar .char (110 : Int32))), (.int (nar .char (110 : Int32))), (.int (nar .char (111 : Int32))), (.int (nar .char (116 : Int32))), (.int (nar .char (32 : Int32))), (.int (nar .char (102 : Int32))), (.int (nar .char (105 : Int32))), (.int (nar .char (108 : Int32))), (.int (nar .char (116 : Int32))), (.int (nar .char (101 : Int32))), (.int (nar .char (114 : Int32))), (.int (nar .char (32 : Int32))), (.int (nar .char (98 : Int32))), (.int (nar .char (121 : Int32))), (.int (nar .char (32 : Int32))), (.int (0 : Int32)), (.int (0 : Int32)), (.int (0 : Int32)), (.int (0 : Int32)), (.int (0 : Int32)), (.int (0 : Int32))] (.int (0 : Int32)) := Arv.set Aro34 qo34 So34 No34 Ho34 Go34 (fits_nar_char _) W35 16 rfl (Nat.le_of_ble_eq_true rfl)
  have K35 := K33.wr W35 (Or.inr sz_b1)
  have N35 := Fr.snoc X35 N33 g_b1
  obtain ⟨clo36, Aro36, qo36, So36, No36, Ho36, Go36⟩ := id V35
  have hino36 : ¬ ((17 : Int32) < 0 ∨ clo36.slots.size ≤ ((17 : Int32)).toNatClampNeg) := inb_of So36 ⟨by decide, by decide⟩
  obtain ⟨T37, h37, X37, e37, W37, st37⟩ := stC X35 hx hZ e35 Aro36 (j := (17 : Int32)) hino36 (g := (mkF m 463 #[.val (.int p0), .val (.int p1), .val (.int kl), .val (.int ka), .val (.int kc), .val (.int qa), .val (.int qc), .val (.ref kx), .unset, .unset, .unset, .unset] [(.int ka), (.int (17 : Int32)), (.ref b1), (.ref b1)])) rfl rfl (hb hby at_463)
  have V37 : Arv Z h37 b1 k1 .char (23 : Int32) [(.int (nar .char (67 : Int32))), (.int (nar .char (97 : Int32))), (.int (nar .char (110 : Int32))), (.int (nar .char (110 : Int32))), (.int (nar .char (111 : Int32))), (.int (nar .char (116 : Int32))), (.int (nar .char (32 : Int32))), (.int (nar .char (102 : Int32))), (.int (nar .char (105 : Int32))), (.int (nar .char (108 : Int32))), (.int (nar .char (116 : Int32))), (.int (nar .char (101 : Int32))), (.int (nar .char (114 : Int32))), (.int (nar .char (32 : Int32))), (.int (nar .char (98 : Int32))), (.int (nar .char (121 : Int32))), (.int (nar .char (32 : Int32))), (.int (nar .char ka)), (.int (0 : Int32)), (.int (0 : Int32)), (.int (0 : Int32)), (.int (0 : Int32)), (.int (0 : Int32))] (.int (0 : Int32)) := Arv.set Aro36 qo36 So36 No36 Ho36 Go36 (fits_nar_char _) W37 17 rfl (Nat.le_of_ble_eq_true rfl)
  have K37 := K35.wr W37 (Or.inr sz_b1)
  have N37 := Fr.snoc X37 N35 g_b1
  obtain ⟨clo38, Aro38, qo38, So38, No38, Ho38, Go38⟩ := id V37
  have hino38 : ¬ ((18 : Int32) < 0 ∨ clo38.slots.size ≤ ((18 : Int32)).toNatClampNeg) := inb_of So38 ⟨by decide, by decide⟩
  obtain ⟨T39, h39, X39, e39, W39, st39⟩ := stC X37 hx hZ e37 Aro38 (j := (18 : Int32)) hino38 (g := (mkF m 469 #[.val (.int p0), .val (.int p1), .val (.int kl), .val (.int ka), .val (.int kc), .val (.int qa), .val (.int qc), .val (.ref kx), .unset, .unset, .unset, .unset] [(.int kc), (.int (18 : Int32)), (.ref b1), (.ref b1)])) rfl rfl (hb hby at_469)
  have V39 : Arv Z h39 b1 k1 .char (23 : Int32) [(.int (nar .char (67 : Int32))), (.int (nar .char (97 : Int32))), (.int (nar .char (110 : Int32))), (.int (nar .char (110 : Int32))), (.int (nar .char (111 : Int32))), (.int (nar .char (116 : Int32))), (.int (nar .char (32 : Int32))), (.int (nar .char (102 : Int32))), (.int (nar .char (105 : Int32))), (.int (nar .char (108 : Int32))), (.int (nar .char (116 : Int32))), (.int (nar .char (101 : Int32))), (.int (nar .char (114 : Int32))), (.int (nar .char (32 : Int32))), (.int (nar .char (98 : Int32))), (.int (nar .char (121 : Int32))), (.int (nar .char (32 : Int32))), (.int (nar .char ka)), (.int (nar .char kc)), (.int (0 : Int32)), (.int (0 : Int32)), (.int (0 : Int32)), (.int (0 : Int32))] (.int (0 : Int32)) := Arv.set Aro38 qo38 So38 No38 Ho38 Go38 (fits_nar_char _) W39 18 rfl (Nat.le_of_ble_eq_true rfl)
  have K39 := K37.wr W39 (Or.inr sz_b1)
  have N39 := Fr.snoc X39 N37 g_b1
  obtain ⟨clo40, Aro40, qo40, So40, No40, Ho40, Go40⟩ := id V39
  have hino40 : ¬ ((19 : Int32) < 0 ∨ clo40.slots.size ≤ ((19 : Int32)).toNatClampNeg) := inb_of So40 ⟨by decide, by decide⟩
  obtain ⟨T41, h41, X41, e41, W41, st41⟩ := stC X39 hx hZ e39 Aro40 (j := (19 : Int32)) hino40 (g := (mkF m 475 #[.val (.int p0), .val (.int p1), .val (.int kl), .val (.int ka), .val (.int kc), .val (.int qa), .val (.int qc), .val (.ref kx), .unset, .unset, .unset, .unset] [(.int (58 : Int32)), (.int (19 : Int32)), (.ref b1), (.ref b1)])) rfl rfl (hb hby at_475)
  have V41 : Arv Z h41 b1 k1 .char (23 : Int32) [(.int (nar .char (67 : Int32))), (.int (nar .char (97 : Int32))), (.int (nar .char (110 : Int32))), (.int (nar .char (110 : Int32))), (.int (nar .char (111 : Int32))), (.int (nar .char (116 : Int32))), (.int (nar .char (32 : Int32))), (.int (nar .char (102 : Int32))), (.int (nar .char (105 : Int32))), (.int (nar .char (108 : Int32))), (.int (nar .char (116 : Int32))), (.int (nar .char (101 : Int32))), (.int (nar .char (114 : Int32))), (.int (nar .char (32 : Int32))), (.int (nar .char (98 : Int32))), (.int (nar .char (121 : Int32))), (.int (nar .char (32 : Int32))), (.int (nar .char ka)), (.int (nar .char kc)), (.int (nar .char (58 : Int32))), (.int (0 : Int32)), (.int (0 : Int32)), (.int (0 : Int32))] (.int (0 : Int32)) := Arv.set Aro40 qo40 So40 No40 Ho40 Go40 (fits_nar_char _) W41 19 rfl (Nat.le_of_ble_eq_true rfl)
  have K41 := K39.wr W41 (Or.inr sz_b1)
  have N41 := Fr.snoc X41 N39 g_b1
  obtain ⟨clo42, Aro42, qo42, So42, No42, Ho42, Go42⟩ := id V41
  have hino42 : ¬ ((20 : Int32) < 0 ∨ clo42.slots.size ≤ ((20 : Int32)).toNatClampNeg) := inb_of So42 ⟨by decide, by decide⟩
  obtain ⟨T43, h43, X43, e43, W43, st43⟩ := stC X41 hx hZ e41 Aro42 (j := (20 : Int32)) hino42 (g := (mkF m 481 #[.val (.int p0), .val (.int p1), .val (.int kl), .val (.int ka), .val (.int kc), .val (.int qa), .val (.int qc), .val (.ref kx), .unset, .unset, .unset, .unset] [(.int (32 : Int32)), (.int (20 : Int32)), (.ref b1), (.ref b1)])) rfl rfl (hb hby at_481)
  have V43 : Arv Z h43 b1 k1 .char (23 : Int32) [(.int (nar .char (67 : Int32))), (.int (nar .char (97 : Int32))), (.int (nar .char (110 : Int32))), (.int (nar .char (110 : Int32))), (.int (nar .char (111 : Int32))), (.int (nar .char (116 : Int32))), (.int (nar .char (32 : Int32))), (.int (nar .char (102 : Int32))), (.int (nar .char (105 : Int32))), (.int (nar .char (108 : Int32))), (.int (nar .char (116 : Int32))), (.int (nar .char (101 : Int32))), (.int (nar .char (114 : Int32))), (.int (nar .char (32 : Int32))), (.int (nar .char (98 : Int32))), (.int (nar .char (121 : Int32))), (.int (nar .char (32 : Int32))), (.int (nar .char ka)), (.int (nar .char kc)), (.int (nar .char (58 : Int32))), (.int (nar .char (32 : Int32))), (.int (0 : Int32)), (.int (0 : Int32))] (.int (0 : Int32)) := Arv.set Aro42 qo42 So42 No42 Ho42 Go42 (fits_nar_char _) W43 20 rfl (Nat.le_of_ble_eq_true rfl)
  have K43 := K41.wr W43 (Or.inr sz_b1)
  have N43 := Fr.snoc X43 N41 g_b1
  obtain ⟨clo44, Aro44, qo44, So44, No44, Ho44, Go44⟩ := id V43
  have hino44 : ¬ ((21 : Int32) < 0 ∨ clo44.slots.size ≤ ((21 : Int32)).toNatClampNeg) := inb_of So44 ⟨by decide, by decide⟩
  obtain ⟨T45, h45, X45, e45, W45, st45⟩ := stC X43 hx hZ e43 Aro44 (j := (21 : Int32)) hino44 (g := (mkF m 487 #[.val (.int p0), .val (.int p1), .val (.int kl), .val (.int ka), .val (.int kc), .val (.int qa), .val (.int qc), .val (.ref kx), .unset, .unset, .unset, .unset] [(.int qa), (.int (21 : Int32)), (.ref b1), (.ref b1)])) rfl rfl (hb hby at_487)
  have V45 : Arv Z h45 b1 k1 .char (23 : Int32) [(.int (nar .char (67 : Int32))), (.int (nar .char (97 : Int32))), (.int (nar .char (110 : Int32))), (.int (nar .char (110 : Int32))), (.int (nar .char (111 : Int32))), (.int (nar .char (116 : Int32))), (.int (nar .char (32 : Int32))), (.int (nar .char (102 : Int32))), (.int (nar .char (105 : Int32))), (.int (nar .char (108 : Int32))), (.int (nar .char (116 : Int32))), (.int (nar .char (101 : Int32))), (.int (nar .char (114 : Int32))), (.int (nar .char (32 : Int32))), (.int (nar .char (98 : Int32))), (.int (nar .char (121 : Int32))), (.int (nar .char (32 : Int32))), (.int (nar .char ka)), (.int (nar .char kc)), (.int (nar .char (58 : Int32))), (.int (nar .char (32 : Int32))), (.int (nar .char qa)), (.int (0 : Int32))] (.int (0 : Int32)) := Arv.set Aro44 qo44 So44 No44 Ho44 Go44 (fits_nar_char _) W45 21 rfl (Nat.le_of_ble_eq_true rfl)
  have K45 := K43.wr W45 (Or.inr sz_b1)
  have N45 := Fr.snoc X45 N43 g_b1
  obtain ⟨clo46, Aro46, qo46, So46, No46, Ho46, Go46⟩ := id V45
  have hino46 : ¬ ((22 : Int32) < 0 ∨ clo46.slots.size ≤ ((22 : Int32)).toNatClampNeg) := inb_of So46 ⟨by decide, by decide⟩
  obtain ⟨T47, h47, X47, e47, W47, st47⟩ := stC X45 hx hZ e45 Aro46 (j := (22 : Int32)) hino46 (g := (mkF m 493 #[.val (.int p0), .val (.int p1), .val (.int kl), .val (.int ka), .val (.int kc), .val (.int qa), .val (.int qc), .val (.ref kx), .unset, .unset, .unset, .unset] [(.int qc), (.int (22 : Int32)), (.ref b1), (.ref b1)])) rfl rfl (hb hby at_493)
  have V47 : Arv Z h47 b1 k1 .char (23 : Int32) [(.int (nar .char (67 : Int32))), (.int (nar .char (97 : Int32))), (.int (nar .char (110 : Int32))), (.int (nar .char (110 : Int32))), (.int (nar .char (111 : Int32))), (.int (nar .char (116 : Int32))), (.int (nar .char (32 : Int32))), (.int (nar .char (102 : Int32))), (.int (nar .char (105 : Int32))), (.int (nar .char (108 : Int32))), (.int (nar .char (116 : Int32))), (.int (nar .char (101 : Int32))), (.int (nar .char (114 : Int32))), (.int (nar .char (32 : Int32))), (.int (nar .char (98 : Int32))), (.int (nar .char (121 : Int32))), (.int (nar .char (32 : Int32))), (.int (nar .char ka)), (.int (nar .char kc)), (.int (nar .char (58 : Int32))), (.int (nar .char (32 : Int32))), (.int (nar .char qa)), (.int (nar .char qc))] (.int (0 : Int32)) := Arv.set Aro46 qo46 So46 No46 Ho46 Go46 (fits_nar_char _) W47 22 rfl (Nat.le_of_ble_eq_true rfl)
  have K47 := K45.wr W47 (Or.inr sz_b1)
  have N47 := Fr.snoc X47 N45 g_b1
  have pre48 : ∀ t, Steps p.tables e below (T47.setTop (mkF m 496 #[.val (.int p0), .val (.int p1), .val (.int kl), .val (.int ka), .val (.int kc), .val (.int qa), .val (.int qc), .val (.ref kx), .val (.ref b1), .unset, .unset, .unset] [])) t → Steps p.tables e below (T0.setTop (mkF m 359 #[.val (.int p0), .val (.int p1), .val (.int kl), .val (.int ka), .val (.int kc), .val (.int qa), .val (.int qc), .val (.ref kx), .unset, .unset, .unset, .unset] [])) t := by
    intro t kt
    refine pre0 _ ?_
    show Steps p.tables e below (T0.setTop (mkF m 359 #[.val (.int p0), .val (.int p1), .val (.int kl), .val (.int ka), .val (.int kc), .val (.int qa), .val (.int qc), .val (.ref kx), .unset, .unset, .unset, .unset] [])) _
    refine XS.bipush X0.here hx rfl (hb hby at_359) ?_
    show Steps p.tables e below (T0.setTop (mkF m 361 #[.val (.int p0), .val (.int p1), .val (.int kl), .val (.int ka), .val (.int kc), .val (.int qa), .val (.int qc), .val (.ref kx), .unset, .unset, .unset, .unset] [(.int (23 : Int32))])) _
    refine st1 _ ?_
    show Steps p.tables e below (T1.setTop (mkF m 363 #[.val (.int p0), .val (.int p1), .val (.int kl), .val (.int ka), .val (.int kc), .val (.int qa), .val (.int qc), .val (.ref kx), .unset, .unset, .unset, .unset] [(.ref b1)])) _
    refine XS.dup X1.here hx rfl (hb hby at_363) rfl rfl ?_
    show Steps p.tables e below (T1.setTop (mkF m 364 #[.val (.int p0), .val (.int p1), .val (.int kl), .val (.int ka), .val (.int kc), .val (.int qa), .val (.int qc), .val (.ref kx), .unset, .unset, .unset, .unset] [(.ref b1), (.ref b1)])) _
    refine XS.iconst X1.here hx rfl (hb hby at_364) ?_
    show Steps p.tables e below (T1.setTop (mkF m 365 #[.val (.int p0), .val (.int p1), .val (.int kl), .val (.int ka), .val (.int kc), .val (.int qa), .val (.int qc), .val (.ref kx), .unset, .unset, .unset, .unset] [(.int (0 : Int32)), (.ref b1), (.ref b1)])) _
    refine XS.bipush X1.here hx rfl (hb hby at_365) ?_
    show Steps p.tables e below (T1.setTop (mkF m 367 #[.val (.int p0), .val (.int p1), .val (.int kl), .val (.int ka), .val (.int kc), .val (.int qa), .val (.int qc), .val (.ref kx), .unset, .unset, .unset, .unset] [(.int (67 : Int32)), (.int (0 : Int32)), (.ref b1), (.ref b1)])) _
    refine st3 _ ?_
    show Steps p.tables e below (T3.setTop (mkF m 368 #[.val (.int p0), .val (.int p1), .val (.int kl), .val (.int ka), .val (.int kc), .val (.int qa), .val (.int qc), .val (.ref kx), .unset, .unset, .unset, .unset] [(.ref b1)])) _
    refine XS.dup X3.here hx rfl (hb hby at_368) rfl rfl ?_
    show Steps p.tables e below (T3.setTop (mkF m 369 #[.val (.int p0), .val (.int p1), .val (.int kl), .val (.int ka), .val (.int kc), .val (.int qa), .val (.int qc), .val (.ref kx), .unset, .unset, .unset, .unset] [(.ref b1), (.ref b1)])) _
    refine XS.iconst X3.here hx rfl (hb hby at_369) ?_
    show Steps p.tables e below (T3.setTop (mkF m 370 #[.val (.int p0), .val (.int p1), .val (.int kl), .val (.int ka), .val (.int kc), .val (.int qa), .val (.int qc), .val (.ref kx), .unset, .unset, .unset, .unset] [(.int (1 : Int32)), (.ref b1), (.ref b1)])) _
    refine XS.bipush X3.here hx rfl (hb hby at_370) ?_
    show Steps p.tables e below (T3.setTop (mkF m 372 #[.val (.int p0), .val (.int p1), .val (.int kl), .val (.int ka), .val (.int kc), .val (.int qa), .val (.int qc), .val (.ref kx), .unset, .unset, .unset, .unset] [(.int (97 : Int32)), (.int (1 : Int32)), (.ref b1), (.ref b1)])) _
    refine st5 _ ?_
    show Steps p.tables e below (T5.setTop (mkF m 373 #[.val (.int p0), .val (.int p1), .val (.int kl), .val (.int ka), .val (.int kc), .val (.int qa), .val (.int qc), .val (.ref kx), .unset, .unset, .unset, .unset] [(.ref b1)])) _
    refine XS.dup X5.here hx rfl (hb hby at_373) rfl rfl ?_
    show Steps p.tables e below (T5.setTop (mkF m 374 #[.val (.int p0), .val (.int p1), .val (.int kl), .val (.int ka), .val (.int kc), .val (.int qa), .val (.int qc), .val (.ref kx), .unset, .unset, .unset, .unset] [(.ref b1), (.ref b1)])) _
    refine XS.iconst X5.here hx rfl (hb hby at_374) ?_
    show Steps p.tables e below (T5.setTop (mkF m 375 #[.val (.int p0), .val (.int p1), .val (.int kl), .val (.int ka), .val (.int kc), .val (.int qa), .val (.int qc), .val (.ref kx), .unset, .unset, .unset, .unset] [(.int (2 : Int32)), (.ref b1), (.ref b1)])) _
    refine XS.bipush X5.here hx rfl (hb hby at_375) ?_
    show Steps p.tables e below (T5.setTop (mkF m 377 #[.val (.int p0), .val (.int p1), .val (.int kl), .val (.int ka), .val (.int kc), .val (.int qa), .val (.int qc), .val (.ref kx), .unset, .unset, .unset, .unset] [(.int (110 : Int32)), (.int (2 : Int32)), (.ref b1), (.ref b1)])) _
    refine st7 _ ?_
    show Steps p.tables e below (T7.setTop (mkF m 378 #[.val (.int p0), .val (.int p1), .val (.int kl), .val (.int ka), .val (.int kc), .val (.int qa), .val (.int qc), .val (.ref kx), .unset, .unset, .unset, .unset] [(.ref b1)])) _
    refine XS.dup X7.here hx rfl (hb hby at_378) rfl rfl ?_
    show Steps p.tables e below (T7.setTop (mkF m 379 #[.val (.int p0), .val (.int p1), .val (.int kl), .val (.int ka), .val (.int kc), .val (.int qa), .val (.int qc), .val (.ref kx), .unset, .unset, .unset, .unset] [(.ref b1), (.ref b1)])) _
    refine XS.iconst X7.here hx rfl (hb hby at_379) ?_
    show Steps p.tables e below (T7.setTop (mkF m 380 #[.val (.int p0), .val (.int p1), .val (.int kl), .val (.int ka), .val (.int kc), .val (.int qa), .val (.int qc), .val (.ref kx), .unset, .unset, .unset, .unset] [(.int (3 : Int32)), (.ref b1), (.ref b1)])) _
    refine XS.bipush X7.here hx rfl (hb hby at_380) ?_
    show Steps p.tables e below (T7.setTop (mkF m 382 #[.val (.int p0), .val (.int p1), .val (.int kl), .val (.int ka), .val (.int kc), .val (.int qa), .val (.int qc), .val (.ref kx), .unset, .unset, .unset, .unset] [(.int (110 : Int32)), (.int (3 : Int32)), (.ref b1), (.ref b1)])) _
    refine st9 _ ?_
    show Steps p.tables e below (T9.setTop (mkF m 383 #[.val (.int p0), .val (.int p1), .val (.int kl), .val (.int ka), .val (.int kc), .val (.int qa), .val (.int qc), .val (.ref kx), .unset, .unset, .unset, .unset] [(.ref b1)])) _
    refine XS.dup X9.here hx rfl (hb hby at_383) rfl rfl ?_
    show Steps p.tables e below (T9.setTop (mkF m 384 #[.val (.int p0), .val (.int p1), .val (.int kl), .val (.int ka), .val (.int kc), .val (.int qa), .val (.int qc), .val (.ref kx), .unset, .unset, .unset, .unset] [(.ref b1), (.ref b1)])) _
    refine XS.iconst X9.here hx rfl (hb hby at_384) ?_
    show Steps p.tables e below (T9.setTop (mkF m 385 #[.val (.int p0), .val (.int p1), .val (.int kl), .val (.int ka), .val (.int kc), .val (.int qa), .val (.int qc), .val (.ref kx), .unset, .unset, .unset, .unset] [(.int (4 : Int32)), (.ref b1), (.ref b1)])) _
    refine XS.bipush X9.here hx rfl (hb hby at_385) ?_
    show Steps p.tables e below (T9.setTop (mkF m 387 #[.val (.int p0), .val (.int p1), .val (.int kl), .val (.int ka), .val (.int kc), .val (.int qa), .val (.int qc), .val (.ref kx), .unset, .unset, .unset, .unset] [(.int (111 : Int32)), (.int (4 : Int32)), (.ref b1), (.ref b1)])) _
    refine st11 _ ?_
    show Steps p.tables e below (T11.setTop (mkF m 388 #[.val (.int p0), .val (.int p1), .val (.int kl), .val (.int ka), .val (.int kc), .val (.int qa), .val (.int qc), .val (.ref kx), .unset, .unset, .unset, .unset] [(.ref b1)])) _
    refine XS.dup X11.here hx rfl (hb hby at_388) rfl rfl ?_
    show Steps p.tables e below (T11.setTop (mkF m 389 #[.val (.int p0), .val (.int p1), .val (.int kl), .val (.int ka), .val (.int kc), .val (.int qa), .val (.int qc), .val (.ref kx), .unset, .unset, .unset, .unset] [(.ref b1), (.ref b1)])) _
    refine XS.iconst X11.here hx rfl (hb hby at_389) ?_
    show Steps p.tables e below (T11.setTop (mkF m 390 #[.val (.int p0), .val (.int p1), .val (.int kl), .val (.int ka), .val (.int kc), .val (.int qa), .val (.int qc), .val (.ref kx), .unset, .unset, .unset, .unset] [(.int (5 : Int32)), (.ref b1), (.ref b1)])) _
    refine XS.bipush X11.here hx rfl (hb hby at_390) ?_
    show Steps p.tables e below (T11.setTop (mkF m 392 #[.val (.int p0), .val (.int p1), .val (.int kl), .val (.int ka), .val (.int kc), .val (.int qa), .val (.int qc), .val (.ref kx), .unset, .unset, .unset, .unset] [(.int (116 : Int32)), (.int (5 : Int32)), (.ref b1), (.ref b1)])) _
    refine st13 _ ?_
    show Steps p.tables e below (T13.setTop (mkF m 393 #[.val (.int p0), .val (.int p1), .val (.int kl), .val (.int ka), .val (.int kc), .val (.int qa), .val (.int qc), .val (.ref kx), .unset, .unset, .unset, .unset] [(.ref b1)])) _
    refine XS.dup X13.here hx rfl (hb hby at_393) rfl rfl ?_
    show Steps p.tables e below (T13.setTop (mkF m 394 #[.val (.int p0), .val (.int p1), .val (.int kl), .val (.int ka), .val (.int kc), .val (.int qa), .val (.int qc), .val (.ref kx), .unset, .unset, .unset, .unset] [(.ref b1), (.ref b1)])) _
    refine XS.bipush X13.here hx rfl (hb hby at_394) ?_
    show Steps p.tables e below (T13.setTop (mkF m 396 #[.val (.int p0), .val (.int p1), .val (.int kl), .val (.int ka), .val (.int kc), .val (.int qa), .val (.int qc), .val (.ref kx), .unset, .unset, .unset, .unset] [(.int (6 : Int32)), (.ref b1), (.ref b1)])) _
    refine XS.bipush X13.here hx rfl (hb hby at_396) ?_
    show Steps p.tables e below (T13.setTop (mkF m 398 #[.val (.int p0), .val (.int p1), .val (.int kl), .val (.int ka), .val (.int kc), .val (.int qa), .val (.int qc), .val (.ref kx), .unset, .unset, .unset, .unset] [(.int (32 : Int32)), (.int (6 : Int32)), (.ref b1), (.ref b1)])) _
    refine st15 _ ?_
    show Steps p.tables e below (T15.setTop (mkF m 399 #[.val (.int p0), .val (.int p1), .val (.int kl), .val (.int ka), .val (.int kc), .val (.int qa), .val (.int qc), .val (.ref kx), .unset, .unset, .unset, .unset] [(.ref b1)])) _
    refine XS.dup X15.here hx rfl (hb hby at_399) rfl rfl ?_
    show Steps p.tables e below (T15.setTop (mkF m 400 #[.val (.int p0), .val (.int p1), .val (.int kl), .val (.int ka), .val (.int kc), .val (.int qa), .val (.int qc), .val (.ref kx), .unset, .unset, .unset, .unset] [(.ref b1), (.ref b1)])) _
    refine XS.bipush X15.here hx rfl (hb hby at_400) ?_
    show Steps p.tables e below (T15.setTop (mkF m 402 #[.val (.int p0), .val (.int p1), .val (.int kl), .val (.int ka), .val (.int kc), .val (.int qa), .val (.int qc), .val (.ref kx), .unset, .unset, .unset, .unset] [(.int (7 : Int32)), (.ref b1), (.ref b1)])) _
    refine XS.bipush X15.here hx rfl (hb hby at_402) ?_
    show Steps p.tables e below (T15.setTop (mkF m 404 #[.val (.int p0), .val (.int p1), .val (.int kl), .val (.int ka), .val (.int kc), .val (.int qa), .val (.int qc), .val (.ref kx), .unset, .unset, .unset, .unset] [(.int (102 : Int32)), (.int (7 : Int32)), (.ref b1), (.ref b1)])) _
    refine st17 _ ?_
    show Steps p.tables e below (T17.setTop (mkF m 405 #[.val (.int p0), .val (.int p1), .val (.int kl), .val (.int ka), .val (.int kc), .val (.int qa), .val (.int qc), .val (.ref kx), .unset, .unset, .unset, .unset] [(.ref b1)])) _
    refine XS.dup X17.here hx rfl (hb hby at_405) rfl rfl ?_
    show Steps p.tables e below (T17.setTop (mkF m 406 #[.val (.int p0), .val (.int p1), .val (.int kl), .val (.int ka), .val (.int kc), .val (.int qa), .val (.int qc), .val (.ref kx), .unset, .unset, .unset, .unset] [(.ref b1), (.ref b1)])) _
    refine XS.bipush X17.here hx rfl (hb hby at_406) ?_
    show Steps p.tables e below (T17.setTop (mkF m 408 #[.val (.int p0), .val (.int p1), .val (.int kl), .val (.int ka), .val (.int kc), .val (.int qa), .val (.int qc), .val (.ref kx), .unset, .unset, .unset, .unset] [(.int (8 : Int32)), (.ref b1), (.ref b1)])) _
    refine XS.bipush X17.here hx rfl (hb hby at_408) ?_
    show Steps p.tables e below (T17.setTop (mkF m 410 #[.val (.int p0), .val (.int p1), .val (.int kl), .val (.int ka), .val (.int kc), .val (.int qa), .val (.int qc), .val (.ref kx), .unset, .unset, .unset, .unset] [(.int (105 : Int32)), (.int (8 : Int32)), (.ref b1), (.ref b1)])) _
    refine st19 _ ?_
    show Steps p.tables e below (T19.setTop (mkF m 411 #[.val (.int p0), .val (.int p1), .val (.int kl), .val (.int ka), .val (.int kc), .val (.int qa), .val (.int qc), .val (.ref kx), .unset, .unset, .unset, .unset] [(.ref b1)])) _
    refine XS.dup X19.here hx rfl (hb hby at_411) rfl rfl ?_
    show Steps p.tables e below (T19.setTop (mkF m 412 #[.val (.int p0), .val (.int p1), .val (.int kl), .val (.int ka), .val (.int kc), .val (.int qa), .val (.int qc), .val (.ref kx), .unset, .unset, .unset, .unset] [(.ref b1), (.ref b1)])) _
    refine XS.bipush X19.here hx rfl (hb hby at_412) ?_
    show Steps p.tables e below (T19.setTop (mkF m 414 #[.val (.int p0), .val (.int p1), .val (.int kl), .val (.int ka), .val (.int kc), .val (.int qa), .val (.int qc), .val (.ref kx), .unset, .unset, .unset, .unset] [(.int (9 : Int32)), (.ref b1), (.ref b1)])) _
    refine XS.bipush X19.here hx rfl (hb hby at_414) ?_
    show Steps p.tables e below (T19.setTop (mkF m 416 #[.val (.int p0), .val (.int p1), .val (.int kl), .val (.int ka), .val (.int kc), .val (.int qa), .val (.int qc), .val (.ref kx), .unset, .unset, .unset, .unset] [(.int (108 : Int32)), (.int (9 : Int32)), (.ref b1), (.ref b1)])) _
    refine st21 _ ?_
    show Steps p.tables e below (T21.setTop (mkF m 417 #[.val (.int p0), .val (.int p1), .val (.int kl), .val (.int ka), .val (.int kc), .val (.int qa), .val (.int qc), .val (.ref kx), .unset, .unset, .unset, .unset] [(.ref b1)])) _
    refine XS.dup X21.here hx rfl (hb hby at_417) rfl rfl ?_
    show Steps p.tables e below (T21.setTop (mkF m 418 #[.val (.int p0), .val (.int p1), .val (.int kl), .val (.int ka), .val (.int kc), .val (.int qa), .val (.int qc), .val (.ref kx), .unset, .unset, .unset, .unset] [(.ref b1), (.ref b1)])) _
    refine XS.bipush X21.here hx rfl (hb hby at_418) ?_
    show Steps p.tables e below (T21.setTop (mkF m 420 #[.val (.int p0), .val (.int p1), .val (.int kl), .val (.int ka), .val (.int kc), .val (.int qa), .val (.int qc), .val (.ref kx), .unset, .unset, .unset, .unset] [(.int (10 : Int32)), (.ref b1), (.ref b1)])) _
    refine XS.bipush X21.here hx rfl (hb hby at_420) ?_
    show Steps p.tables e below (T21.setTop (mkF m 422 #[.val (.int p0), .val (.int p1), .val (.int kl), .val (.int ka), .val (.int kc), .val (.int qa), .val (.int qc), .val (.ref kx), .unset, .unset, .unset, .unset] [(.int (116 : Int32)), (.int (10 : Int32)), (.ref b1), (.ref b1)])) _
    refine st23 _ ?_
    show Steps p.tables e below (T23.setTop (mkF m 423 #[.val (.int p0), .val (.int p1), .val (.int kl), .val (.int ka), .val (.int kc), .val (.int qa), .val (.int qc), .val (.ref kx), .unset, .unset, .unset, .unset] [(.ref b1)])) _
    refine XS.dup X23.here hx rfl (hb hby at_423) rfl rfl ?_
    show Steps p.tables e below (T23.setTop (mkF m 424 #[.val (.int p0), .val (.int p1), .val (.int kl), .val (.int ka), .val (.int kc), .val (.int qa), .val (.int qc), .val (.ref kx), .unset, .unset, .unset, .unset] [(.ref b1), (.ref b1)])) _
    refine XS.bipush X23.here hx rfl (hb hby at_424) ?_
    show Steps p.tables e below (T23.setTop (mkF m 426 #[.val (.int p0), .val (.int p1), .val (.int kl), .val (.int ka), .val (.int kc), .val (.int qa), .val (.int qc), .val (.ref kx), .unset, .unset, .unset, .unset] [(.int (11 : Int32)), (.ref b1), (.ref b1)])) _
    refine XS.bipush X23.here hx rfl (hb hby at_426) ?_
    show Steps p.tables e below (T23.setTop (mkF m 428 #[.val (.int p0), .val (.int p1), .val (.int kl), .val (.int ka), .val (.int kc), .val (.int qa), .val (.int qc), .val (.ref kx), .unset, .unset, .unset, .unset] [(.int (101 : Int32)), (.int (11 : Int32)), (.ref b1), (.ref b1)])) _
    refine st25 _ ?_
    show Steps p.tables e below (T25.setTop (mkF m 429 #[.val (.int p0), .val (.int p1), .val (.int kl), .val (.int ka), .val (.int kc), .val (.int qa), .val (.int qc), .val (.ref kx), .unset, .unset, .unset, .unset] [(.ref b1)])) _
    refine XS.dup X25.here hx rfl (hb hby at_429) rfl rfl ?_
    show Steps p.tables e below (T25.setTop (mkF m 430 #[.val (.int p0), .val (.int p1), .val (.int kl), .val (.int ka), .val (.int kc), .val (.int qa), .val (.int qc), .val (.ref kx), .unset, .unset, .unset, .unset] [(.ref b1), (.ref b1)])) _
    refine XS.bipush X25.here hx rfl (hb hby at_430) ?_
    show Steps p.tables e below (T25.setTop (mkF m 432 #[.val (.int p0), .val (.int p1), .val (.int kl), .val (.int ka), .val (.int kc), .val (.int qa), .val (.int qc), .val (.ref kx), .unset, .unset, .unset, .unset] [(.int (12 : Int32)), (.ref b1), (.ref b1)])) _
    refine XS.bipush X25.here hx rfl (hb hby at_432) ?_
    show Steps p.tables e below (T25.setTop (mkF m 434 #[.val (.int p0), .val (.int p1), .val (.int kl), .val (.int ka), .val (.int kc), .val (.int qa), .val (.int qc), .val (.ref kx), .unset, .unset, .unset, .unset] [(.int (114 : Int32)), (.int (12 : Int32)), (.ref b1), (.ref b1)])) _
    refine st27 _ ?_
    show Steps p.tables e below (T27.setTop (mkF m 435 #[.val (.int p0), .val (.int p1), .val (.int kl), .val (.int ka), .val (.int kc), .val (.int qa), .val (.int qc), .val (.ref kx), .unset, .unset, .unset, .unset] [(.ref b1)])) _
    refine XS.dup X27.here hx rfl (hb hby at_435) rfl rfl ?_
    show Steps p.tables e below (T27.setTop (mkF m 436 #[.val (.int p0), .val (.int p1), .val (.int kl), .val (.int ka), .val (.int kc), .val (.int qa), .val (.int qc), .val (.ref kx), .unset, .unset, .unset, .unset] [(.ref b1), (.ref b1)])) _
    refine XS.bipush X27.here hx rfl (hb hby at_436) ?_
    show Steps p.tables e below (T27.setTop (mkF m 438 #[.val (.int p0), .val (.int p1), .val (.int kl), .val (.int ka), .val (.int kc), .val (.int qa), .val (.int qc), .val (.ref kx), .unset, .unset, .unset, .unset] [(.int (13 : Int32)), (.ref b1), (.ref b1)])) _
    refine XS.bipush X27.here hx rfl (hb hby at_438) ?_
    show Steps p.tables e below (T27.setTop (mkF m 440 #[.val (.int p0), .val (.int p1), .val (.int kl), .val (.int ka), .val (.int kc), .val (.int qa), .val (.int qc), .val (.ref kx), .unset, .unset, .unset, .unset] [(.int (32 : Int32)), (.int (13 : Int32)), (.ref b1), (.ref b1)])) _
    refine st29 _ ?_
    show Steps p.tables e below (T29.setTop (mkF m 441 #[.val (.int p0), .val (.int p1), .val (.int kl), .val (.int ka), .val (.int kc), .val (.int qa), .val (.int qc), .val (.ref kx), .unset, .unset, .unset, .unset] [(.ref b1)])) _
    refine XS.dup X29.here hx rfl (hb hby at_441) rfl rfl ?_
    show Steps p.tables e below (T29.setTop (mkF m 442 #[.val (.int p0), .val (.int p1), .val (.int kl), .val (.int ka), .val (.int kc), .val (.int qa), .val (.int qc), .val (.ref kx), .unset, .unset, .unset, .unset] [(.ref b1), (.ref b1)])) _
    refine XS.bipush X29.here hx rfl (hb hby at_442) ?_
    show Steps p.tables e below (T29.setTop (mkF m 444 #[.val (.int p0), .val (.int p1), .val (.int kl), .val (.int ka), .val (.int kc), .val (.int qa), .val (.int qc), .val (.ref kx), .unset, .unset, .unset, .unset] [(.int (14 : Int32)), (.ref b1), (.ref b1)])) _
    refine XS.bipush X29.here hx rfl (hb hby at_444) ?_
    show Steps p.tables e below (T29.setTop (mkF m 446 #[.val (.int p0), .val (.int p1), .val (.int kl), .val (.int ka), .val (.int kc), .val (.int qa), .val (.int qc), .val (.ref kx), .unset, .unset, .unset, .unset] [(.int (98 : Int32)), (.int (14 : Int32)), (.ref b1), (.ref b1)])) _
    refine st31 _ ?_
    show Steps p.tables e below (T31.setTop (mkF m 447 #[.val (.int p0), .val (.int p1), .val (.int kl), .val (.int ka), .val (.int kc), .val (.int qa), .val (.int qc), .val (.ref kx), .unset, .unset, .unset, .unset] [(.ref b1)])) _
    refine XS.dup X31.here hx rfl (hb hby at_447) rfl rfl ?_
    show Steps p.tables e below (T31.setTop (mkF m 448 #[.val (.int p0), .val (.int p1), .val (.int kl), .val (.int ka), .val (.int kc), .val (.int qa), .val (.int qc), .val (.ref kx), .unset, .unset, .unset, .unset] [(.ref b1), (.ref b1)])) _
    refine XS.bipush X31.here hx rfl (hb hby at_448) ?_
    show Steps p.tables e below (T31.setTop (mkF m 450 #[.val (.int p0), .val (.int p1), .val (.int kl), .val (.int ka), .val (.int kc), .val (.int qa), .val (.int qc), .val (.ref kx), .unset, .unset, .unset, .unset] [(.int (15 : Int32)), (.ref b1), (.ref b1)])) _
    refine XS.bipush X31.here hx rfl (hb hby at_450) ?_
    show Steps p.tables e below (T31.setTop (mkF m 452 #[.val (.int p0), .val (.int p1), .val (.int kl), .val (.int ka), .val (.int kc), .val (.int qa), .val (.int qc), .val (.ref kx), .unset, .unset, .unset, .unset] [(.int (121 : Int32)), (.int (15 : Int32)), (.ref b1), (.ref b1)])) _
    refine st33 _ ?_
    show Steps p.tables e below (T33.setTop (mkF m 453 #[.val (.int p0), .val (.int p1), .val (.int kl), .val (.int ka), .val (.int kc), .val (.int qa), .val (.int qc), .val (.ref kx), .unset, .unset, .unset, .unset] [(.ref b1)])) _
    refine XS.dup X33.here hx rfl (hb hby at_453) rfl rfl ?_
    show Steps p.tables e below (T33.setTop (mkF m 454 #[.val (.int p0), .val (.int p1), .val (.int kl), .val (.int ka), .val (.int kc), .val (.int qa), .val (.int qc), .val (.ref kx), .unset, .unset, .unset, .unset] [(.ref b1), (.ref b1)])) _
    refine XS.bipush X33.here hx rfl (hb hby at_454) ?_
    show Steps p.tables e below (T33.setTop (mkF m 456 #[.val (.int p0), .val (.int p1), .val (.int kl), .val (.int ka), .val (.int kc), .val (.int qa), .val (.int qc), .val (.ref kx), .unset, .unset, .unset, .unset] [(.int (16 : Int32)), (.ref b1), (.ref b1)])) _
    refine XS.bipush X33.here hx rfl (hb hby at_456) ?_
    show Steps p.tables e below (T33.setTop (mkF m 458 #[.val (.int p0), .val (.int p1), .val (.int kl), .val (.int ka), .val (.int kc), .val (.int qa), .val (.int qc), .val (.ref kx), .unset, .unset, .unset, .unset] [(.int (32 : Int32)), (.int (16 : Int32)), (.ref b1), (.ref b1)])) _
    refine st35 _ ?_
    show Steps p.tables e below (T35.setTop (mkF m 459 #[.val (.int p0), .val (.int p1), .val (.int kl), .val (.int ka), .val (.int kc), .val (.int qa), .val (.int qc), .val (.ref kx), .unset, .unset, .unset, .unset] [(.ref b1)])) _
    refine XS.dup X35.here hx rfl (hb hby at_459) rfl rfl ?_
    show Steps p.tables e below (T35.setTop (mkF m 460 #[.val (.int p0), .val (.int p1), .val (.int kl), .val (.int ka), .val (.int kc), .val (.int qa), .val (.int qc), .val (.ref kx), .unset, .unset, .unset, .unset] [(.ref b1), (.ref b1)])) _
    refine XS.bipush X35.here hx rfl (hb hby at_460) ?_
    show Steps p.tables e below (T35.setTop (mkF m 462 #[.val (.int p0), .val (.int p1), .val (.int kl), .val (.int ka), .val (.int kc), .val (.int qa), .val (.int qc), .val (.ref kx), .unset, .unset, .unset, .unset] [(.int (17 : Int32)), (.ref b1), (.ref b1)])) _
    refine XS.iloadN X35.here hx rfl (hb hby at_462) rfl ?_
    show Steps p.tables e below (T35.setTop (mkF m 463 #[.val (.int p0), .val (.int p1), .val (.int kl), .val (.int ka), .val (.int kc), .val (.int qa), .val (.int qc), .val (.ref kx), .unset, .unset, .unset, .unset] [(.int ka), (.int (17 : Int32)), (.ref b1), (.ref b1)])) _
    refine st37 _ ?_
    show Steps p.tables e below (T37.setTop (mkF m 464 #[.val (.int p0), .val (.int p1), .val (.int kl), .val (.int ka), .val (.int kc), .val (.int qa), .val (.int qc), .val (.ref kx), .unset, .unset, .unset, .unset] [(.ref b1)])) _
    refine XS.dup X37.here hx rfl (hb hby at_464) rfl rfl ?_
    show Steps p.tables e below (T37.setTop (mkF m 465 #[.val (.int p0), .val (.int p1), .val (.int kl), .val (.int ka), .val (.int kc), .val (.int qa), .val (.int qc), .val (.ref kx), .unset, .unset, .unset, .unset] [(.ref b1), (.ref b1)])) _
    refine XS.bipush X37.here hx rfl (hb hby at_465) ?_
    show Steps p.tables e below (T37.setTop (mkF m 467 #[.val (.int p0), .val (.int p1), .val (.int kl), .val (.int ka), .val (.int kc), .val (.int qa), .val (.int qc), .val (.ref kx), .unset, .unset, .unset, .unset] [(.int (18 : Int32)), (.ref b1), (.ref b1)])) _
    refine XS.iload X37.here hx rfl (hb hby at_467) rfl ?_
    show Steps p.tables e below (T37.setTop (mkF m 469 #[.val (.int p0), .val (.int p1), .val (.int kl), .val (.int ka), .val (.int kc), .val (.int qa), .val (.int qc), .val (.ref kx), .unset, .unset, .unset, .unset] [(.int kc), (.int (18 : Int32)), (.ref b1), (.ref b1)])) _
    refine st39 _ ?_
    show Steps p.tables e below (T39.setTop (mkF m 470 #[.val (.int p0), .val (.int p1), .val (.int kl), .val (.int ka), .val (.int kc), .val (.int qa), .val (.int qc), .val (.ref kx), .unset, .unset, .unset, .unset] [(.ref b1)])) _
    refine XS.dup X39.here hx rfl (hb hby at_470) rfl rfl ?_
    show Steps p.tables e below (T39.setTop (mkF m 471 #[.val (.int p0), .val (.int p1), .val (.int kl), .val (.int ka), .val (.int kc), .val (.int qa), .val (.int qc), .val (.ref kx), .unset, .unset, .unset, .unset] [(.ref b1), (.ref b1)])) _
    refine XS.bipush X39.here hx rfl (hb hby at_471) ?_
    show Steps p.tables e below (T39.setTop (mkF m 473 #[.val (.int p0), .val (.int p1), .val (.int kl), .val (.int ka), .val (.int kc), .val (.int qa), .val (.int qc), .val (.ref kx), .unset, .unset, .unset, .unset] [(.int (19 : Int32)), (.ref b1), (.ref b1)])) _
    refine XS.bipush X39.here hx rfl (hb hby at_473) ?_
    show Steps p.tables e below (T39.setTop (mkF m 475 #[.val (.int p0), .val (.int p1), .val (.int kl), .val (.int ka), .val (.int kc), .val (.int qa), .val (.int qc), .val (.ref kx), .unset, .unset, .unset, .unset] [(.int (58 : Int32)), (.int (19 : Int32)), (.ref b1), (.ref b1)])) _
    refine st41 _ ?_
    show Steps p.tables e below (T41.setTop (mkF m 476 #[.val (.int p0), .val (.int p1), .val (.int kl), .val (.int ka), .val (.int kc), .val (.int qa), .val (.int qc), .val (.ref kx), .unset, .unset, .unset, .unset] [(.ref b1)])) _
    refine XS.dup X41.here hx rfl (hb hby at_476) rfl rfl ?_
    show Steps p.tables e below (T41.setTop (mkF m 477 #[.val (.int p0), .val (.int p1), .val (.int kl), .val (.int ka), .val (.int kc), .val (.int qa), .val (.int qc), .val (.ref kx), .unset, .unset, .unset, .unset] [(.ref b1), (.ref b1)])) _
    refine XS.bipush X41.here hx rfl (hb hby at_477) ?_
    show Steps p.tables e below (T41.setTop (mkF m 479 #[.val (.int p0), .val (.int p1), .val (.int kl), .val (.int ka), .val (.int kc), .val (.int qa), .val (.int qc), .val (.ref kx), .unset, .unset, .unset, .unset] [(.int (20 : Int32)), (.ref b1), (.ref b1)])) _
    refine XS.bipush X41.here hx rfl (hb hby at_479) ?_
    show Steps p.tables e below (T41.setTop (mkF m 481 #[.val (.int p0), .val (.int p1), .val (.int kl), .val (.int ka), .val (.int kc), .val (.int qa), .val (.int qc), .val (.ref kx), .unset, .unset, .unset, .unset] [(.int (32 : Int32)), (.int (20 : Int32)), (.ref b1), (.ref b1)])) _
    refine st43 _ ?_
    show Steps p.tables e below (T43.setTop (mkF m 482 #[.val (.int p0), .val (.int p1), .val (.int kl), .val (.int ka), .val (.int kc), .val (.int qa), .val (.int qc), .val (.ref kx), .unset, .unset, .unset, .unset] [(.ref b1)])) _
    refine XS.dup X43.here hx rfl (hb hby at_482) rfl rfl ?_
    show Steps p.tables e below (T43.setTop (mkF m 483 #[.val (.int p0), .val (.int p1), .val (.int kl), .val (.int ka), .val (.int kc), .val (.int qa), .val (.int qc), .val (.ref kx), .unset, .unset, .unset, .unset] [(.ref b1), (.ref b1)])) _
    refine XS.bipush X43.here hx rfl (hb hby at_483) ?_
    show Steps p.tables e below (T43.setTop (mkF m 485 #[.val (.int p0), .val (.int p1), .val (.int kl), .val (.int ka), .val (.int kc), .val (.int qa), .val (.int qc), .val (.ref kx), .unset, .unset, .unset, .unset] [(.int (21 : Int32)), (.ref b1), (.ref b1)])) _
    refine XS.iload X43.here hx rfl (hb hby at_485) rfl ?_
    show Steps p.tables e below (T43.setTop (mkF m 487 #[.val (.int p0), .val (.int p1), .val (.int kl), .val (.int ka), .val (.int kc), .val (.int qa), .val (.int qc), .val (.ref kx), .unset, .unset, .unset, .unset] [(.int qa), (.int (21 : Int32)), (.ref b1), (.ref b1)])) _
    refine st45 _ ?_
    show Steps p.tables e below (T45.setTop (mkF m 488 #[.val (.int p0), .val (.int p1), .val (.int kl), .val (.int ka), .val (.int kc), .val (.int qa), .val (.int qc), .val (.ref kx), .unset, .unset, .unset, .unset] [(.ref b1)])) _
    refine XS.dup X45.here hx rfl (hb hby at_488) rfl rfl ?_
    show Steps p.tables e below (T45.setTop (mkF m 489 #[.val (.int p0), .val (.int p1), .val (.int kl), .val (.int ka), .val (.int kc), .val (.int qa), .val (.int qc), .val (.ref kx), .unset, .unset, .unset, .unset] [(.ref b1), (.ref b1)])) _
    refine XS.bipush X45.here hx rfl (hb hby at_489) ?_
    show Steps p.tables e below (T45.setTop (mkF m 491 #[.val (.int p0), .val (.int p1), .val (.int kl), .val (.int ka), .val (.int kc), .val (.int qa), .val (.int qc), .val (.ref kx), .unset, .unset, .unset, .unset] [(.int (22 : Int32)), (.ref b1), (.ref b1)])) _
    refine XS.iload X45.here hx rfl (hb hby at_491) rfl ?_
    show Steps p.tables e below (T45.setTop (mkF m 493 #[.val (.int p0), .val (.int p1), .val (.int kl), .val (.int ka), .val (.int kc), .val (.int qa), .val (.int qc), .val (.ref kx), .unset, .unset, .unset, .unset] [(.int qc), (.int (22 : Int32)), (.ref b1), (.ref b1)])) _
    refine st47 _ ?_
    show Steps p.tables e below (T47.setTop (mkF m 494 #[.val (.int p0), .val (.int p1), .val (.int kl), .val (.int ka), .val (.int kc), .val (.int qa), .val (.int qc), .val (.ref kx), .unset, .unset, .unset, .unset] [(.ref b1)])) _
    refine XS.astore X47.here hx rfl (hb hby at_494) rfl rfl (l' := #[.val (.int p0), .val (.int p1), .val (.int kl), .val (.int ka), .val (.int kc), .val (.int qa), .val (.int qc), .val (.ref kx), .val (.ref b1), .unset, .unset, .unset]) rfl ?_
    show Steps p.tables e below (T47.setTop (mkF m 496 #[.val (.int p0), .val (.int p1), .val (.int kl), .val (.int ka), .val (.int kc), .val (.int qa), .val (.int qc), .val (.ref kx), .val (.ref b1), .unset, .unset, .unset] [])) _
    exact kt
  have vz : Arv Z h47 b1 k1 .char (23 : Int32) (([(67 : Int32), (97 : Int32), (110 : Int32), (110 : Int32), (111 : Int32), (116 : Int32), (32 : Int32), (102 : Int32), (105 : Int32), (108 : Int32), (116 : Int32), (101 : Int32), (114 : Int32), (32 : Int32), (98 : Int32), (121 : Int32), (32 : Int32), ka, kc, (58 : Int32), (32 : Int32), qa, qc] : List Int32).map Value.int) (.int (0 : Int32)) := by
    have q : Arv Z h47 b1 k1 .char (23 : Int32) (([(67 : Int32), (97 : Int32), (110 : Int32), (110 : Int32), (111 : Int32), (116 : Int32), (32 : Int32), (102 : Int32), (105 : Int32), (108 : Int32), (116 : Int32), (101 : Int32), (114 : Int32), (32 : Int32), (98 : Int32), (121 : Int32), (32 : Int32), ka, kc, (58 : Int32), (32 : Int32), qa, qc] : List Int32).map fun c => Value.int (nar .char c)) (.int (0 : Int32)) := V47
    rw [own_c16L (own_cons ⟨by decide, by decide⟩ (own_cons ⟨by decide, by decide⟩ (own_cons ⟨by decide, by decide⟩ (own_cons ⟨by decide, by decide⟩ (own_cons ⟨by decide, by decide⟩ (own_cons ⟨by decide, by decide⟩ (own_cons ⟨by decide, by decide⟩ (own_cons ⟨by decide, by decide⟩ (own_cons ⟨by decide, by decide⟩ (own_cons ⟨by decide, by decide⟩ (own_cons ⟨by decide, by decide⟩ (own_cons ⟨by decide, by decide⟩ (own_cons ⟨by decide, by decide⟩ (own_cons ⟨by decide, by decide⟩ (own_cons ⟨by decide, by decide⟩ (own_cons ⟨by decide, by decide⟩ (own_cons ⟨by decide, by decide⟩ (own_cons hka (own_cons hkc (own_cons ⟨by decide, by decide⟩ (own_cons ⟨by decide, by decide⟩ (own_cons hqa (own_cons hqc own_lm0)))))))))))))))))))))))] at q; exact q
  exact ⟨_, _, _, _, X47.more (by decide) (by decide), N47, by rw [e47]; exact K47, by rw [e47]; exact vz, pre48⟩
theorem pd__Ljava_lang_Object__Z : parseMethodDescriptor "(Ljava/lang/Object;)Z" = some ⟨[(.object "java/lang/Object")], some .boolean⟩ := by decide +kernel
theorem pd__Ljava_lang_String_Ljava_lang_String__Lcom_example_modelwright_modelwright_FilterException_ : parseMethodDescriptor "(Ljava/lang/String;Ljava/lang/String;)Lcom/example/modelwright/modelwright/FilterException;" = some ⟨[(.object "java/lang/String"), (.object "java/lang/String")], some (.object "com/example/modelwright/modelwright/FilterException")⟩ := by decide +kernel
theorem pd___C_V : parseMethodDescriptor "([C)V" = some ⟨[(.array .char)], none⟩ := by decide +kernel
set_option maxRecDepth 65536 in
set_option maxHeartbeats 40000000 in
theorem own_tail0 {p : Program} {l : Launch} {e : Env} {s : State} {m : MethodId} {args : Array Value} {below : List Frame} {meth : Method} {c : Code} {T0 : State} {locs : List Loc} {Z : State} {a0 : Array Value} {h0 : Heap} {n0 : Nat} {p0 p1 kl ka kc qa qc : Int32} {kx : Addr} {ex : Addr} {ek : ClassId} {G1 : Int32} {ua ub : Addr} {Ts : List String}
    (X0 : Stand p l e room_1 s m args below meth c T0 locs 4 31) (hx : p.tables.exec = Jvm.exec) (hZ : Z.Warmed39 s.vm) (hw : ∀ d ∈ tables_1, d.before a0 Z = true) (hby : c.code = code) (hml : c.maxLocals = 12) (hown : s.vm.findClass "com/example/modelwright/modelwright/FilterExceptionOfFilterKeyPinLaw" = some m.cls) (e0 : T0.heap = h0) (N0 : Fr n0 locs) (Z0 : n0 ≤ h0.size) (hka : own_c255 ka) (hkc : own_c255 kc) (hqa : own_c255 qa) (hqc : own_c255 qc) (OLD0 : Old Z n0 h0) (SCS : Sta Z Z.heap "java/lang/String" "COMPACT_STRINGS" "Z" (.int G1)) (P5 : ¬ (G1 = (0 : Int32))) (hl : l.stackTraces = true) (SU : Sta Z Z.heap "java/lang/Throwable" "UNASSIGNED_STACK" "[Ljava/lang/StackTraceElement;" (.ref ua)) (SV : Sta Z Z.heap "java/lang/Throwable" "SUPPRESSED_SENTINEL" "Ljava/util/List;" (.ref ub)) (XK : own_str Z h0 kx ([] : List Int32)) (XA : Arv Z h0 ex ek .char (21 : Int32) (([(67 : Int32), (97 : Int32), (110 : Int32), (110 : Int32), (111 : Int32), (116 : Int32), (32 : Int32), (102 : Int32), (105 : Int32), (108 : Int32), (116 : Int32), (101 : Int32), (114 : Int32), (32 : Int32), (98 : Int32), (121 : Int32), (32 : Int32), (58 : Int32), (32 : Int32), qa, qc] : List Int32).map Value.int) (.int (0 : Int32))) (hnt : "Cannot filter by " ∉ Ts ∧ ": " ∉ Ts) (HC18 : Jvm.Lit.constHeld Z "com/example/modelwright/modelwright/FilterException" 18) (HC24 : Jvm.Lit.constHeld Z "com/example/modelwright/modelwright/FilterException" 24) (HCW : Jvm.Lit.compactW.before a0 Z = true) (I0 : IB Z s.vm Ts) (hK : s.vm.MethodsKnown ∧ s.vm.FramesKnown below) :
    ∃ (vm' : Vm) (k : Nat) (T' : State) (Ls : Array Slot) (locs' : List Loc), Stand p l e room_1 (s.setVm vm') m args below meth c T' locs' 24 3200 ∧ Fr n0 locs' ∧ s.Since vm' k ∧ h0.size ≤ k ∧ k ≤ T'.heap.size ∧ ∀ t, Steps p.tables e below (T'.setTop (mkF m 576 Ls [.int (1 : Int32)])) t → Steps p.tables e below (T0.setTop (mkF m 496 #[.val (.int p0), .val (.int p1), .val (.int kl), .val (.int ka), .val (.int kc), .val (.int qa), .val (.int qc), .val (.ref kx), .val (.ref ex), .unset, .unset, .unset] [])) t := by
  have pre0 : ∀ t, Steps p.tables e below (T0.setTop (mkF m 496 #[.val (.int p0), .val (.int p1), .val (.int kl), .val (.int ka), .val (.int kc), .val (.int qa), .val (.int qc), .val (.ref kx), .val (.ref ex), .unset, .unset, .unset] [])) t → Steps p.tables e below (T0.setTop (mkF m 496 #[.val (.int p0), .val (.int p1), .val (.int kl), .val (.int ka), .val (.int kc), .val (.int qa), .val (.int qc), .val (.ref kx), .val (.ref ex), .unset, .unset, .unset] [])) t := fun t k => k
  have K0 := Keep.refl h0 ([] : List Addr)
  obtain ⟨T1, h1, X1, e1, E1, A1, D1, un1, st1⟩ := newO X0 hx hZ hown (hw _ (List.mem_of_getElem? (i := 9) rfl)) (hw _ (List.mem_of_getElem? (i := 2) rfl)) (hw _ (List.mem_of_getElem? (i := 1) rfl)) e0 (g := (mkF m 496 #[.val (.int p0), .val (.int p1), .val (.int kl), .val (.int ka), .val (.int kc), .val (.int qa), .val (.int qc), .val (.ref kx), .val (.ref ex), .unset, .unset, .unset] [])) rfl (hb hby at_496) (by decide) (by decide)
  obtain ⟨b1, g1⟩ : ∃ z, z = h0.size := ⟨_, rfl⟩
  rw [← g1] at A1 D1 un1 st1
  have g_b1 : n0 ≤ b1 := Nat.le_trans (Nat.le_trans Z0 K0.1) (Nat.le_of_eq g1.symm)
  have sz_b1 : h0.size ≤ b1 := Nat.le_trans K0.1 (Nat.le_of_eq g1.symm)
  have ne_ex_b1 : ex ≠ b1 := Nat.ne_of_lt (Nat.lt_of_lt_of_le XA.lt (Nat.le_of_eq g1.symm))
  have K1 := K0.ext E1
  have F_value_b1 : Fld Z h1 b1 "java/lang/String" "value" "[B" .null := D1 (Or.inr (hw _ (List.mem_of_getElem? (i := 4) rfl))) (ty := (.array .byte)) (by decide)
  have F_coder_b1 : Fld Z h1 b1 "java/lang/String" "coder" "B" (.int (0 : Int32)) := D1 (Or.inr (hw _ (List.mem_of_getElem? (i := 5) rfl))) (ty := .byte) (by decide)
  have c2 := (XA.ext E1)
  obtain ⟨T3, h3, k3, X3, e3, E3, A3, st3⟩ := newP X1 hx hZ (hw _ (List.mem_of_getElem? (i := 8) rfl)) e1 (g := (mkF m 501 #[.val (.int p0), .val (.int p1), .val (.int kl), .val (.int ka), .val (.int kc), .val (.int qa), .val (.int qc), .val (.ref kx), .val (.ref ex), .unset, .unset, .unset] [(.int (2 : Int32)), (.ref b1), (.ref b1)])) rfl (hb hby at_501) rfl (by decide) (cap := 2) (by decide) (by decide) (by decide) (by decide)
  obtain ⟨b3, g3⟩ : ∃ z, z = h1.size := ⟨_, rfl⟩
  rw [← g3] at A3 st3
  have g_b3 : n0 ≤ b3 := Nat.le_trans (Nat.le_trans Z0 K1.1) (Nat.le_of_eq g3.symm)
  have sz_b3 : h0.size ≤ b3 := Nat.le_trans K1.1 (Nat.le_of_eq g3.symm)
  have ne_ex_b3 : ex ≠ b3 := Nat.ne_of_lt (Nat.lt_of_lt_of_le c2.lt (Nat.le_of_eq g3.symm))
  have ne_b1_b3 : b1 ≠ b3 := Nat.ne_of_lt (Nat.lt_of_lt_of_le A1.lt (Nat.le_of_eq g3.symm))
  have K3 := K1.ext E3
  have V_b3 : Arv Z h3 b3 k3 .char (2 : Int32) [(.int (0 : Int32)), (.int (0 : Int32))] (.int (0 : Int32)) := (Arv.new A3 (by decide)).pad (pad_rep [] (.int (0 : Int32)) 2)
  obtain ⟨clo4, Aro4, qo4, So4, No4, Ho4, Go4⟩ := id V_b3
  have hino4 : ¬ ((0 : Int32) < 0 ∨ clo4.slots.size ≤ ((0 : Int32)).toNatClampNeg) := inb_of So4 ⟨by decide, by decide⟩
  obtain ⟨T5, h5, X5, e5, W5, st5⟩ := stC X3 hx hZ e3 Aro4 (j := (0 : Int32)) hino4 (g := (mkF m 507 #[.val (.int p0), .val (.int p1), .val (.int kl), .val (.int ka), .val (.int kc), .val (.int qa), .val (.int qc), .val (.ref kx), .val (.ref ex), .unset, .unset, .unset] [(.int qa), (.int (0 : Int32)), (.ref b3), (.ref b3), (.ref b1), (.ref b1)])) rfl rfl (hb hby at_507)
  have V5 : Arv Z h5 b3 k3 .char (2 : Int32) [(.int (nar .char qa)), (.int (0 : Int32))] (.int (0 : Int32)) := Arv.set Aro4 qo4 So4 No4 Ho4 Go4 (fits_nar_char _) W5 0 rfl (Nat.le_of_ble_eq_true rfl)
  have K5 := K3.wr W5 (Or.inr sz_b3)
  have N5 := Fr.snoc X5 N0 g_b3
  obtain ⟨clo6, Aro6, qo6, So6, No6, Ho6, Go6⟩ := id V5
  have hino6 : ¬ ((1 : Int32) < 0 ∨ clo6.slots.size ≤ ((1 : Int32)).toNatClampNeg) := inb_of So6 ⟨by decide, by decide⟩
  obtain ⟨T7, h7, X7, e7, W7, st7⟩ := stC X5 hx hZ e5 Aro6 (j := (1 : Int32)) hino6 (g := (mkF m 512 #[.val (.int p0), .val (.int p1), .val (.int kl), .val (.int ka), .val (.int kc), .val (.int qa), .val (.int qc), .val (.ref kx), .val (.ref ex), .unset, .unset, .unset] [(.int qc), (.int (1 : Int32)), (.ref b3), (.ref b3), (.ref b1), (.ref b1)])) rfl rfl (hb hby at_512)
  have V7 : Arv Z h7 b3 k3 .char (2 : Int32) [(.int (nar .char qa)), (.int (nar .char qc))] (.int (0 : Int32)) := Arv.set Aro6 qo6 So6 No6 Ho6 Go6 (fits_nar_char _) W7 1 rfl (Nat.le_of_ble_eq_true rfl)
  have K7 := K5.wr W7 (Or.inr sz_b3)
  have N7 := Fr.snoc X7 N5 g_b3
  have c9 := (((A1.ext E3).wr W5).wr W7)
  have c10 := (((F_value_b1.ext E3).other W5 (Or.inl ne_b1_b3)).other W7 (Or.inl ne_b1_b3))
  have c11 := (((F_coder_b1.ext E3).other W5 (Or.inl ne_b1_b3)).other W7 (Or.inl ne_b1_b3))
  have OLD8 : Old Z n0 h7 := OLD0.keep K7 all0
  have hp8 : ∀ c ∈ ([qa, qc] : List Int32), own_c255 c := (own_cons hqa (own_cons hqc own_lm0))
  have va8 : Arv Z h7 b3 k3 .char (2 : Int32) (([qa, qc] : List Int32).map Value.int) (.int (0 : Int32)) := by
    have q : Arv Z h7 b3 k3 .char (2 : Int32) (([qa, qc] : List Int32).map fun c => Value.int (nar .char c)) (.int (0 : Int32)) := V7
    rw [own_c16L hp8] at q; exact q
  obtain ⟨_, _, ⟨T8, L8, k8, n8⟩, -, X8, ⟨Lc8, hQ8, l8, y8, z8⟩, st8⟩ := X7.specialBack hx (y := (⟨"java/lang/String", "<init>", "([C)V"⟩ : MethodName)) rfl hown (mvT hZ (hw _ (List.mem_of_getElem? (i := 10) rfl))) (mvT hZ (hw _ (List.mem_of_getElem? (i := 11) rfl))) (mvT hZ (hw _ (List.mem_of_getElem? (i := 12) rfl))) (by decide) (StrChars.Road.backV (W := 1) hZ (hws a0 Z hw) (kI := 4) (hw _ (List.mem_of_getElem? (i := 2) rfl)) (cs := ([qa, qc] : List Int32)) (bs := ([qa, qc] : List Int32).map (fun c => c.toInt8.toInt32)) (n := 2) g_b1 (Nat.le_trans Z0 K7.1) c9 c10 c11 va8 (SCS.ext OLD8.2) P5 rfl rfl (by decide) (by decide) hp8 rfl (by decide) (by decide)) (g := (mkF m 513 #[.val (.int p0), .val (.int p1), .val (.int kl), .val (.int ka), .val (.int kc), .val (.int qa), .val (.int qc), .val (.ref kx), .val (.ref ex), .unset, .unset, .unset] [(.ref b3), (.ref b1), (.ref b1)])) rfl (by rw [hml]; rfl) (Steps.refl _) (a := b1) (argsL := [(.ref b3)]) (rest := [(.ref b1)]) (lenOf pd___C_V rfl) rfl (by show 2 * 0 + _ ≤ _; exact Nat.le_of_eq rfl) (hb hby at_513) (fun _ _ => ⟨rfl, e7, (by decide : 6 + 1 ≤ _), (by decide : 37 + 2 ≤ _)⟩)
  dsimp only [Pt.U, Pt.locs, Pt.cells, Pt.slots] at X8 l8 y8 z8 st8 hQ8
  subst l8 y8 z8
  obtain ⟨rfl, N8q, kq8, xq8, cq8, t8, kb8, ut8, vt8, wt8, vq8, aq8⟩ := hQ8
  have N8 := Fr.app N7 N8q
  have K8 := K7.trans kq8 (allS (Or.inr sz_b1) all0)
  have xs8 : own_str Z T8.heap b1 ([qa, qc] : List Int32) := ⟨t8, kb8, xq8, cq8, vq8, aq8⟩
  have c12 := ((((c2.ext E3).other W5 ne_ex_b3).other W7 ne_ex_b3).keep kq8 (ninS ne_ex_b1 nin0))
  have c13 := (c9.keep kq8)
  have c14 := (V7.keep kq8 (ninS (Ne.symm ne_b1_b3) nin0))
  obtain ⟨T15, h15, X15, e15, E15, A15, D15, un15, st15⟩ := newO X8 hx hZ hown (hw _ (List.mem_of_getElem? (i := 9) rfl)) (hw _ (List.mem_of_getElem? (i := 2) rfl)) (hw _ (List.mem_of_getElem? (i := 1) rfl)) rfl (g := (mkF m 518 #[.val (.int p0), .val (.int p1), .val (.int kl), .val (.int ka), .val (.int kc), .val (.int qa), .val (.int qc), .val (.ref kx), .val (.ref ex), .val (.ref b1), .unset, .unset] [])) rfl (hb hby at_518) (by decide) (by decide)
  obtain ⟨b15, g15⟩ : ∃ z, z = T8.heap.size := ⟨_, rfl⟩
  rw [← g15] at A15 D15 un15 st15
  have g_b15 : n0 ≤ b15 := Nat.le_trans (Nat.le_trans Z0 K8.1) (Nat.le_of_eq g15.symm)
  have sz_b15 : h0.size ≤ b15 := Nat.le_trans K8.1 (Nat.le_of_eq g15.symm)
  have ne_ex_b15 : ex ≠ b15 := Nat.ne_of_lt (Nat.lt_of_lt_of_le c12.lt (Nat.le_of_eq g15.symm))
  have ne_b1_b15 : b1 ≠ b15 := Nat.ne_of_lt (Nat.lt_of_lt_of_le c13.lt (Nat.le_of_eq g15.symm))
  have ne_b3_b15 : b3 ≠ b15 := Nat.ne_of_lt (Nat.lt_of_lt_of_le c14.lt (Nat.le_of_eq g15.symm))
  have K15 := K8.ext E15
  have F_value_b15 : Fld Z h15 b15 "java/lang/String" "value" "[B" .null := D15 (Or.inr (hw _ (List.mem_of_getElem? (i := 4) rfl))) (ty := (.array .byte)) (by decide)
  have F_coder_b15 : Fld Z h15 b15 "java/lang/String" "coder" "B" (.int (0 : Int32)) := D15 (Or.inr (hw _ (List.mem_of_getElem? (i := 5) rfl))) (ty := .byte) (by decide)
  have c17 := (c12.ext E15)
  have OLD16 : Old Z n0 h15 := OLD0.keep K15 all0
  have hp16 : ∀ c ∈ ([(67 : Int32), (97 : Int32), (110 : Int32), (110 : Int32), (111 : Int32), (116 : Int32), (32 : Int32), (102 : Int32), (105 : Int32), (108 : Int32), (116 : Int32), (101 : Int32), (114 : Int32), (32 : Int32), (98 : Int32), (121 : Int32), (32 : Int32), (58 : Int32), (32 : Int32), qa, qc] : List Int32), own_c255 c := (own_cons ⟨by decide, by decide⟩ (own_cons ⟨by decide, by decide⟩ (own_cons ⟨by decide, by decide⟩ (own_cons ⟨by decide, by decide⟩ (own_cons ⟨by decide, by decide⟩ (own_cons ⟨by decide, by decide⟩ (own_cons ⟨by decide, by decide⟩ (own_cons ⟨by decide, by decide⟩ (own_cons ⟨by decide, by decide⟩ (own_cons ⟨by decide, by decide⟩ (own_cons ⟨by decide, by decide⟩ (own_cons ⟨by decide, by decide⟩ (own_cons ⟨by decide, by decide⟩ (own_cons ⟨by decide, by decide⟩ (own_cons ⟨by decide, by decide⟩ (own_cons ⟨by decide, by decide⟩ (own_cons ⟨by decide, by decide⟩ (own_cons ⟨by decide, by decide⟩ (own_cons ⟨by decide, by decide⟩ (own_cons hqa (own_cons hqc own_lm0)))))))))))))))))))))
  have va16 := c17
  obtain ⟨_, _, ⟨T16, L16, k16, n16⟩, -, X16, ⟨Lc16, hQ16, l16, y16, z16⟩, st16⟩ := X15.specialBack hx (y := (⟨"java/lang/String", "<init>", "([C)V"⟩ : MethodName)) rfl hown (mvT hZ (hw _ (List.mem_of_getElem? (i := 10) rfl))) (mvT hZ (hw _ (List.mem_of_getElem? (i := 11) rfl))) (mvT hZ (hw _ (List.mem_of_getElem? (i := 12) rfl))) (by decide) (StrChars.Road.backV (W := 1) hZ (hws a0 Z hw) (kI := 4) (hw _ (List.mem_of_getElem? (i := 2) rfl)) (cs := ([(67 : Int32), (97 : Int32), (110 : Int32), (110 : Int32), (111 : Int32), (116 : Int32), (32 : Int32), (102 : Int32), (105 : Int32), (108 : Int32), (116 : Int32), (101 : Int32), (114 : Int32), (32 : Int32), (98 : Int32), (121 : Int32), (32 : Int32), (58 : Int32), (32 : Int32), qa, qc] : List Int32)) (bs := ([(67 : Int32), (97 : Int32), (110 : Int32), (110 : Int32), (111 : Int32), (116 : Int32), (32 : Int32), (102 : Int32), (105 : Int32), (108 : Int32), (116 : Int32), (101 : Int32), (114 : Int32), (32 : Int32), (98 : Int32), (121 : Int32), (32 : Int32), (58 : Int32), (32 : Int32), qa, qc] : List Int32).map (fun c => c.toInt8.toInt32)) (n := 21) g_b15 (Nat.le_trans Z0 K15.1) A15 F_value_b15 F_coder_b15 va16 (SCS.ext OLD16.2) P5 rfl rfl (by decide) (by decide) hp16 rfl (by decide) (by decide)) (g := (mkF m 524 #[.val (.int p0), .val (.int p1), .val (.int kl), .val (.int ka), .val (.int kc), .val (.int qa), .val (.int qc), .val (.ref kx), .val (.ref ex), .val (.ref b1), .unset, .unset] [(.ref ex), (.ref b15), (.ref b15)])) rfl (by rw [hml]; rfl) (Steps.refl _) (a := b15) (argsL := [(.ref ex)]) (rest := [(.ref b15)]) (lenOf pd___C_V rfl) rfl (by show 2 * 0 + _ ≤ _; exact Nat.le_of_eq rfl) (hb hby at_524) (fun _ _ => ⟨rfl, e15, (by decide : 8 + 1 ≤ _), (by decide : 43 + 21 ≤ _)⟩)
  dsimp only [Pt.U, Pt.locs, Pt.cells, Pt.slots] at X16 l16 y16 z16 st16 hQ16
  subst l16 y16 z16
  obtain ⟨rfl, N16q, kq16, xq16, cq16, t16, kb16, ut16, vt16, wt16, vq16, aq16⟩ := hQ16
  have N16 := Fr.app N8 N16q
  have K16 := K15.trans kq16 (allS (Or.inr sz_b15) all0)
  have xs16 : own_str Z T16.heap b15 ([(67 : Int32), (97 : Int32), (110 : Int32), (110 : Int32), (111 : Int32), (116 : Int32), (32 : Int32), (102 : Int32), (105 : Int32), (108 : Int32), (116 : Int32), (101 : Int32), (114 : Int32), (32 : Int32), (98 : Int32), (121 : Int32), (32 : Int32), (58 : Int32), (32 : Int32), qa, qc] : List Int32) := ⟨t16, kb16, xq16, cq16, vq16, aq16⟩
  have pre18 : ∀ t, Steps p.tables e below (T16.setTop (mkF m 533 #[.val (.int p0), .val (.int p1), .val (.int kl), .val (.int ka), .val (.int kc), .val (.int qa), .val (.int qc), .val (.ref kx), .val (.ref ex), .val (.ref b1), .val (.ref b15), .unset] [(.ref b1), (.ref kx)])) t → Steps p.tables e below (T0.setTop (mkF m 496 #[.val (.int p0), .val (.int p1), .val (.int kl), .val (.int ka), .val (.int kc), .val (.int qa), .val (.int qc), .val (.ref kx), .val (.ref ex), .unset, .unset, .unset] [])) t := by
    intro t kt
    refine pre0 _ ?_
    show Steps p.tables e below (T0.setTop (mkF m 496 #[.val (.int p0), .val (.int p1), .val (.int kl), .val (.int ka), .val (.int kc), .val (.int qa), .val (.int qc), .val (.ref kx), .val (.ref ex), .unset, .unset, .unset] [])) _
    refine st1 _ ?_
    show Steps p.tables e below (T1.setTop (mkF m 499 #[.val (.int p0), .val (.int p1), .val (.int kl), .val (.int ka), .val (.int kc), .val (.int qa), .val (.int qc), .val (.ref kx), .val (.ref ex), .unset, .unset, .unset] [(.ref b1)])) _
    refine XS.dup X1.here hx rfl (hb hby at_499) rfl rfl ?_
    show Steps p.tables e below (T1.setTop (mkF m 500 #[.val (.int p0), .val (.int p1), .val (.int kl), .val (.int ka), .val (.int kc), .val (.int qa), .val (.int qc), .val (.ref kx), .val (.ref ex), .unset, .unset, .unset] [(.ref b1), (.ref b1)])) _
    refine XS.iconst X1.here hx rfl (hb hby at_500) ?_
    show Steps p.tables e below (T1.setTop (mkF m 501 #[.val (.int p0), .val (.int p1), .val (.int kl), .val (.int ka), .val (.int kc), .val (.int qa), .val (.int qc), .val (.ref kx), .val (.ref ex), .unset, .unset, .unset] [(.int (2 : Int32)), (.ref b1), (.ref b1)])) _
    refine st3 _ ?_
    show Steps p.tables e below (T3.setTop (mkF m 503 #[.val (.int p0), .val (.int p1), .val (.int kl), .val (.int ka), .val (.int kc), .val (.int qa), .val (.int qc), .val (.ref kx), .val (.ref ex), .unset, .unset, .unset] [(.ref b3), (.ref b1), (.ref b1)])) _
    refine XS.dup X3.here hx rfl (hb hby at_503) rfl rfl ?_
    show Steps p.tables e below (T3.setTop (mkF m 504 #[.val (.int p0), .val (.int p1), .val (.int kl), .val (.int ka), .val (.int kc), .val (.int qa), .val (.int qc), .val (.ref kx), .val (.ref ex), .unset, .unset, .unset] [(.ref b3), (.ref b3), (.ref b1), (.ref b1)])) _
    refine XS.iconst X3.here hx rfl (hb hby at_504) ?_
    show Steps p.tables e below (T3.setTop (mkF m 505 #[.val (.int p0), .val (.int p1), .val (.int kl), .val (.int ka), .val (.int kc), .val (.int qa), .val (.int qc), .val (.ref kx), .val (.ref ex), .unset, .unset, .unset] [(.int (0 : Int32)), (.ref b3), (.ref b3), (.ref b1), (.ref b1)])) _
    refine XS.iload X3.here hx rfl (hb hby at_505) rfl ?_
    show Steps p.tables e below (T3.setTop (mkF m 507 #[.val (.int p0), .val (.int p1), .val (.int kl), .val (.int ka), .val (.int kc), .val (.int qa), .val (.int qc), .val (.ref kx), .val (.ref ex), .unset, .unset, .unset] [(.int qa), (.int (0 : Int32)), (.ref b3), (.ref b3), (.ref b1), (.ref b1)])) _
    refine st5 _ ?_
    show Steps p.tables e below (T5.setTop (mkF m 508 #[.val (.int p0), .val (.int p1), .val (.int kl), .val (.int ka), .val (.int kc), .val (.int qa), .val (.int qc), .val (.ref kx), .val (.ref ex), .unset, .unset, .unset] [(.ref b3), (.ref b1), (.ref b1)])) _
    refine XS.dup X5.here hx rfl (hb hby at_508) rfl rfl ?_
    show Steps p.tables e below (T5.setTop (mkF m 509 #[.val (.int p0), .val (.int p1), .val (.int kl), .val (.int ka), .val (.int kc), .val (.int qa), .val (.int qc), .val (.ref kx), .val (.ref ex), .unset, .unset, .unset] [(.ref b3), (.ref b3), (.ref b1), (.ref b1)])) _
    refine XS.iconst X5.here hx rfl (hb hby at_509) ?_
    show Steps p.tables e below (T5.setTop (mkF m 510 #[.val (.int p0), .val (.int p1), .val (.int kl), .val (.int ka), .val (.int kc), .val (.int qa), .val (.int qc), .val (.ref kx), .val (.ref ex), .unset, .unset, .unset] [(.int (1 : Int32)), (.ref b3), (.ref b3), (.ref b1), (.ref b1)])) _
    refine XS.iload X5.here hx rfl (hb hby at_510) rfl ?_
    show Steps p.tables e below (T5.setTop (mkF m 512 #[.val (.int p0), .val (.int p1), .val (.int kl), .val (.int ka), .val (.int kc), .val (.int qa), .val (.int qc), .val (.ref kx), .val (.ref ex), .unset, .unset, .unset] [(.int qc), (.int (1 : Int32)), (.ref b3), (.ref b3), (.ref b1), (.ref b1)])) _
    refine st7 _ ?_
    show Steps p.tables e below (T7.setTop (mkF m 513 #[.val (.int p0), .val (.int p1), .val (.int kl), .val (.int ka), .val (.int kc), .val (.int qa), .val (.int qc), .val (.ref kx), .val (.ref ex), .unset, .unset, .unset] [(.ref b3), (.ref b1), (.ref b1)])) _
    refine st8.trans ?_
    show Steps p.tables e below (T8.setTop (mkF m 516 #[.val (.int p0), .val (.int p1), .val (.int kl), .val (.int ka), .val (.int kc), .val (.int qa), .val (.int qc), .val (.ref kx), .val (.ref ex), .unset, .unset, .unset] [(.ref b1)])) _
    refine XS.astore X8.here hx rfl (hb hby at_516) rfl rfl (l' := #[.val (.int p0), .val (.int p1), .val (.int kl), .val (.int ka), .val (.int kc), .val (.int qa), .val (.int qc), .val (.ref kx), .val (.ref ex), .val (.ref b1), .unset, .unset]) rfl ?_
    show Steps p.tables e below (T8.setTop (mkF m 518 #[.val (.int p0), .val (.int p1), .val (.int kl), .val (.int ka), .val (.int kc), .val (.int qa), .val (.int qc), .val (.ref kx), .val (.ref ex), .val (.ref b1), .unset, .unset] [])) _
    refine st15 _ ?_
    show Steps p.tables e below (T15.setTop (mkF m 521 #[.val (.int p0), .val (.int p1), .val (.int kl), .val (.int ka), .val (.int kc), .val (.int qa), .val (.int qc), .val (.ref kx), .val (.ref ex), .val (.ref b1), .unset, .unset] [(.ref b15)])) _
    refine XS.dup X15.here hx rfl (hb hby at_521) rfl rfl ?_
    show Steps p.tables e below (T15.setTop (mkF m 522 #[.val (.int p0), .val (.int p1), .val (.int kl), .val (.int ka), .val (.int kc), .val (.int qa), .val (.int qc), .val (.ref kx), .val (.ref ex), .val (.ref b1), .unset, .unset] [(.ref b15), (.ref b15)])) _
    refine XS.aload X15.here hx rfl (hb hby at_522) rfl rfl ?_
    show Steps p.tables e below (T15.setTop (mkF m 524 #[.val (.int p0), .val (.int p1), .val (.int kl), .val (.int ka), .val (.int kc), .val (.int qa), .val (.int qc), .val (.ref kx), .val (.ref ex), .val (.ref b1), .unset, .unset] [(.ref ex), (.ref b15), (.ref b15)])) _
    refine st16.trans ?_
    show Steps p.tables e below (T16.setTop (mkF m 527 #[.val (.int p0), .val (.int p1), .val (.int kl), .val (.int ka), .val (.int kc), .val (.int qa), .val (.int qc), .val (.ref kx), .val (.ref ex), .val (.ref b1), .unset, .unset] [(.ref b15)])) _
    refine XS.astore X16.here hx rfl (hb hby at_527) rfl rfl (l' := #[.val (.int p0), .val (.int p1), .val (.int kl), .val (.int ka), .val (.int kc), .val (.int qa), .val (.int qc), .val (.ref kx), .val (.ref ex), .val (.ref b1), .val (.ref b15), .unset]) rfl ?_
    show Steps p.tables e below (T16.setTop (mkF m 529 #[.val (.int p0), .val (.int p1), .val (.int kl), .val (.int ka), .val (.int kc), .val (.int qa), .val (.int qc), .val (.ref kx), .val (.ref ex), .val (.ref b1), .val (.ref b15), .unset] [])) _
    refine XS.aload X16.here hx rfl (hb hby at_529) rfl rfl ?_
    show Steps p.tables e below (T16.setTop (mkF m 531 #[.val (.int p0), .val (.int p1), .val (.int kl), .val (.int ka), .val (.int kc), .val (.int qa), .val (.int qc), .val (.ref kx), .val (.ref ex), .val (.ref b1), .val (.ref b15), .unset] [(.ref kx)])) _
    refine XS.aload X16.here hx rfl (hb hby at_531) rfl rfl ?_
    show Steps p.tables e below (T16.setTop (mkF m 533 #[.val (.int p0), .val (.int p1), .val (.int kl), .val (.int ka), .val (.int kc), .val (.int qa), .val (.int qc), .val (.ref kx), .val (.ref ex), .val (.ref b1), .val (.ref b15), .unset] [(.ref b1), (.ref kx)])) _
    exact kt
  have OL20 : Old Z n0 T16.heap := OLD0.keep K16 all0
  have sk19 := (own_strP XK K16)
  have sp19 := (own_strM (own_strE xs8 E15) kq16 A15 (hw _ (List.mem_of_getElem? (i := 2) rfl)) ne_b1_b15)
  obtain ⟨_, _, ⟨T19, L19, k19, n19⟩, -, X19, S19, hg19, ⟨Lc19, hQ19, l19, y19, z19⟩, st19⟩ := callSS X16 hx (y := (⟨"com/example/modelwright/modelwright/FilterException", "ofFilterKey", "(Ljava/lang/String;Ljava/lang/String;)Lcom/example/modelwright/modelwright/FilterException;"⟩ : MethodName)) hown (mvT hZ (hw _ (List.mem_of_getElem? (i := 33) rfl))) (mvT hZ (hw _ (List.mem_of_getElem? (i := 34) rfl))) (mvT hZ (hw _ (List.mem_of_getElem? (i := 35) rfl))) (mvT hZ (hw _ (List.mem_of_getElem? (i := 36) rfl))) (by decide) (own_backI (W := 0) (rm7 l Z a0 hw [] kx b1 ([] : List Int32) ([qa, qc] : List Int32) G1 ua ub Ts T16.heap n0 (Nat.le_trans Z0 K16.1) OL20 SCS P5 hl SU SV sk19 sp19 own_lm0 (own_cons hqa (own_cons hqc own_lm0)) (Nat.le_of_ble_eq_true rfl) (Nat.le_of_ble_eq_true rfl) hnt HC18 HC24 HCW) hZ I0 (hw _ (List.mem_of_getElem? (i := 36) rfl)) (hw _ (List.mem_of_getElem? (i := 35) rfl)) (by decide) (by decide) hK.1 hK.2) (g := (mkF m 533 #[.val (.int p0), .val (.int p1), .val (.int kl), .val (.int ka), .val (.int kc), .val (.int qa), .val (.int qc), .val (.ref kx), .val (.ref ex), .val (.ref b1), .val (.ref b15), .unset] [(.ref b1), (.ref kx)])) rfl (by rw [hml]; rfl) (argsL := [.ref kx, .ref b1]) (rest := []) (lenOf pd__Ljava_lang_String_Ljava_lang_String__Lcom_example_modelwright_modelwright_FilterException_ rfl) rfl (by show 2 * 0 + _ ≤ _; exact Nat.le_of_eq rfl) (hb hby at_533) (fun _ _ => ⟨rfl, rfl, (by decide : 9 + 11 ≤ _), (by decide : 64 + 2990 ≤ _)⟩)
  dsimp only [Pt.U, Pt.locs, Pt.cells, Pt.slots] at X19 S19 hg19 l19 y19 z19 st19 hQ19
  subst l19 y19 z19
  obtain ⟨b19, rfl, N19q, kq19, gg19, u19, ex19, ym19, fd19, fk19, ys19⟩ := hQ19
  have N19 := Fr.app N16 N19q
  have K19 := K16.trans kq19 all0
  have hZ : Z.Warmed39 (s.setVm T19.vm).vm := State.Warmed39.trans hZ S19.1
  have hown : (s.setVm T19.vm).vm.findClass "com/example/modelwright/modelwright/FilterExceptionOfFilterKeyPinLaw" = some m.cls := by
    show T19.vm.findClass _ = _
    rw [S19.1.alike.findClass]; exact hown
  have hgk19 : h0.size ≤ T19.heap.size := K19.1
  obtain ⟨cq21, kq21, q21a, q21b, q21c⟩ := isOf hZ rfl ex19
  obtain ⟨_, _, ⟨T21, L21, k21, n21⟩, -, X21, ⟨Lc21, hQ21, l21, y21, z21⟩, st21⟩ := X19.virtualBackUp hx (x := (⟨"com/example/modelwright/modelwright/FilterException", "getMessage", "()Ljava/lang/String;"⟩ : MethodName)) (y := (⟨"java/lang/Throwable", "getMessage", "()Ljava/lang/String;"⟩ : MethodName)) (owner := "java/lang/Throwable") (C := "com/example/modelwright/modelwright/FilterException") hown (mvT hZ (hw _ (List.mem_of_getElem? (i := 233) rfl))) (mvT hZ (hw _ (List.mem_of_getElem? (i := 234) rfl))) (mvT hZ (hw _ (List.mem_of_getElem? (i := 235) rfl))) (by decide) (mvT hZ (hw _ (List.mem_of_getElem? (i := 237) rfl))) (mvT hZ (hw _ (List.mem_of_getElem? (i := 236) rfl))) (backOf (W := 1) (rm40 l Z a0 hw [] b19 ym19 T19.heap n0 (Nat.le_trans Z0 K19.1) ex19 fd19) hZ (hw _ (List.mem_of_getElem? (i := 238) rfl)) (hw _ (List.mem_of_getElem? (i := 192) rfl)) (by decide) (by decide)) q21a q21c (g := (mkF m 549 #[.val (.int p0), .val (.int p1), .val (.int kl), .val (.int ka), .val (.int kc), .val (.int qa), .val (.int qc), .val (.ref kx), .val (.ref ex), .val (.ref b1), .val (.ref b15), .val (.ref b19)] [(.ref b19), (.ref b15)])) rfl (by rw [hml]; rfl) (Steps.refl _) (argsL := []) (rest := [(.ref b15)]) (lenOf pd___Ljava_lang_String_ rfl) rfl (by show 2 * 0 + _ ≤ _; exact Nat.le_of_eq rfl) (hb hby at_549) (fun _ _ => ⟨rfl, rfl, (by decide : 20 + 0 ≤ _), (by decide : 3054 + 0 ≤ _)⟩)
  dsimp only [Pt.U, Pt.locs, Pt.cells, Pt.slots] at X21 l21 y21 z21 st21 hQ21
  subst l21 y21 z21
  obtain ⟨rfl, N21q, hq21⟩ := hQ21
  have N21 := Fr.app N19 N21q
  have E21 : Ext T19.heap T21.heap := by rw [hq21]; exact ⟨Nat.le_refl _, fun _ _ q => q⟩
  have K21 := K19.ext E21
  have OL23 : Old Z n0 T21.heap := OLD0.keep K21 all0
  have sa22 := (own_strE (own_strP xs16 kq19) E21)
  have sy22 := (own_strE ys19 E21)
  obtain ⟨_, _, se22, -⟩ := id sa22
  obtain ⟨cq22, kq22, q22a, q22b, q22c⟩ := isOf hZ rfl se22
  obtain ⟨_, _, ⟨T22, L22, k22, n22⟩, -, X22, ⟨Lc22, hQ22, l22, y22, z22⟩, st22⟩ := X21.virtualBack hx (y := (⟨"java/lang/String", "equals", "(Ljava/lang/Object;)Z"⟩ : MethodName)) (z := (⟨"java/lang/String", "equals", "(Ljava/lang/Object;)Z"⟩ : MethodName)) hown (mvT hZ (hw _ (List.mem_of_getElem? (i := 239) rfl))) (mvT hZ (hw _ (List.mem_of_getElem? (i := 240) rfl))) (notFace_of_selects (args := #[]) (mvT hZ (hw _ (List.mem_of_getElem? (i := 242) rfl)))) (mvT hZ (hw _ (List.mem_of_getElem? (i := 242) rfl))) (mvT hZ (hw _ (List.mem_of_getElem? (i := 241) rfl))) (by decide) (own_eq (W := 0) hZ hw (kI := 4) (hw _ (List.mem_of_getElem? (i := 2) rfl)) sa22 sy22 rfl (own_cons ⟨by decide, by decide⟩ (own_cons ⟨by decide, by decide⟩ (own_cons ⟨by decide, by decide⟩ (own_cons ⟨by decide, by decide⟩ (own_cons ⟨by decide, by decide⟩ (own_cons ⟨by decide, by decide⟩ (own_cons ⟨by decide, by decide⟩ (own_cons ⟨by decide, by decide⟩ (own_cons ⟨by decide, by decide⟩ (own_cons ⟨by decide, by decide⟩ (own_cons ⟨by decide, by decide⟩ (own_cons ⟨by decide, by decide⟩ (own_cons ⟨by decide, by decide⟩ (own_cons ⟨by decide, by decide⟩ (own_cons ⟨by decide, by decide⟩ (own_cons ⟨by decide, by decide⟩ (own_cons ⟨by decide, by decide⟩ (own_cons ⟨by decide, by decide⟩ (own_cons ⟨by decide, by decide⟩ (own_cons hqa (own_cons hqc own_lm0))))))))))))))))))))) (Nat.le_of_ble_eq_true rfl) (SCS.ext OL23.2) P5 (by decide) (by decide)) q22a q22c (g := (mkF m 552 #[.val (.int p0), .val (.int p1), .val (.int kl), .val (.int ka), .val (.int kc), .val (.int qa), .val (.int qc), .val (.ref kx), .val (.ref ex), .val (.ref b1), .val (.ref b15), .val (.ref b19)] [(.ref ym19), (.ref b15)])) rfl (by rw [hml]; rfl) (Steps.refl _) (argsL := [(.ref ym19)]) (rest := []) (lenOf pd__Ljava_lang_Object__Z rfl) rfl (by show 2 * 0 + _ ≤ _; exact Nat.le_of_eq rfl) (hb hby at_552) (fun _ _ => ⟨rfl, rfl, (by decide : 20 + 0 ≤ _), (by decide : 3054 + 0 ≤ _)⟩)
  dsimp only [Pt.U, Pt.locs, Pt.cells, Pt.slots] at X22 l22 y22 z22 st22 hQ22
  subst l22 y22 z22
  obtain ⟨rfl, rfl, hq22⟩ := hQ22
  try rw [List.append_nil] at X22
  have E22 : Ext T21.heap T22.heap := by rw [hq22]; exact ⟨Nat.le_refl _, fun _ _ q => q⟩
  have K22 := K21.ext E22
  have c25 := ((ex19.ext E21).ext E22)
  have c26 := ((fk19.ext E21).ext E22)
  obtain ⟨cq24, kq24, q24a, q24b, q24c⟩ := isOf hZ rfl c25
  obtain ⟨_, _, ⟨T24, L24, k24, n24⟩, -, X24, ⟨Lc24, hQ24, l24, y24, z24⟩, st24⟩ := X22.virtualBack hx (y := (⟨"com/example/modelwright/modelwright/FilterException", "key", "()Ljava/lang/String;"⟩ : MethodName)) (z := (⟨"com/example/modelwright/modelwright/FilterException", "key", "()Ljava/lang/String;"⟩ : MethodName)) hown (mvT hZ (hw _ (List.mem_of_getElem? (i := 249) rfl))) (mvT hZ (hw _ (List.mem_of_getElem? (i := 250) rfl))) (notFace_of_selects (args := #[]) (mvT hZ (hw _ (List.mem_of_getElem? (i := 252) rfl)))) (mvT hZ (hw _ (List.mem_of_getElem? (i := 252) rfl))) (mvT hZ (hw _ (List.mem_of_getElem? (i := 251) rfl))) (by decide) (backOf (W := 1) (rm43 l Z a0 hw [] b19 kx T22.heap n0 (Nat.le_trans Z0 K22.1) c25 c26) hZ (hw _ (List.mem_of_getElem? (i := 253) rfl)) (hw _ (List.mem_of_getElem? (i := 35) rfl)) (by decide) (by decide)) q24a q24c (g := (mkF m 562 #[.val (.int p0), .val (.int p1), .val (.int kl), .val (.int ka), .val (.int kc), .val (.int qa), .val (.int qc), .val (.ref kx), .val (.ref ex), .val (.ref b1), .val (.ref b15), .val (.ref b19)] [(.ref b19), (.ref kx)])) rfl (by rw [hml]; rfl) (Steps.refl _) (argsL := []) (rest := [(.ref kx)]) (lenOf pd___Ljava_lang_String_ rfl) rfl (by show 2 * 0 + _ ≤ _; exact Nat.le_of_eq rfl) (hb hby at_562) (fun _ _ => ⟨rfl, rfl, (by decide : 20 + 0 ≤ _), (by decide : 3054 + 0 ≤ _)⟩)
  dsimp only [Pt.U, Pt.locs, Pt.cells, Pt.slots] at X24 l24 y24 z24 st24 hQ24
  subst l24 y24 z24
  obtain ⟨rfl, N24q, hq24⟩ := hQ24
  have N24 := Fr.app N21 N24q
  have E24 : Ext T22.heap T24.heap := by rw [hq24]; exact ⟨Nat.le_refl _, fun _ _ q => q⟩
  have K24 := K22.ext E24
  have OL28 : Old Z n0 T24.heap := OLD0.keep K24 all0
  have sa27 := (own_strP XK K24)
  have sy27 := (own_strP XK K24)
  obtain ⟨_, _, se27, -⟩ := id sa27
  obtain ⟨cq27, kq27, q27a, q27b, q27c⟩ := isOf hZ rfl se27
  obtain ⟨_, _, ⟨T27, L27, k27, n27⟩, -, X27, ⟨Lc27, hQ27, l27, y27, z27⟩, st27⟩ := X24.virtualBack hx (y := (⟨"java/lang/String", "equals", "(Ljava/lang/Object;)Z"⟩ : MethodName)) (z := (⟨"java/lang/String", "equals", "(Ljava/lang/Object;)Z"⟩ : MethodName)) hown (mvT hZ (hw _ (List.mem_of_getElem? (i := 239) rfl))) (mvT hZ (hw _ (List.mem_of_getElem? (i := 240) rfl))) (notFace_of_selects (args := #[]) (mvT hZ (hw _ (List.mem_of_getElem? (i := 242) rfl)))) (mvT hZ (hw _ (List.mem_of_getElem? (i := 242) rfl))) (mvT hZ (hw _ (List.mem_of_getElem? (i := 241) rfl))) (by decide) (own_eq (W := 0) hZ hw (kI := 4) (hw _ (List.mem_of_getElem? (i := 2) rfl)) sa27 sy27 rfl own_lm0 (Nat.le_of_ble_eq_true rfl) (SCS.ext OL28.2) P5 (by decide) (by decide)) q27a q27c (g := (mkF m 565 #[.val (.int p0), .val (.int p1), .val (.int kl), .val (.int ka), .val (.int kc), .val (.int qa), .val (.int qc), .val (.ref kx), .val (.ref ex), .val (.ref b1), .val (.ref b15), .val (.ref b19)] [(.ref kx), (.ref kx)])) rfl (by rw [hml]; rfl) (Steps.refl _) (argsL := [(.ref kx)]) (rest := []) (lenOf pd__Ljava_lang_Object__Z rfl) rfl (by show 2 * 0 + _ ≤ _; exact Nat.le_of_eq rfl) (hb hby at_565) (fun _ _ => ⟨rfl, rfl, (by decide : 20 + 0 ≤ _), (by decide : 3054 + 0 ≤ _)⟩)
  dsimp only [Pt.U, Pt.locs, Pt.cells, Pt.slots] at X27 l27 y27 z27 st27 hQ27
  subst l27 y27 z27
  obtain ⟨rfl, rfl, hq27⟩ := hQ27
  try rw [List.append_nil] at X27
  have E27 : Ext T24.heap T27.heap := by rw [hq27]; exact ⟨Nat.le_refl _, fun _ _ q => q⟩
  have K27 := K24.ext E27
  have pre29 : ∀ t, Steps p.tables e below (T27.setTop (mkF m 576 #[.val (.int p0), .val (.int p1), .val (.int kl), .val (.int ka), .val (.int kc), .val (.int qa), .val (.int qc), .val (.ref kx), .val (.ref ex), .val (.ref b1), .val (.ref b15), .val (.ref b19)] [(.int (1 : Int32))])) t → Steps p.tables e below (T0.setTop (mkF m 496 #[.val (.int p0), .val (.int p1), .val (.int kl), .val (.int ka), .val (.int kc), .val (.int qa), .val (.int qc), .val (.ref kx), .val (.ref ex), .unset, .unset, .unset] [])) t := by
    intro t kt
    refine pre18 _ ?_
    show Steps p.tables e below (T16.setTop (mkF m 533 #[.val (.int p0), .val (.int p1), .val (.int kl), .val (.int ka), .val (.int kc), .val (.int qa), .val (.int qc), .val (.ref kx), .val (.ref ex), .val (.ref b1), .val (.ref b15), .unset] [(.ref b1), (.ref kx)])) _
    refine st19.trans ?_
    show Steps p.tables e below (T19.setTop (mkF m 536 #[.val (.int p0), .val (.int p1), .val (.int kl), .val (.int ka), .val (.int kc), .val (.int qa), .val (.int qc), .val (.ref kx), .val (.ref ex), .val (.ref b1), .val (.ref b15), .unset] [(.ref b19)])) _
    refine XS.astore X19.here hx rfl (hb hby at_536) rfl rfl (l' := #[.val (.int p0), .val (.int p1), .val (.int kl), .val (.int ka), .val (.int kc), .val (.int qa), .val (.int qc), .val (.ref kx), .val (.ref ex), .val (.ref b1), .val (.ref b15), .val (.ref b19)]) rfl ?_
    show Steps p.tables e below (T19.setTop (mkF m 538 #[.val (.int p0), .val (.int p1), .val (.int kl), .val (.int ka), .val (.int kc), .val (.int qa), .val (.int qc), .val (.ref kx), .val (.ref ex), .val (.ref b1), .val (.ref b15), .val (.ref b19)] [])) _
    refine XS.aload X19.here hx rfl (hb hby at_538) rfl rfl ?_
    show Steps p.tables e below (T19.setTop (mkF m 540 #[.val (.int p0), .val (.int p1), .val (.int kl), .val (.int ka), .val (.int kc), .val (.int qa), .val (.int qc), .val (.ref kx), .val (.ref ex), .val (.ref b1), .val (.ref b15), .val (.ref b19)] [(.ref b19)])) _
    refine XS.ifnonnullYes X19.here hx rfl (pc0 := 540) (pc' := 545) rfl (hb hby at_540) rfl (by decide) (by decide) ?_
    show Steps p.tables e below (T19.setTop (mkF m 545 #[.val (.int p0), .val (.int p1), .val (.int kl), .val (.int ka), .val (.int kc), .val (.int qa), .val (.int qc), .val (.ref kx), .val (.ref ex), .val (.ref b1), .val (.ref b15), .val (.ref b19)] [])) _
    refine XS.aload X19.here hx rfl (hb hby at_545) rfl rfl ?_
    show Steps p.tables e below (T19.setTop (mkF m 547 #[.val (.int p0), .val (.int p1), .val (.int kl), .val (.int ka), .val (.int kc), .val (.int qa), .val (.int qc), .val (.ref kx), .val (.ref ex), .val (.ref b1), .val (.ref b15), .val (.ref b19)] [(.ref b15)])) _
    refine XS.aload X19.here hx rfl (hb hby at_547) rfl rfl ?_
    show Steps p.tables e below (T19.setTop (mkF m 549 #[.val (.int p0), .val (.int p1), .val (.int kl), .val (.int ka), .val (.int kc), .val (.int qa), .val (.int qc), .val (.ref kx), .val (.ref ex), .val (.ref b1), .val (.ref b15), .val (.ref b19)] [(.ref b19), (.ref b15)])) _
    refine st21.trans ?_
    show Steps p.tables e below (T21.setTop (mkF m 552 #[.val (.int p0), .val (.int p1), .val (.int kl), .val (.int ka), .val (.int kc), .val (.int qa), .val (.int qc), .val (.ref kx), .val (.ref ex), .val (.ref b1), .val (.ref b15), .val (.ref b19)] [(.ref ym19), (.ref b15)])) _
    refine st22.trans ?_
    show Steps p.tables e below (T22.setTop (mkF m 555 #[.val (.int p0), .val (.int p1), .val (.int kl), .val (.int ka), .val (.int kc), .val (.int qa), .val (.int qc), .val (.ref kx), .val (.ref ex), .val (.ref b1), .val (.ref b15), .val (.ref b19)] [(.int (1 : Int32))])) _
    refine XS.ifNo X22.here hx rfl (hb hby at_555) rfl ((if0 _ _).trans (feq (by decide : ¬ ((1 : Int32) = (0 : Int32)))).1) ?_
    show Steps p.tables e below (T22.setTop (mkF m 558 #[.val (.int p0), .val (.int p1), .val (.int kl), .val (.int ka), .val (.int kc), .val (.int qa), .val (.int qc), .val (.ref kx), .val (.ref ex), .val (.ref b1), .val (.ref b15), .val (.ref b19)] [])) _
    refine XS.aload X22.here hx rfl (hb hby at_558) rfl rfl ?_
    show Steps p.tables e below (T22.setTop (mkF m 560 #[.val (.int p0), .val (.int p1), .val (.int kl), .val (.int ka), .val (.int kc), .val (.int qa), .val (.int qc), .val (.ref kx), .val (.ref ex), .val (.ref b1), .val (.ref b15), .val (.ref b19)] [(.ref kx)])) _
    refine XS.aload X22.here hx rfl (hb hby at_560) rfl rfl ?_
    show Steps p.tables e below (T22.setTop (mkF m 562 #[.val (.int p0), .val (.int p1), .val (.int kl), .val (.int ka), .val (.int kc), .val (.int qa), .val (.int qc), .val (.ref kx), .val (.ref ex), .val (.ref b1), .val (.ref b15), .val (.ref b19)] [(.ref b19), (.ref kx)])) _
    refine st24.trans ?_
    show Steps p.tables e below (T24.setTop (mkF m 565 #[.val (.int p0), .val (.int p1), .val (.int kl), .val (.int ka), .val (.int kc), .val (.int qa), .val (.int qc), .val (.ref kx), .val (.ref ex), .val (.ref b1), .val (.ref b15), .val (.ref b19)] [(.ref kx), (.ref kx)])) _
    refine st27.trans ?_
    show Steps p.tables e below (T27.setTop (mkF m 568 #[.val (.int p0), .val (.int p1), .val (.int kl), .val (.int ka), .val (.int kc), .val (.int qa), .val (.int qc), .val (.ref kx), .val (.ref ex), .val (.ref b1), .val (.ref b15), .val (.ref b19)] [(.int (1 : Int32))])) _
    refine XS.ifNo X27.here hx rfl (hb hby at_568) rfl ((if0 _ _).trans (feq (by decide : ¬ ((1 : Int32) = (0 : Int32)))).1) ?_
    show Steps p.tables e below (T27.setTop (mkF m 571 #[.val (.int p0), .val (.int p1), .val (.int kl), .val (.int ka), .val (.int kc), .val (.int qa), .val (.int qc), .val (.ref kx), .val (.ref ex), .val (.ref b1), .val (.ref b15), .val (.ref b19)] [])) _
    refine XS.iconst X27.here hx rfl (hb hby at_571) ?_
    show Steps p.tables e below (T27.setTop (mkF m 572 #[.val (.int p0), .val (.int p1), .val (.int kl), .val (.int ka), .val (.int kc), .val (.int qa), .val (.int qc), .val (.ref kx), .val (.ref ex), .val (.ref b1), .val (.ref b15), .val (.ref b19)] [(.int (1 : Int32))])) _
    refine XS.goto X27.here hx rfl (pc0 := 572) (pc' := 576) rfl (hb hby at_572) (by decide) (by decide) ?_
    show Steps p.tables e below (T27.setTop (mkF m 576 #[.val (.int p0), .val (.int p1), .val (.int kl), .val (.int ka), .val (.int kc), .val (.int qa), .val (.int qc), .val (.ref kx), .val (.ref ex), .val (.ref b1), .val (.ref b15), .val (.ref b19)] [(.int (1 : Int32))])) _
    exact kt
  exact ⟨_, _, _, _, _, X27.more (by decide) (by decide), N24, S19, hgk19, (Nat.le_trans (Nat.le_trans (Nat.le_trans (Nat.le_trans (Nat.le_refl T19.heap.size) E21.1) E22.1) E24.1) E27.1), pre29⟩
set_option maxRecDepth 65536 in
set_option maxHeartbeats 40000000 in
theorem own_tail1 {p : Program} {l : Launch} {e : Env} {s : State} {m : MethodId} {args : Array Value} {below : List Frame} {meth : Method} {c : Code} {T0 : State} {locs : List Loc} {Z : State} {a0 : Array Value} {h0 : Heap} {n0 : Nat} {p0 p1 kl ka kc qa qc : Int32} {kx : Addr} {ex : Addr} {ek : ClassId} {G1 : Int32} {ua ub : Addr} {Ts : List String}
    (X0 : Stand p l e room_1 s m args below meth c T0 locs 4 31) (hx : p.tables.exec = Jvm.exec) (hZ : Z.Warmed39 s.vm) (hw : ∀ d ∈ tables_1, d.before a0 Z = true) (hby : c.code = code) (hml : c.maxLocals = 12) (hown : s.vm.findClass "com/example/modelwright/modelwright/FilterExceptionOfFilterKeyPinLaw" = some m.cls) (e0 : T0.heap = h0) (N0 : Fr n0 locs) (Z0 : n0 ≤ h0.size) (hka : own_c255 ka) (hkc : own_c255 kc) (hqa : own_c255 qa) (hqc : own_c255 qc) (OLD0 : Old Z n0 h0) (SCS : Sta Z Z.heap "java/lang/String" "COMPACT_STRINGS" "Z" (.int G1)) (P5 : ¬ (G1 = (0 : Int32))) (hl : l.stackTraces = true) (SU : Sta Z Z.heap "java/lang/Throwable" "UNASSIGNED_STACK" "[Ljava/lang/StackTraceElement;" (.ref ua)) (SV : Sta Z Z.heap "java/lang/Throwable" "SUPPRESSED_SENTINEL" "Ljava/util/List;" (.ref ub)) (XK : own_str Z h0 kx ([ka] : List Int32)) (XA : Arv Z h0 ex ek .char (22 : Int32) (([(67 : Int32), (97 : Int32), (110 : Int32), (110 : Int32), (111 : Int32), (116 : Int32), (32 : Int32), (102 : Int32), (105 : Int32), (108 : Int32), (116 : Int32), (101 : Int32), (114 : Int32), (32 : Int32), (98 : Int32), (121 : Int32), (32 : Int32), ka, (58 : Int32), (32 : Int32), qa, qc] : List Int32).map Value.int) (.int (0 : Int32))) (hnt : "Cannot filter by " ∉ Ts ∧ ": " ∉ Ts) (HC18 : Jvm.Lit.constHeld Z "com/example/modelwright/modelwright/FilterException" 18) (HC24 : Jvm.Lit.constHeld Z "com/example/modelwright/modelwright/FilterException" 24) (HCW : Jvm.Lit.compactW.before a0 Z = true) (I0 : IB Z s.vm Ts) (hK : s.vm.MethodsKnown ∧ s.vm.FramesKnown below) :
    ∃ (vm' : Vm) (k : Nat) (T' : State) (Ls : Array Slot) (locs' : List Loc), Stand p l e room_1 (s.setVm vm') m args below meth c T' locs' 24 3200 ∧ Fr n0 locs' ∧ s.Since vm' k ∧ h0.size ≤ k ∧ k ≤ T'.heap.size ∧ ∀ t, Steps p.tables e below (T'.setTop (mkF m 576 Ls [.int (1 : Int32)])) t → Steps p.tables e below (T0.setTop (mkF m 496 #[.val (.int p0), .val (.int p1), .val (.int kl), .val (.int ka), .val (.int kc), .val (.int qa), .val (.int qc), .val (.ref kx), .val (.ref ex), .unset, .unset, .unset] [])) t := by
  have pre0 : ∀ t, Steps p.tables e below (T0.setTop (mkF m 496 #[.val (.int p0), .val (.int p1), .val (.int kl), .val (.int ka), .val (.int kc), .val (.int qa), .val (.int qc), .val (.ref kx), .val (.ref ex), .unset, .unset, .unset] [])) t → Steps p.tables e below (T0.setTop (mkF m 496 #[.val (.int p0), .val (.int p1), .val (.int kl), .val (.int ka), .val (.int kc), .val (.int qa), .val (.int qc), .val (.ref kx), .val (.ref ex), .unset, .unset, .unset] [])) t := fun t k => k
  have K0 := Keep.refl h0 ([] : List Addr)
  obtain ⟨T1, h1, X1, e1, E1, A1, D1, un1, st1⟩ := newO X0 hx hZ hown (hw _ (List.mem_of_getElem? (i := 9) rfl)) (hw _ (List.mem_of_getElem? (i := 2) rfl)) (hw _ (List.mem_of_getElem? (i := 1) rfl)) e0 (g := (mkF m 496 #[.val (.int p0), .val (.int p1), .val (.int kl), .val (.int ka), .val (.int kc), .val (.int qa), .val (.int qc), .val (.ref kx), .val (.ref ex), .unset, .unset, .unset] [])) rfl (hb hby at_496) (by decide) (by decide)
  obtain ⟨b1, g1⟩ : ∃ z, z = h0.size := ⟨_, rfl⟩
  rw [← g1] at A1 D1 un1 st1
  have g_b1 : n0 ≤ b1 := Nat.le_trans (Nat.le_trans Z0 K0.1) (Nat.le_of_eq g1.symm)
  have sz_b1 : h0.size ≤ b1 := Nat.le_trans K0.1 (Nat.le_of_eq g1.symm)
  have ne_ex_b1 : ex ≠ b1 := Nat.ne_of_lt (Nat.lt_of_lt_of_le XA.lt (Nat.le_of_eq g1.symm))
  have K1 := K0.ext E1
  have F_value_b1 : Fld Z h1 b1 "java/lang/String" "value" "[B" .null := D1 (Or.inr (hw _ (List.mem_of_getElem? (i := 4) rfl))) (ty := (.array .byte)) (by decide)
  have F_coder_b1 : Fld Z h1 b1 "java/lang/String" "coder" "B" (.int (0 : Int32)) := D1 (Or.inr (hw _ (List.mem_of_getElem? (i := 5) rfl))) (ty := .byte) (by decide)
  have c2 := (XA.ext E1)
  obtain ⟨T3, h3, k3, X3, e3, E3, A3, st3⟩ := newP X1 hx hZ (hw _ (List.mem_of_getElem? (i := 8) rfl)) e1 (g := (mkF m 501 #[.val (.int p0), .val (.int p1), .val (.int kl), .val (.int ka), .val (.int kc), .val (.int qa), .val (.int qc), .val (.ref kx), .val (.ref ex), .unset, .unset, .unset] [(.int (2 : Int32)), (.ref b1), (.ref b1)])) rfl (hb hby at_501) rfl (by decide) (cap := 2) (by decide) (by decide) (by decide) (by decide)
  obtain ⟨b3, g3⟩ : ∃ z, z = h1.size := ⟨_, rfl⟩
  rw [← g3] at A3 st3
  have g_b3 : n0 ≤ b3 := Nat.le_trans (Nat.le_trans Z0 K1.1) (Nat.le_of_eq g3.symm)
  have sz_b3 : h0.size ≤ b3 := Nat.le_trans K1.1 (Nat.le_of_eq g3.symm)
  have ne_ex_b3 : ex ≠ b3 := Nat.ne_of_lt (Nat.lt_of_lt_of_le c2.lt (Nat.le_of_eq g3.symm))
  have ne_b1_b3 : b1 ≠ b3 := Nat.ne_of_lt (Nat.lt_of_lt_of_le A1.lt (Nat.le_of_eq g3.symm))
  have K3 := K1.ext E3
  have V_b3 : Arv Z h3 b3 k3 .char (2 : Int32) [(.int (0 : Int32)), (.int (0 : Int32))] (.int (0 : Int32)) := (Arv.new A3 (by decide)).pad (pad_rep [] (.int (0 : Int32)) 2)
  obtain ⟨clo4, Aro4, qo4, So4, No4, Ho4, Go4⟩ := id V_b3
  have hino4 : ¬ ((0 : Int32) < 0 ∨ clo4.slots.size ≤ ((0 : Int32)).toNatClampNeg) := inb_of So4 ⟨by decide, by decide⟩
  obtain ⟨T5, h5, X5, e5, W5, st5⟩ := stC X3 hx hZ e3 Aro4 (j := (0 : Int32)) hino4 (g := (mkF m 507 #[.val (.int p0), .val (.int p1), .val (.int kl), .val (.int ka), .val (.int kc), .val (.int qa), .val (.int qc), .val (.ref kx), .val (.ref ex), .unset, .unset, .unset] [(.int qa), (.int (0 : Int32)), (.ref b3), (.ref b3), (.ref b1), (.ref b1)])) rfl rfl (hb hby at_507)
  have V5 : Arv Z h5 b3 k3 .char (2 : Int32) [(.int (nar .char qa)), (.int (0 : Int32))] (.int (0 : Int32)) := Arv.set Aro4 qo4 So4 No4 Ho4 Go4 (fits_nar_char _) W5 0 rfl (Nat.le_of_ble_eq_true rfl)
  have K5 := K3.wr W5 (Or.inr sz_b3)
  have N5 := Fr.snoc X5 N0 g_b3
  obtain ⟨clo6, Aro6, qo6, So6, No6, Ho6, Go6⟩ := id V5
  have hino6 : ¬ ((1 : Int32) < 0 ∨ clo6.slots.size ≤ ((1 : Int32)).toNatClampNeg) := inb_of So6 ⟨by decide, by decide⟩
  obtain ⟨T7, h7, X7, e7, W7, st7⟩ := stC X5 hx hZ e5 Aro6 (j := (1 : Int32)) hino6 (g := (mkF m 512 #[.val (.int p0), .val (.int p1), .val (.int kl), .val (.int ka), .val (.int kc), .val (.int qa), .val (.int qc), .val (.ref kx), .val (.ref ex), .unset, .unset, .unset] [(.int qc), (.int (1 : Int32)), (.ref b3), (.ref b3), (.ref b1), (.ref b1)])) rfl rfl (hb hby at_512)
  have V7 : Arv Z h7 b3 k3 .char (2 : Int32) [(.int (nar .char qa)), (.int (nar .char qc))] (.int (0 : Int32)) := Arv.set Aro6 qo6 So6 No6 Ho6 Go6 (fits_nar_char _) W7 1 rfl (Nat.le_of_ble_eq_true rfl)
  have K7 := K5.wr W7 (Or.inr sz_b3)
  have N7 := Fr.snoc X7 N5 g_b3
  have c9 := (((A1.ext E3).wr W5).wr W7)
  have c10 := (((F_value_b1.ext E3).other W5 (Or.inl ne_b1_b3)).other W7 (Or.inl ne_b1_b3))
  have c11 := (((F_coder_b1.ext E3).other W5 (Or.inl ne_b1_b3)).other W7 (Or.inl ne_b1_b3))
  have OLD8 : Old Z n0 h7 := OLD0.keep K7 all0
  have hp8 : ∀ c ∈ ([qa, qc] : List Int32), own_c255 c := (own_cons hqa (own_cons hqc own_lm0))
  have va8 : Arv Z h7 b3 k3 .char (2 : Int32) (([qa, qc] : List Int32).map Value.int) (.int (0 : Int32)) := by
    have q : Arv Z h7 b3 k3 .char (2 : Int32) (([qa, qc] : List Int32).map fun c => Value.int (nar .char c)) (.int (0 : Int32)) := V7
    rw [own_c16L hp8] at q; exact q
  obtain ⟨_, _, ⟨T8, L8, k8, n8⟩, -, X8, ⟨Lc8, hQ8, l8, y8, z8⟩, st8⟩ := X7.specialBack hx (y := (⟨"java/lang/String", "<init>", "([C)V"⟩ : MethodName)) rfl hown (mvT hZ (hw _ (List.mem_of_getElem? (i := 10) rfl))) (mvT hZ (hw _ (List.mem_of_getElem? (i := 11) rfl))) (mvT hZ (hw _ (List.mem_of_getElem? (i := 12) rfl))) (by decide) (StrChars.Road.backV (W := 1) hZ (hws a0 Z hw) (kI := 4) (hw _ (List.mem_of_getElem? (i := 2) rfl)) (cs := ([qa, qc] : List Int32)) (bs := ([qa, qc] : List Int32).map (fun c => c.toInt8.toInt32)) (n := 2) g_b1 (Nat.le_trans Z0 K7.1) c9 c10 c11 va8 (SCS.ext OLD8.2) P5 rfl rfl (by decide) (by decide) hp8 rfl (by decide) (by decide)) (g := (mkF m 513 #[.val (.int p0), .val (.int p1), .val (.int kl), .val (.int ka), .val (.int kc), .val (.int qa), .val (.int qc), .val (.ref kx), .val (.ref ex), .unset, .unset, .unset] [(.ref b3), (.ref b1), (.ref b1)])) rfl (by rw [hml]; rfl) (Steps.refl _) (a := b1) (argsL := [(.ref b3)]) (rest := [(.ref b1)]) (lenOf pd___C_V rfl) rfl (by show 2 * 0 + _ ≤ _; exact Nat.le_of_eq rfl) (hb hby at_513) (fun _ _ => ⟨rfl, e7, (by decide : 6 + 1 ≤ _), (by decide : 37 + 2 ≤ _)⟩)
  dsimp only [Pt.U, Pt.locs, Pt.cells, Pt.slots] at X8 l8 y8 z8 st8 hQ8
  subst l8 y8 z8
  obtain ⟨rfl, N8q, kq8, xq8, cq8, t8, kb8, ut8, vt8, wt8, vq8, aq8⟩ := hQ8
  have N8 := Fr.app N7 N8q
  have K8 := K7.trans kq8 (allS (Or.inr sz_b1) all0)
  have xs8 : own_str Z T8.heap b1 ([qa, qc] : List Int32) := ⟨t8, kb8, xq8, cq8, vq8, aq8⟩
  have c12 := ((((c2.ext E3).other W5 ne_ex_b3).other W7 ne_ex_b3).keep kq8 (ninS ne_ex_b1 nin0))
  have c13 := (c9.keep kq8)
  have c14 := (V7.keep kq8 (ninS (Ne.symm ne_b1_b3) nin0))
  obtain ⟨T15, h15, X15, e15, E15, A15, D15, un15, st15⟩ := newO X8 hx hZ hown (hw _ (List.mem_of_getElem? (i := 9) rfl)) (hw _ (List.mem_of_getElem? (i := 2) rfl)) (hw _ (List.mem_of_getElem? (i := 1) rfl)) rfl (g := (mkF m 518 #[.val (.int p0), .val (.int p1), .val (.int kl), .val (.int ka), .val (.int kc), .val (.int qa), .val (.int qc), .val (.ref kx), .val (.ref ex), .val (.ref b1), .unset, .unset] [])) rfl (hb hby at_518) (by decide) (by decide)
  obtain ⟨b15, g15⟩ : ∃ z, z = T8.heap.size := ⟨_, rfl⟩
  rw [← g15] at A15 D15 un15 st15
  have g_b15 : n0 ≤ b15 := Nat.le_trans (Nat.le_trans Z0 K8.1) (Nat.le_of_eq g15.symm)
  have sz_b15 : h0.size ≤ b15 := Nat.le_trans K8.1 (Nat.le_of_eq g15.symm)
  have ne_ex_b15 : ex ≠ b15 := Nat.ne_of_lt (Nat.lt_of_lt_of_le c12.lt (Nat.le_of_eq g15.symm))
  have ne_b1_b15 : b1 ≠ b15 := Nat.ne_of_lt (Nat.lt_of_lt_of_le c13.lt (Nat.le_of_eq g15.symm))
  have ne_b3_b15 : b3 ≠ b15 := Nat.ne_of_lt (Nat.lt_of_lt_of_le c14.lt (Nat.le_of_eq g15.symm))
  have K15 := K8.ext E15
  have F_value_b15 : Fld Z h15 b15 "java/lang/String" "value" "[B" .null := D15 (Or.inr (hw _ (List.mem_of_getElem? (i := 4) rfl))) (ty := (.array .byte)) (by decide)
  have F_coder_b15 : Fld Z h15 b15 "java/lang/String" "coder" "B" (.int (0 : Int32)) := D15 (Or.inr (hw _ (List.mem_of_getElem? (i := 5) rfl))) (ty := .byte) (by decide)
  have c17 := (c12.ext E15)
  have OLD16 : Old Z n0 h15 := OLD0.keep K15 all0
  have hp16 : ∀ c ∈ ([(67 : Int32), (97 : Int32), (110 : Int32), (110 : Int32), (111 : Int32), (116 : Int32), (32 : Int32), (102 : Int32), (105 : Int32), (108 : Int32), (116 : Int32), (101 : Int32), (114 : Int32), (32 : Int32), (98 : Int32), (121 : Int32), (32 : Int32), ka, (58 : Int32), (32 : Int32), qa, qc] : List Int32), own_c255 c := (own_cons ⟨by decide, by decide⟩ (own_cons ⟨by decide, by decide⟩ (own_cons ⟨by decide, by decide⟩ (own_cons ⟨by decide, by decide⟩ (own_cons ⟨by decide, by decide⟩ (own_cons ⟨by decide, by decide⟩ (own_cons ⟨by decide, by decide⟩ (own_cons ⟨by decide, by decide⟩ (own_cons ⟨by decide, by decide⟩ (own_cons ⟨by decide, by decide⟩ (own_cons ⟨by decide, by decide⟩ (own_cons ⟨by decide, by decide⟩ (own_cons ⟨by decide, by decide⟩ (own_cons ⟨by decide, by decide⟩ (own_cons ⟨by decide, by decide⟩ (own_cons ⟨by decide, by decide⟩ (own_cons ⟨by decide, by decide⟩ (own_cons hka (own_cons ⟨by decide, by decide⟩ (own_cons ⟨by decide, by decide⟩ (own_cons hqa (own_cons hqc own_lm0))))))))))))))))))))))
  have va16 := c17
  obtain ⟨_, _, ⟨T16, L16, k16, n16⟩, -, X16, ⟨Lc16, hQ16, l16, y16, z16⟩, st16⟩ := X15.specialBack hx (y := (⟨"java/lang/String", "<init>", "([C)V"⟩ : MethodName)) rfl hown (mvT hZ (hw _ (List.mem_of_getElem? (i := 10) rfl))) (mvT hZ (hw _ (List.mem_of_getElem? (i := 11) rfl))) (mvT hZ (hw _ (List.mem_of_getElem? (i := 12) rfl))) (by decide) (StrChars.Road.backV (W := 1) hZ (hws a0 Z hw) (kI := 4) (hw _ (List.mem_of_getElem? (i := 2) rfl)) (cs := ([(67 : Int32), (97 : Int32), (110 : Int32), (110 : Int32), (111 : Int32), (116 : Int32), (32 : Int32), (102 : Int32), (105 : Int32), (108 : Int32), (116 : Int32), (101 : Int32), (114 : Int32), (32 : Int32), (98 : Int32), (121 : Int32), (32 : Int32), ka, (58 : Int32), (32 : Int32), qa, qc] : List Int32)) (bs := ([(67 : Int32), (97 : Int32), (110 : Int32), (110 : Int32), (111 : Int32), (116 : Int32), (32 : Int32), (102 : Int32), (105 : Int32), (108 : Int32), (116 : Int32), (101 : Int32), (114 : Int32), (32 : Int32), (98 : Int32), (121 : Int32), (32 : Int32), ka, (58 : Int32), (32 : Int32), qa, qc] : List Int32).map (fun c => c.toInt8.toInt32)) (n := 22) g_b15 (Nat.le_trans Z0 K15.1) A15 F_value_b15 F_coder_b15 va16 (SCS.ext OLD16.2) P5 rfl rfl (by decide) (by decide) hp16 rfl (by decide) (by decide)) (g := (mkF m 524 #[.val (.int p0), .val (.int p1), .val (.int kl), .val (.int ka), .val (.int kc), .val (.int qa), .val (.int qc), .val (.ref kx), .val (.ref ex), .val (.ref b1), .unset, .unset] [(.ref ex), (.ref b15), (.ref b15)])) rfl (by rw [hml]; rfl) (Steps.refl _) (a := b15) (argsL := [(.ref ex)]) (rest := [(.ref b15)]) (lenOf pd___C_V rfl) rfl (by show 2 * 0 + _ ≤ _; exact Nat.le_of_eq rfl) (hb hby at_524) (fun _ _ => ⟨rfl, e15, (by decide : 8 + 1 ≤ _), (by decide : 43 + 22 ≤ _)⟩)
  dsimp only [Pt.U, Pt.locs, Pt.cells, Pt.slots] at X16 l16 y16 z16 st16 hQ16
  subst l16 y16 z16
  obtain ⟨rfl, N16q, kq16, xq16, cq16, t16, kb16, ut16, vt16, wt16, vq16, aq16⟩ := hQ16
  have N16 := Fr.app N8 N16q
  have K16 := K15.trans kq16 (allS (Or.inr sz_b15) all0)
  have xs16 : own_str Z T16.heap b15 ([(67 : Int32), (97 : Int32), (110 : Int32), (110 : Int32), (111 : Int32), (116 : Int32), (32 : Int32), (102 : Int32), (105 : Int32), (108 : Int32), (116 : Int32), (101 : Int32), (114 : Int32), (32 : Int32), (98 : Int32), (121 : Int32), (32 : Int32), ka, (58 : Int32), (32 : Int32), qa, qc] : List Int32) := ⟨t16, kb16, xq16, cq16, vq16, aq16⟩
  have pre18 : ∀ t, Steps p.tables e below (T16.setTop (mkF m 533 #[.val (.int p0), .val (.int p1), .val (.int kl), .val (.int ka), .val (.int kc), .val (.int qa), .val (.int qc), .val (.ref kx), .val (.ref ex), .val (.ref b1), .val (.ref b15), .unset] [(.ref b1), (.ref kx)])) t → Steps p.tables e below (T0.setTop (mkF m 496 #[.val (.int p0), .val (.int p1), .val (.int kl), .val (.int ka), .val (.int kc), .val (.int qa), .val (.int qc), .val (.ref kx), .val (.ref ex), .unset, .unset, .unset] [])) t := by
    intro t kt
    refine pre0 _ ?_
    show Steps p.tables e below (T0.setTop (mkF m 496 #[.val (.int p0), .val (.int p1), .val (.int kl), .val (.int ka), .val (.int kc), .val (.int qa), .val (.int qc), .val (.ref kx), .val (.ref ex), .unset, .unset, .unset] [])) _
    refine st1 _ ?_
    show Steps p.tables e below (T1.setTop (mkF m 499 #[.val (.int p0), .val (.int p1), .val (.int kl), .val (.int ka), .val (.int kc), .val (.int qa), .val (.int qc), .val (.ref kx), .val (.ref ex), .unset, .unset, .unset] [(.ref b1)])) _
    refine XS.dup X1.here hx rfl (hb hby at_499) rfl rfl ?_
    show Steps p.tables e below (T1.setTop (mkF m 500 #[.val (.int p0), .val (.int p1), .val (.int kl), .val (.int ka), .val (.int kc), .val (.int qa), .val (.int qc), .val (.ref kx), .val (.ref ex), .unset, .unset, .unset] [(.ref b1), (.ref b1)])) _
    refine XS.iconst X1.here hx rfl (hb hby at_500) ?_
    show Steps p.tables e below (T1.setTop (mkF m 501 #[.val (.int p0), .val (.int p1), .val (.int kl), .val (.int ka), .val (.int kc), .val (.int qa), .val (.int qc), .val (.ref kx), .val (.ref ex), .unset, .unset, .unset] [(.int (2 : Int32)), (.ref b1), (.ref b1)])) _
    refine st3 _ ?_
    show Steps p.tables e below (T3.setTop (mkF m 503 #[.val (.int p0), .val (.int p1), .val (.int kl), .val (.int ka), .val (.int kc), .val (.int qa), .val (.int qc), .val (.ref kx), .val (.ref ex), .unset, .unset, .unset] [(.ref b3), (.ref b1), (.ref b1)])) _
    refine XS.dup X3.here hx rfl (hb hby at_503) rfl rfl ?_
    show Steps p.tables e below (T3.setTop (mkF m 504 #[.val (.int p0), .val (.int p1), .val (.int kl), .val (.int ka), .val (.int kc), .val (.int qa), .val (.int qc), .val (.ref kx), .val (.ref ex), .unset, .unset, .unset] [(.ref b3), (.ref b3), (.ref b1), (.ref b1)])) _
    refine XS.iconst X3.here hx rfl (hb hby at_504) ?_
    show Steps p.tables e below (T3.setTop (mkF m 505 #[.val (.int p0), .val (.int p1), .val (.int kl), .val (.int ka), .val (.int kc), .val (.int qa), .val (.int qc), .val (.ref kx), .val (.ref ex), .unset, .unset, .unset] [(.int (0 : Int32)), (.ref b3), (.ref b3), (.ref b1), (.ref b1)])) _
    refine XS.iload X3.here hx rfl (hb hby at_505) rfl ?_
    show Steps p.tables e below (T3.setTop (mkF m 507 #[.val (.int p0), .val (.int p1), .val (.int kl), .val (.int ka), .val (.int kc), .val (.int qa), .val (.int qc), .val (.ref kx), .val (.ref ex), .unset, .unset, .unset] [(.int qa), (.int (0 : Int32)), (.ref b3), (.ref b3), (.ref b1), (.ref b1)])) _
    refine st5 _ ?_
    show Steps p.tables e below (T5.setTop (mkF m 508 #[.val (.int p0), .val (.int p1), .val (.int kl), .val (.int ka), .val (.int kc), .val (.int qa), .val (.int qc), .val (.ref kx), .val (.ref ex), .unset, .unset, .unset] [(.ref b3), (.ref b1), (.ref b1)])) _
    refine XS.dup X5.here hx rfl (hb hby at_508) rfl rfl ?_
    show Steps p.tables e below (T5.setTop (mkF m 509 #[.val (.int p0), .val (.int p1), .val (.int kl), .val (.int ka), .val (.int kc), .val (.int qa), .val (.int qc), .val (.ref kx), .val (.ref ex), .unset, .unset, .unset] [(.ref b3), (.ref b3), (.ref b1), (.ref b1)])) _
    refine XS.iconst X5.here hx rfl (hb hby at_509) ?_
    show Steps p.tables e below (T5.setTop (mkF m 510 #[.val (.int p0), .val (.int p1), .val (.int kl), .val (.int ka), .val (.int kc), .val (.int qa), .val (.int qc), .val (.ref kx), .val (.ref ex), .unset, .unset, .unset] [(.int (1 : Int32)), (.ref b3), (.ref b3), (.ref b1), (.ref b1)])) _
    refine XS.iload X5.here hx rfl (hb hby at_510) rfl ?_
    show Steps p.tables e below (T5.setTop (mkF m 512 #[.val (.int p0), .val (.int p1), .val (.int kl), .val (.int ka), .val (.int kc), .val (.int qa), .val (.int qc), .val (.ref kx), .val (.ref ex), .unset, .unset, .unset] [(.int qc), (.int (1 : Int32)), (.ref b3), (.ref b3), (.ref b1), (.ref b1)])) _
    refine st7 _ ?_
    show Steps p.tables e below (T7.setTop (mkF m 513 #[.val (.int p0), .val (.int p1), .val (.int kl), .val (.int ka), .val (.int kc), .val (.int qa), .val (.int qc), .val (.ref kx), .val (.ref ex), .unset, .unset, .unset] [(.ref b3), (.ref b1), (.ref b1)])) _
    refine st8.trans ?_
    show Steps p.tables e below (T8.setTop (mkF m 516 #[.val (.int p0), .val (.int p1), .val (.int kl), .val (.int ka), .val (.int kc), .val (.int qa), .val (.int qc), .val (.ref kx), .val (.ref ex), .unset, .unset, .unset] [(.ref b1)])) _
    refine XS.astore X8.here hx rfl (hb hby at_516) rfl rfl (l' := #[.val (.int p0), .val (.int p1), .val (.int kl), .val (.int ka), .val (.int kc), .val (.int qa), .val (.int qc), .val (.ref kx), .val (.ref ex), .val (.ref b1), .unset, .unset]) rfl ?_
    show Steps p.tables e below (T8.setTop (mkF m 518 #[.val (.int p0), .val (.int p1), .val (.int kl), .val (.int ka), .val (.int kc), .val (.int qa), .val (.int qc), .val (.ref kx), .val (.ref ex), .val (.ref b1), .unset, .unset] [])) _
    refine st15 _ ?_
    show Steps p.tables e below (T15.setTop (mkF m 521 #[.val (.int p0), .val (.int p1), .val (.int kl), .val (.int ka), .val (.int kc), .val (.int qa), .val (.int qc), .val (.ref kx), .val (.ref ex), .val (.ref b1), .unset, .unset] [(.ref b15)])) _
    refine XS.dup X15.here hx rfl (hb hby at_521) rfl rfl ?_
    show Steps p.tables e below (T15.setTop (mkF m 522 #[.val (.int p0), .val (.int p1), .val (.int kl), .val (.int ka), .val (.int kc), .val (.int qa), .val (.int qc), .val (.ref kx), .val (.ref ex), .val (.ref b1), .unset, .unset] [(.ref b15), (.ref b15)])) _
    refine XS.aload X15.here hx rfl (hb hby at_522) rfl rfl ?_
    show Steps p.tables e below (T15.setTop (mkF m 524 #[.val (.int p0), .val (.int p1), .val (.int kl), .val (.int ka), .val (.int kc), .val (.int qa), .val (.int qc), .val (.ref kx), .val (.ref ex), .val (.ref b1), .unset, .unset] [(.ref ex), (.ref b15), (.ref b15)])) _
    refine st16.trans ?_
    show Steps p.tables e below (T16.setTop (mkF m 527 #[.val (.int p0), .val (.int p1), .val (.int kl), .val (.int ka), .val (.int kc), .val (.int qa), .val (.int qc), .val (.ref kx), .val (.ref ex), .val (.ref b1), .unset, .unset] [(.ref b15)])) _
    refine XS.astore X16.here hx rfl (hb hby at_527) rfl rfl (l' := #[.val (.int p0), .val (.int p1), .val (.int kl), .val (.int ka), .val (.int kc), .val (.int qa), .val (.int qc), .val (.ref kx), .val (.ref ex), .val (.ref b1), .val (.ref b15), .unset]) rfl ?_
    show Steps p.tables e below (T16.setTop (mkF m 529 #[.val (.int p0), .val (.int p1), .val (.int kl), .val (.int ka), .val (.int kc), .val (.int qa), .val (.int qc), .val (.ref kx), .val (.ref ex), .val (.ref b1), .val (.ref b15), .unset] [])) _
    refine XS.aload X16.here hx rfl (hb hby at_529) rfl rfl ?_
    show Steps p.tables e below (T16.setTop (mkF m 531 #[.val (.int p0), .val (.int p1), .val (.int kl), .val (.int ka), .val (.int kc), .val (.int qa), .val (.int qc), .val (.ref kx), .val (.ref ex), .val (.ref b1), .val (.ref b15), .unset] [(.ref kx)])) _
    refine XS.aload X16.here hx rfl (hb hby at_531) rfl rfl ?_
    show Steps p.tables e below (T16.setTop (mkF m 533 #[.val (.int p0), .val (.int p1), .val (.int kl), .val (.int ka), .val (.int kc), .val (.int qa), .val (.int qc), .val (.ref kx), .val (.ref ex), .val (.ref b1), .val (.ref b15), .unset] [(.ref b1), (.ref kx)])) _
    exact kt
  have OL20 : Old Z n0 T16.heap := OLD0.keep K16 all0
  have sk19 := (own_strP XK K16)
  have sp19 := (own_strM (own_strE xs8 E15) kq16 A15 (hw _ (List.mem_of_getElem? (i := 2) rfl)) ne_b1_b15)
  obtain ⟨_, _, ⟨T19, L19, k19, n19⟩, -, X19, S19, hg19, ⟨Lc19, hQ19, l19, y19, z19⟩, st19⟩ := callSS X16 hx (y := (⟨"com/example/modelwright/modelwright/FilterException", "ofFilterKey", "(Ljava/lang/String;Ljava/lang/String;)Lcom/example/modelwright/modelwright/FilterException;"⟩ : MethodName)) hown (mvT hZ (hw _ (List.mem_of_getElem? (i := 33) rfl))) (mvT hZ (hw _ (List.mem_of_getElem? (i := 34) rfl))) (mvT hZ (hw _ (List.mem_of_getElem? (i := 35) rfl))) (mvT hZ (hw _ (List.mem_of_getElem? (i := 36) rfl))) (by decide) (own_backI (W := 0) (rm7 l Z a0 hw [] kx b1 ([ka] : List Int32) ([qa, qc] : List Int32) G1 ua ub Ts T16.heap n0 (Nat.le_trans Z0 K16.1) OL20 SCS P5 hl SU SV sk19 sp19 (own_cons hka own_lm0) (own_cons hqa (own_cons hqc own_lm0)) (Nat.le_of_ble_eq_true rfl) (Nat.le_of_ble_eq_true rfl) hnt HC18 HC24 HCW) hZ I0 (hw _ (List.mem_of_getElem? (i := 36) rfl)) (hw _ (List.mem_of_getElem? (i := 35) rfl)) (by decide) (by decide) hK.1 hK.2) (g := (mkF m 533 #[.val (.int p0), .val (.int p1), .val (.int kl), .val (.int ka), .val (.int kc), .val (.int qa), .val (.int qc), .val (.ref kx), .val (.ref ex), .val (.ref b1), .val (.ref b15), .unset] [(.ref b1), (.ref kx)])) rfl (by rw [hml]; rfl) (argsL := [.ref kx, .ref b1]) (rest := []) (lenOf pd__Ljava_lang_String_Ljava_lang_String__Lcom_example_modelwright_modelwright_FilterException_ rfl) rfl (by show 2 * 0 + _ ≤ _; exact Nat.le_of_eq rfl) (hb hby at_533) (fun _ _ => ⟨rfl, rfl, (by decide : 9 + 11 ≤ _), (by decide : 65 + 2990 ≤ _)⟩)
  dsimp only [Pt.U, Pt.locs, Pt.cells, Pt.slots] at X19 S19 hg19 l19 y19 z19 st19 hQ19
  subst l19 y19 z19
  obtain ⟨b19, rfl, N19q, kq19, gg19, u19, ex19, ym19, fd19, fk19, ys19⟩ := hQ19
  have N19 := Fr.app N16 N19q
  have K19 := K16.trans kq19 all0
  have hZ : Z.Warmed39 (s.setVm T19.vm).vm := State.Warmed39.trans hZ S19.1
  have hown : (s.setVm T19.vm).vm.findClass "com/example/modelwright/modelwright/FilterExceptionOfFilterKeyPinLaw" = some m.cls := by
    show T19.vm.findClass _ = _
    rw [S19.1.alike.findClass]; exact hown
  have hgk19 : h0.size ≤ T19.heap.size := K19.1
  obtain ⟨cq21, kq21, q21a, q21b, q21c⟩ := isOf hZ rfl ex19
  obtain ⟨_, _, ⟨T21, L21, k21, n21⟩, -, X21, ⟨Lc21, hQ21, l21, y21, z21⟩, st21⟩ := X19.virtualBackUp hx (x := (⟨"com/example/modelwright/modelwright/FilterException", "getMessage", "()Ljava/lang/String;"⟩ : MethodName)) (y := (⟨"java/lang/Throwable", "getMessage", "()Ljava/lang/String;"⟩ : MethodName)) (owner := "java/lang/Throwable") (C := "com/example/modelwright/modelwright/FilterException") hown (mvT hZ (hw _ (List.mem_of_getElem? (i := 233) rfl))) (mvT hZ (hw _ (List.mem_of_getElem? (i := 234) rfl))) (mvT hZ (hw _ (List.mem_of_getElem? (i := 235) rfl))) (by decide) (mvT hZ (hw _ (List.mem_of_getElem? (i := 237) rfl))) (mvT hZ (hw _ (List.mem_of_getElem? (i := 236) rfl))) (backOf (W := 1) (rm40 l Z a0 hw [] b19 ym19 T19.heap n0 (Nat.le_trans Z0 K19.1) ex19 fd19) hZ (hw _ (List.mem_of_getElem? (i := 238) rfl)) (hw _ (List.mem_of_getElem? (i := 192) rfl)) (by decide) (by decide)) q21a q21c (g := (mkF m 549 #[.val (.int p0), .val (.int p1), .val (.int kl), .val (.int ka), .val (.int kc), .val (.int qa), .val (.int qc), .val (.ref kx), .val (.ref ex), .val (.ref b1), .val (.ref b15), .val (.ref b19)] [(.ref b19), (.ref b15)])) rfl (by rw [hml]; rfl) (Steps.refl _) (argsL := []) (rest := [(.ref b15)]) (lenOf pd___Ljava_lang_String_ rfl) rfl (by show 2 * 0 + _ ≤ _; exact Nat.le_of_eq rfl) (hb hby at_549) (fun _ _ => ⟨rfl, rfl, (by decide : 20 + 0 ≤ _), (by decide : 3055 + 0 ≤ _)⟩)
  dsimp only [Pt.U, Pt.locs, Pt.cells, Pt.slots] at X21 l21 y21 z21 st21 hQ21
  subst l21 y21 z21
  obtain ⟨rfl, N21q, hq21⟩ := hQ21
  have N21 := Fr.app N19 N21q
  have E21 : Ext T19.heap T21.heap := by rw [hq21]; exact ⟨Nat.le_refl _, fun _ _ q => q⟩
  have K21 := K19.ext E21
  have OL23 : Old Z n0 T21.heap := OLD0.keep K21 all0
  have sa22 := (own_strE (own_strP xs16 kq19) E21)
  have sy22 := (own_strE ys19 E21)
  obtain ⟨_, _, se22, -⟩ := id sa22
  obtain ⟨cq22, kq22, q22a, q22b, q22c⟩ := isOf hZ rfl se22
  obtain ⟨_, _, ⟨T22, L22, k22, n22⟩, -, X22, ⟨Lc22, hQ22, l22, y22, z22⟩, st22⟩ := X21.virtualBack hx (y := (⟨"java/lang/String", "equals", "(Ljava/lang/Object;)Z"⟩ : MethodName)) (z := (⟨"java/lang/String", "equals", "(Ljava/lang/Object;)Z"⟩ : MethodName)) hown (mvT hZ (hw _ (List.mem_of_getElem? (i := 239) rfl))) (mvT hZ (hw _ (List.mem_of_getElem? (i := 240) rfl))) (notFace_of_selects (args := #[]) (mvT hZ (hw _ (List.mem_of_getElem? (i := 242) rfl)))) (mvT hZ (hw _ (List.mem_of_getElem? (i := 242) rfl))) (mvT hZ (hw _ (List.mem_of_getElem? (i := 241) rfl))) (by decide) (own_eq (W := 0) hZ hw (kI := 4) (hw _ (List.mem_of_getElem? (i := 2) rfl)) sa22 sy22 rfl (own_cons ⟨by decide, by decide⟩ (own_cons ⟨by decide, by decide⟩ (own_cons ⟨by decide, by decide⟩ (own_cons ⟨by decide, by decide⟩ (own_cons ⟨by decide, by decide⟩ (own_cons ⟨by decide, by decide⟩ (own_cons ⟨by decide, by decide⟩ (own_cons ⟨by decide, by decide⟩ (own_cons ⟨by decide, by decide⟩ (own_cons ⟨by decide, by decide⟩ (own_cons ⟨by decide, by decide⟩ (own_cons ⟨by decide, by decide⟩ (own_cons ⟨by decide, by decide⟩ (own_cons ⟨by decide, by decide⟩ (own_cons ⟨by decide, by decide⟩ (own_cons ⟨by decide, by decide⟩ (own_cons ⟨by decide, by decide⟩ (own_cons hka (own_cons ⟨by decide, by decide⟩ (own_cons ⟨by decide, by decide⟩ (own_cons hqa (own_cons hqc own_lm0)))))))))))))))))))))) (Nat.le_of_ble_eq_true rfl) (SCS.ext OL23.2) P5 (by decide) (by decide)) q22a q22c (g := (mkF m 552 #[.val (.int p0), .val (.int p1), .val (.int kl), .val (.int ka), .val (.int kc), .val (.int qa), .val (.int qc), .val (.ref kx), .val (.ref ex), .val (.ref b1), .val (.ref b15), .val (.ref b19)] [(.ref ym19), (.ref b15)])) rfl (by rw [hml]; rfl) (Steps.refl _) (argsL := [(.ref ym19)]) (rest := []) (lenOf pd__Ljava_lang_Object__Z rfl) rfl (by show 2 * 0 + _ ≤ _; exact Nat.le_of_eq rfl) (hb hby at_552) (fun _ _ => ⟨rfl, rfl, (by decide : 20 + 0 ≤ _), (by decide : 3055 + 0 ≤ _)⟩)
  dsimp only [Pt.U, Pt.locs, Pt.cells, Pt.slots] at X22 l22 y22 z22 st22 hQ22
  subst l22 y22 z22
  obtain ⟨rfl, rfl, hq22⟩ := hQ22
  try rw [List.append_nil] at X22
  have E22 : Ext T21.heap T22.heap := by rw [hq22]; exact ⟨Nat.le_refl _, fun _ _ q => q⟩
  have K22 := K21.ext E22
  have c25 := ((ex19.ext E21).ext E22)
  have c26 := ((fk19.ext E21).ext E22)
  obtain ⟨cq24, kq24, q24a, q24b, q24c⟩ := isOf hZ rfl c25
  obtain ⟨_, _, ⟨T24, L24, k24, n24⟩, -, X24, ⟨Lc24, hQ24, l24, y24, z24⟩, st24⟩ := X22.virtualBack hx (y := (⟨"com/example/modelwright/modelwright/FilterException", "key", "()Ljava/lang/String;"⟩ : MethodName)) (z := (⟨"com/example/modelwright/modelwright/FilterException", "key", "()Ljava/lang/String;"⟩ : MethodName)) hown (mvT hZ (hw _ (List.mem_of_getElem? (i := 249) rfl))) (mvT hZ (hw _ (List.mem_of_getElem? (i := 250) rfl))) (notFace_of_selects (args := #[]) (mvT hZ (hw _ (List.mem_of_getElem? (i := 252) rfl)))) (mvT hZ (hw _ (List.mem_of_getElem? (i := 252) rfl))) (mvT hZ (hw _ (List.mem_of_getElem? (i := 251) rfl))) (by decide) (backOf (W := 1) (rm43 l Z a0 hw [] b19 kx T22.heap n0 (Nat.le_trans Z0 K22.1) c25 c26) hZ (hw _ (List.mem_of_getElem? (i := 253) rfl)) (hw _ (List.mem_of_getElem? (i := 35) rfl)) (by decide) (by decide)) q24a q24c (g := (mkF m 562 #[.val (.int p0), .val (.int p1), .val (.int kl), .val (.int ka), .val (.int kc), .val (.int qa), .val (.int qc), .val (.ref kx), .val (.ref ex), .val (.ref b1), .val (.ref b15), .val (.ref b19)] [(.ref b19), (.ref kx)])) rfl (by rw [hml]; rfl) (Steps.refl _) (argsL := []) (rest := [(.ref kx)]) (lenOf pd___Ljava_lang_String_ rfl) rfl (by show 2 * 0 + _ ≤ _; exact Nat.le_of_eq rfl) (hb hby at_562) (fun _ _ => ⟨rfl, rfl, (by decide : 20 + 0 ≤ _), (by decide : 3055 + 0 ≤ _)⟩)
  dsimp only [Pt.U, Pt.locs, Pt.cells, Pt.slots] at X24 l24 y24 z24 st24 hQ24
  subst l24 y24 z24
  obtain ⟨rfl, N24q, hq24⟩ := hQ24
  have N24 := Fr.app N21 N24q
  have E24 : Ext T22.heap T24.heap := by rw [hq24]; exact ⟨Nat.le_refl _, fun _ _ q => q⟩
  have K24 := K22.ext E24
  have OL28 : Old Z n0 T24.heap := OLD0.keep K24 all0
  have sa27 := (own_strP XK K24)
  have sy27 := (own_strP XK K24)
  obtain ⟨_, _, se27, -⟩ := id sa27
  obtain ⟨cq27, kq27, q27a, q27b, q27c⟩ := isOf hZ rfl se27
  obtain ⟨_, _, ⟨T27, L27, k27, n27⟩, -, X27, ⟨Lc27, hQ27, l27, y27, z27⟩, st27⟩ := X24.virtualBack hx (y := (⟨"java/lang/String", "equals", "(Ljava/lang/Object;)Z"⟩ : MethodName)) (z := (⟨"java/lang/String", "equals", "(Ljava/lang/Object;)Z"⟩ : MethodName)) hown (mvT hZ (hw _ (List.mem_of_getElem? (i := 239) rfl))) (mvT hZ (hw _ (List.mem_of_getElem? (i := 240) rfl))) (notFace_of_selects (args := #[]) (mvT hZ (hw _ (List.mem_of_getElem? (i := 242) rfl)))) (mvT hZ (hw _ (List.mem_of_getElem? (i := 242) rfl))) (mvT hZ (hw _ (List.mem_of_getElem? (i := 241) rfl))) (by decide) (own_eq (W := 0) hZ hw (kI := 4) (hw _ (List.mem_of_getElem? (i := 2) rfl)) sa27 sy27 rfl (own_cons hka own_lm0) (Nat.le_of_ble_eq_true rfl) (SCS.ext OL28.2) P5 (by decide) (by decide)) q27a q27c (g := (mkF m 565 #[.val (.int p0), .val (.int p1), .val (.int kl), .val (.int ka), .val (.int kc), .val (.int qa), .val (.int qc), .val (.ref kx), .val (.ref ex), .val (.ref b1), .val (.ref b15), .val (.ref b19)] [(.ref kx), (.ref kx)])) rfl (by rw [hml]; rfl) (Steps.refl _) (argsL := [(.ref kx)]) (rest := []) (lenOf pd__Ljava_lang_Object__Z rfl) rfl (by show 2 * 0 + _ ≤ _; exact Nat.le_of_eq rfl) (hb hby at_565) (fun _ _ => ⟨rfl, rfl, (by decide : 20 + 0 ≤ _), (by decide : 3055 + 0 ≤ _)⟩)
  dsimp only [Pt.U, Pt.locs, Pt.cells, Pt.slots] at X27 l27 y27 z27 st27 hQ27
  subst l27 y27 z27
  obtain ⟨rfl, rfl, hq27⟩ := hQ27
  try rw [List.append_nil] at X27
  have E27 : Ext T24.heap T27.heap := by rw [hq27]; exact ⟨Nat.le_refl _, fun _ _ q => q⟩
  have K27 := K24.ext E27
  have pre29 : ∀ t, Steps p.tables e below (T27.setTop (mkF m 576 #[.val (.int p0), .val (.int p1), .val (.int kl), .val (.int ka), .val (.int kc), .val (.int qa), .val (.int qc), .val (.ref kx), .val (.ref ex), .val (.ref b1), .val (.ref b15), .val (.ref b19)] [(.int (1 : Int32))])) t → Steps p.tables e below (T0.setTop (mkF m 496 #[.val (.int p0), .val (.int p1), .val (.int kl), .val (.int ka), .val (.int kc), .val (.int qa), .val (.int qc), .val (.ref kx), .val (.ref ex), .unset, .unset, .unset] [])) t := by
    intro t kt
    refine pre18 _ ?_
    show Steps p.tables e below (T16.setTop (mkF m 533 #[.val (.int p0), .val (.int p1), .val (.int kl), .val (.int ka), .val (.int kc), .val (.int qa), .val (.int qc), .val (.ref kx), .val (.ref ex), .val (.ref b1), .val (.ref b15), .unset] [(.ref b1), (.ref kx)])) _
    refine st19.trans ?_
    show Steps p.tables e below (T19.setTop (mkF m 536 #[.val (.int p0), .val (.int p1), .val (.int kl), .val (.int ka), .val (.int kc), .val (.int qa), .val (.int qc), .val (.ref kx), .val (.ref ex), .val (.ref b1), .val (.ref b15), .unset] [(.ref b19)])) _
    refine XS.astore X19.here hx rfl (hb hby at_536) rfl rfl (l' := #[.val (.int p0), .val (.int p1), .val (.int kl), .val (.int ka), .val (.int kc), .val (.int qa), .val (.int qc), .val (.ref kx), .val (.ref ex), .val (.ref b1), .val (.ref b15), .val (.ref b19)]) rfl ?_
    show Steps p.tables e below (T19.setTop (mkF m 538 #[.val (.int p0), .val (.int p1), .val (.int kl), .val (.int ka), .val (.int kc), .val (.int qa), .val (.int qc), .val (.ref kx), .val (.ref ex), .val (.ref b1), .val (.ref b15), .val (.ref b19)] [])) _
    refine XS.aload X19.here hx rfl (hb hby at_538) rfl rfl ?_
    show Steps p.tables e below (T19.setTop (mkF m 540 #[.val (.int p0), .val (.int p1), .val (.int kl), .val (.int ka), .val (.int kc), .val (.int qa), .val (.int qc), .val (.ref kx), .val (.ref ex), .val (.ref b1), .val (.ref b15), .val (.ref b19)] [(.ref b19)])) _
    refine XS.ifnonnullYes X19.here hx rfl (pc0 := 540) (pc' := 545) rfl (hb hby at_540) rfl (by decide) (by decide) ?_
    show Steps p.tables e below (T19.setTop (mkF m 545 #[.val (.int p0), .val (.int p1), .val (.int kl), .val (.int ka), .val (.int kc), .val (.int qa), .val (.int qc), .val (.ref kx), .val (.ref ex), .val (.ref b1), .val (.ref b15), .val (.ref b19)] [])) _
    refine XS.aload X19.here hx rfl (hb hby at_545) rfl rfl ?_
    show Steps p.tables e below (T19.setTop (mkF m 547 #[.val (.int p0), .val (.int p1), .val (.int kl), .val (.int ka), .val (.int kc), .val (.int qa), .val (.int qc), .val (.ref kx), .val (.ref ex), .val (.ref b1), .val (.ref b15), .val (.ref b19)] [(.ref b15)])) _
    refine XS.aload X19.here hx rfl (hb hby at_547) rfl rfl ?_
    show Steps p.tables e below (T19.setTop (mkF m 549 #[.val (.int p0), .val (.int p1), .val (.int kl), .val (.int ka), .val (.int kc), .val (.int qa), .val (.int qc), .val (.ref kx), .val (.ref ex), .val (.ref b1), .val (.ref b15), .val (.ref b19)] [(.ref b19), (.ref b15)])) _
    refine st21.trans ?_
    show Steps p.tables e below (T21.setTop (mkF m 552 #[.val (.int p0), .val (.int p1), .val (.int kl), .val (.int ka), .val (.int kc), .val (.int qa), .val (.int qc), .val (.ref kx), .val (.ref ex), .val (.ref b1), .val (.ref b15), .val (.ref b19)] [(.ref ym19), (.ref b15)])) _
    refine st22.trans ?_
    show Steps p.tables e below (T22.setTop (mkF m 555 #[.val (.int p0), .val (.int p1), .val (.int kl), .val (.int ka), .val (.int kc), .val (.int qa), .val (.int qc), .val (.ref kx), .val (.ref ex), .val (.ref b1), .val (.ref b15), .val (.ref b19)] [(.int (1 : Int32))])) _
    refine XS.ifNo X22.here hx rfl (hb hby at_555) rfl ((if0 _ _).trans (feq (by decide : ¬ ((1 : Int32) = (0 : Int32)))).1) ?_
    show Steps p.tables e below (T22.setTop (mkF m 558 #[.val (.int p0), .val (.int p1), .val (.int kl), .val (.int ka), .val (.int kc), .val (.int qa), .val (.int qc), .val (.ref kx), .val (.ref ex), .val (.ref b1), .val (.ref b15), .val (.ref b19)] [])) _
    refine XS.aload X22.here hx rfl (hb hby at_558) rfl rfl ?_
    show Steps p.tables e below (T22.setTop (mkF m 560 #[.val (.int p0), .val (.int p1), .val (.int kl), .val (.int ka), .val (.int kc), .val (.int qa), .val (.int qc), .val (.ref kx), .val (.ref ex), .val (.ref b1), .val (.ref b15), .val (.ref b19)] [(.ref kx)])) _
    refine XS.aload X22.here hx rfl (hb hby at_560) rfl rfl ?_
    show Steps p.tables e below (T22.setTop (mkF m 562 #[.val (.int p0), .val (.int p1), .val (.int kl), .val (.int ka), .val (.int kc), .val (.int qa), .val (.int qc), .val (.ref kx), .val (.ref ex), .val (.ref b1), .val (.ref b15), .val (.ref b19)] [(.ref b19), (.ref kx)])) _
    refine st24.trans ?_
    show Steps p.tables e below (T24.setTop (mkF m 565 #[.val (.int p0), .val (.int p1), .val (.int kl), .val (.int ka), .val (.int kc), .val (.int qa), .val (.int qc), .val (.ref kx), .val (.ref ex), .val (.ref b1), .val (.ref b15), .val (.ref b19)] [(.ref kx), (.ref kx)])) _
    refine st27.trans ?_
    show Steps p.tables e below (T27.setTop (mkF m 568 #[.val (.int p0), .val (.int p1), .val (.int kl), .val (.int ka), .val (.int kc), .val (.int qa), .val (.int qc), .val (.ref kx), .val (.ref ex), .val (.ref b1), .val (.ref b15), .val (.ref b19)] [(.int (1 : Int32))])) _
    refine XS.ifNo X27.here hx rfl (hb hby at_568) rfl ((if0 _ _).trans (feq (by decide : ¬ ((1 : Int32) = (0 : Int32)))).1) ?_
    show Steps p.tables e below (T27.setTop (mkF m 571 #[.val (.int p0), .val (.int p1), .val (.int kl), .val (.int ka), .val (.int kc), .val (.int qa), .val (.int qc), .val (.ref kx), .val (.ref ex), .val (.ref b1), .val (.ref b15), .val (.ref b19)] [])) _
    refine XS.iconst X27.here hx rfl (hb hby at_571) ?_
    show Steps p.tables e below (T27.setTop (mkF m 572 #[.val (.int p0), .val (.int p1), .val (.int kl), .val (.int ka), .val (.int kc), .val (.int qa), .val (.int qc), .val (.ref kx), .val (.ref ex), .val (.ref b1), .val (.ref b15), .val (.ref b19)] [(.int (1 : Int32))])) _
    refine XS.goto X27.here hx rfl (pc0 := 572) (pc' := 576) rfl (hb hby at_572) (by decide) (by decide) ?_
    show Steps p.tables e below (T27.setTop (mkF m 576 #[.val (.int p0), .val (.int p1), .val (.int kl), .val (.int ka), .val (.int kc), .val (.int qa), .val (.int qc), .val (.ref kx), .val (.ref ex), .val (.ref b1), .val (.ref b15), .val (.ref b19)] [(.int (1 : Int32))])) _
    exact kt
  exact ⟨_, _, _, _, _, X27.more (by decide) (by decide), N24, S19, hgk19, (Nat.le_trans (Nat.le_trans (Nat.le_trans (Nat.le_trans (Nat.le_refl T19.heap.size) E21.1) E22.1) E24.1) E27.1), pre29⟩
set_option maxRecDepth 65536 in
set_option maxHeartbeats 40000000 in
theorem own_tail2 {p : Program} {l : Launch} {e : Env} {s : State} {m : MethodId} {args : Array Value} {below : List Frame} {meth : Method} {c : Code} {T0 : State} {locs : List Loc} {Z : State} {a0 : Array Value} {h0 : Heap} {n0 : Nat} {p0 p1 kl ka kc qa qc : Int32} {kx : Addr} {ex : Addr} {ek : ClassId} {G1 : Int32} {ua ub : Addr} {Ts : List String}
    (X0 : Stand p l e room_1 s m args below meth c T0 locs 4 31) (hx : p.tables.exec = Jvm.exec) (hZ : Z.Warmed39 s.vm) (hw : ∀ d ∈ tables_1, d.before a0 Z = true) (hby : c.code = code) (hml : c.maxLocals = 12) (hown : s.vm.findClass "com/example/modelwright/modelwright/FilterExceptionOfFilterKeyPinLaw" = some m.cls) (e0 : T0.heap = h0) (N0 : Fr n0 locs) (Z0 : n0 ≤ h0.size) (hka : own_c255 ka) (hkc : own_c255 kc) (hqa : own_c255 qa) (hqc : own_c255 qc) (OLD0 : Old Z n0 h0) (SCS : Sta Z Z.heap "java/lang/String" "COMPACT_STRINGS" "Z" (.int G1)) (P5 : ¬ (G1 = (0 : Int32))) (hl : l.stackTraces = true) (SU : Sta Z Z.heap "java/lang/Throwable" "UNASSIGNED_STACK" "[Ljava/lang/StackTraceElement;" (.ref ua)) (SV : Sta Z Z.heap "java/lang/Throwable" "SUPPRESSED_SENTINEL" "Ljava/util/List;" (.ref ub)) (XK : own_str Z h0 kx ([ka, kc] : List Int32)) (XA : Arv Z h0 ex ek .char (23 : Int32) (([(67 : Int32), (97 : Int32), (110 : Int32), (110 : Int32), (111 : Int32), (116 : Int32), (32 : Int32), (102 : Int32), (105 : Int32), (108 : Int32), (116 : Int32), (101 : Int32), (114 : Int32), (32 : Int32), (98 : Int32), (121 : Int32), (32 : Int32), ka, kc, (58 : Int32), (32 : Int32), qa, qc] : List Int32).map Value.int) (.int (0 : Int32))) (hnt : "Cannot filter by " ∉ Ts ∧ ": " ∉ Ts) (HC18 : Jvm.Lit.constHeld Z "com/example/modelwright/modelwright/FilterException" 18) (HC24 : Jvm.Lit.constHeld Z "com/example/modelwright/modelwright/FilterException" 24) (HCW : Jvm.Lit.compactW.before a0 Z = true) (I0 : IB Z s.vm Ts) (hK : s.vm.MethodsKnown ∧ s.vm.FramesKnown below) :
    ∃ (vm' : Vm) (k : Nat) (T' : State) (Ls : Array Slot) (locs' : List Loc), Stand p l e room_1 (s.setVm vm') m args below meth c T' locs' 24 3200 ∧ Fr n0 locs' ∧ s.Since vm' k ∧ h0.size ≤ k ∧ k ≤ T'.heap.size ∧ ∀ t, Steps p.tables e below (T'.setTop (mkF m 576 Ls [.int (1 : Int32)])) t → Steps p.tables e below (T0.setTop (mkF m 496 #[.val (.int p0), .val (.int p1), .val (.int kl), .val (.int ka), .val (.int kc), .val (.int qa), .val (.int qc), .val (.ref kx), .val (.ref ex), .unset, .unset, .unset] [])) t := by
  have pre0 : ∀ t, Steps p.tables e below (T0.setTop (mkF m 496 #[.val (.int p0), .val (.int p1), .val (.int kl), .val (.int ka), .val (.int kc), .val (.int qa), .val (.int qc), .val (.ref kx), .val (.ref ex), .unset, .unset, .unset] [])) t → Steps p.tables e below (T0.setTop (mkF m 496 #[.val (.int p0), .val (.int p1), .val (.int kl), .val (.int ka), .val (.int kc), .val (.int qa), .val (.int qc), .val (.ref kx), .val (.ref ex), .unset, .unset, .unset] [])) t := fun t k => k
  have K0 := Keep.refl h0 ([] : List Addr)
  obtain ⟨T1, h1, X1, e1, E1, A1, D1, un1, st1⟩ := newO X0 hx hZ hown (hw _ (List.mem_of_getElem? (i := 9) rfl)) (hw _ (List.mem_of_getElem? (i := 2) rfl)) (hw _ (List.mem_of_getElem? (i := 1) rfl)) e0 (g := (mkF m 496 #[.val (.int p0), .val (.int p1), .val (.int kl), .val (.int ka), .val (.int kc), .val (.int qa), .val (.int qc), .val (.ref kx), .val (.ref ex), .unset, .unset, .unset] [])) rfl (hb hby at_496) (by decide) (by decide)
  obtain ⟨b1, g1⟩ : ∃ z, z = h0.size := ⟨_, rfl⟩
  rw [← g1] at A1 D1 un1 st1
  have g_b1 : n0 ≤ b1 := Nat.le_trans (Nat.le_trans Z0 K0.1) (Nat.le_of_eq g1.symm)
  have sz_b1 : h0.size ≤ b1 := Nat.le_trans K0.1 (Nat.le_of_eq g1.symm)
  have ne_ex_b1 : ex ≠ b1 := Nat.ne_of_lt (Nat.lt_of_lt_of_le XA.lt (Nat.le_of_eq g1.symm))
  have K1 := K0.ext E1
  have F_value_b1 : Fld Z h1 b1 "java/lang/String" "value" "[B" .null := D1 (Or.inr (hw _ (List.mem_of_getElem? (i := 4) rfl))) (ty := (.array .byte)) (by decide)
  have F_coder_b1 : Fld Z h1 b1 "java/lang/String" "coder" "B" (.int (0 : Int32)) := D1 (Or.inr (hw _ (List.mem_of_getElem? (i := 5) rfl))) (ty := .byte) (by decide)
  have c2 := (XA.ext E1)
  obtain ⟨T3, h3, k3, X3, e3, E3, A3, st3⟩ := newP X1 hx hZ (hw _ (List.mem_of_getElem? (i := 8) rfl)) e1 (g := (mkF m 501 #[.val (.int p0), .val (.int p1), .val (.int kl), .val (.int ka), .val (.int kc), .val (.int qa), .val (.int qc), .val (.ref kx), .val (.ref ex), .unset, .unset, .unset] [(.int (2 : Int32)), (.ref b1), (.ref b1)])) rfl (hb hby at_501) rfl (by decide) (cap := 2) (by decide) (by decide) (by decide) (by decide)
  obtain ⟨b3, g3⟩ : ∃ z, z = h1.size := ⟨_, rfl⟩
  rw [← g3] at A3 st3
  have g_b3 : n0 ≤ b3 := Nat.le_trans (Nat.le_trans Z0 K1.1) (Nat.le_of_eq g3.symm)
  have sz_b3 : h0.size ≤ b3 := Nat.le_trans K1.1 (Nat.le_of_eq g3.symm)
  have ne_ex_b3 : ex ≠ b3 := Nat.ne_of_lt (Nat.lt_of_lt_of_le c2.lt (Nat.le_of_eq g3.symm))
  have ne_b1_b3 : b1 ≠ b3 := Nat.ne_of_lt (Nat.lt_of_lt_of_le A1.lt (Nat.le_of_eq g3.symm))
  have K3 := K1.ext E3
  have V_b3 : Arv Z h3 b3 k3 .char (2 : Int32) [(.int (0 : Int32)), (.int (0 : Int32))] (.int (0 : Int32)) := (Arv.new A3 (by decide)).pad (pad_rep [] (.int (0 : Int32)) 2)
  obtain ⟨clo4, Aro4, qo4, So4, No4, Ho4, Go4⟩ := id V_b3
  have hino4 : ¬ ((0 : Int32) < 0 ∨ clo4.slots.size ≤ ((0 : Int32)).toNatClampNeg) := inb_of So4 ⟨by decide, by decide⟩
  obtain ⟨T5, h5, X5, e5, W5, st5⟩ := stC X3 hx hZ e3 Aro4 (j := (0 : Int32)) hino4 (g := (mkF m 507 #[.val (.int p0), .val (.int p1), .val (.int kl), .val (.int ka), .val (.int kc), .val (.int qa), .val (.int qc), .val (.ref kx), .val (.ref ex), .unset, .unset, .unset] [(.int qa), (.int (0 : Int32)), (.ref b3), (.ref b3), (.ref b1), (.ref b1)])) rfl rfl (hb hby at_507)
  have V5 : Arv Z h5 b3 k3 .char (2 : Int32) [(.int (nar .char qa)), (.int (0 : Int32))] (.int (0 : Int32)) := Arv.set Aro4 qo4 So4 No4 Ho4 Go4 (fits_nar_char _) W5 0 rfl (Nat.le_of_ble_eq_true rfl)
  have K5 := K3.wr W5 (Or.inr sz_b3)
  have N5 := Fr.snoc X5 N0 g_b3
  obtain ⟨clo6, Aro6, qo6, So6, No6, Ho6, Go6⟩ := id V5
  have hino6 : ¬ ((1 : Int32) < 0 ∨ clo6.slots.size ≤ ((1 : Int32)).toNatClampNeg) := inb_of So6 ⟨by decide, by decide⟩
  obtain ⟨T7, h7, X7, e7, W7, st7⟩ := stC X5 hx hZ e5 Aro6 (j := (1 : Int32)) hino6 (g := (mkF m 512 #[.val (.int p0), .val (.int p1), .val (.int kl), .val (.int ka), .val (.int kc), .val (.int qa), .val (.int qc), .val (.ref kx), .val (.ref ex), .unset, .unset, .unset] [(.int qc), (.int (1 : Int32)), (.ref b3), (.ref b3), (.ref b1), (.ref b1)])) rfl rfl (hb hby at_512)
  have V7 : Arv Z h7 b3 k3 .char (2 : Int32) [(.int (nar .char qa)), (.int (nar .char qc))] (.int (0 : Int32)) := Arv.set Aro6 qo6 So6 No6 Ho6 Go6 (fits_nar_char _) W7 1 rfl (Nat.le_of_ble_eq_true rfl)
  have K7 := K5.wr W7 (Or.inr sz_b3)
  have N7 := Fr.snoc X7 N5 g_b3
  have c9 := (((A1.ext E3).wr W5).wr W7)
  have c10 := (((F_value_b1.ext E3).other W5 (Or.inl ne_b1_b3)).other W7 (Or.inl ne_b1_b3))
  have c11 := (((F_coder_b1.ext E3).other W5 (Or.inl ne_b1_b3)).other W7 (Or.inl ne_b1_b3))
  have OLD8 : Old Z n0 h7 := OLD0.keep K7 all0
  have hp8 : ∀ c ∈ ([qa, qc] : List Int32), own_c255 c := (own_cons hqa (own_cons hqc own_lm0))
  have va8 : Arv Z h7 b3 k3 .char (2 : Int32) (([qa, qc] : List Int32).map Value.int) (.int (0 : Int32)) := by
    have q : Arv Z h7 b3 k3 .char (2 : Int32) (([qa, qc] : List Int32).map fun c => Value.int (nar .char c)) (.int (0 : Int32)) := V7
    rw [own_c16L hp8] at q; exact q
  obtain ⟨_, _, ⟨T8, L8, k8, n8⟩, -, X8, ⟨Lc8, hQ8, l8, y8, z8⟩, st8⟩ := X7.specialBack hx (y := (⟨"java/lang/String", "<init>", "([C)V"⟩ : MethodName)) rfl hown (mvT hZ (hw _ (List.mem_of_getElem? (i := 10) rfl))) (mvT hZ (hw _ (List.mem_of_getElem? (i := 11) rfl))) (mvT hZ (hw _ (List.mem_of_getElem? (i := 12) rfl))) (by decide) (StrChars.Road.backV (W := 1) hZ (hws a0 Z hw) (kI := 4) (hw _ (List.mem_of_getElem? (i := 2) rfl)) (cs := ([qa, qc] : List Int32)) (bs := ([qa, qc] : List Int32).map (fun c => c.toInt8.toInt32)) (n := 2) g_b1 (Nat.le_trans Z0 K7.1) c9 c10 c11 va8 (SCS.ext OLD8.2) P5 rfl rfl (by decide) (by decide) hp8 rfl (by decide) (by decide)) (g := (mkF m 513 #[.val (.int p0), .val (.int p1), .val (.int kl), .val (.int ka), .val (.int kc), .val (.int qa), .val (.int qc), .val (.ref kx), .val (.ref ex), .unset, .unset, .unset] [(.ref b3), (.ref b1), (.ref b1)])) rfl (by rw [hml]; rfl) (Steps.refl _) (a := b1) (argsL := [(.ref b3)]) (rest := [(.ref b1)]) (lenOf pd___C_V rfl) rfl (by show 2 * 0 + _ ≤ _; exact Nat.le_of_eq rfl) (hb hby at_513) (fun _ _ => ⟨rfl, e7, (by decide : 6 + 1 ≤ _), (by decide : 37 + 2 ≤ _)⟩)
  dsimp only [Pt.U, Pt.locs, Pt.cells, Pt.slots] at X8 l8 y8 z8 st8 hQ8
  subst l8 y8 z8
  obtain ⟨rfl, N8q, kq8, xq8, cq8, t8, kb8, ut8, vt8, wt8, vq8, aq8⟩ := hQ8
  have N8 := Fr.app N7 N8q
  have K8 := K7.trans kq8 (allS (Or.inr sz_b1) all0)
  have xs8 : own_str Z T8.heap b1 ([qa, qc] : List Int32) := ⟨t8, kb8, xq8, cq8, vq8, aq8⟩
  have c12 := ((((c2.ext E3).other W5 ne_ex_b3).other W7 ne_ex_b3).keep kq8 (ninS ne_ex_b1 nin0))
  have c13 := (c9.keep kq8)
  have c14 := (V7.keep kq8 (ninS (Ne.symm ne_b1_b3) nin0))
  obtain ⟨T15, h15, X15, e15, E15, A15, D15, un15, st15⟩ := newO X8 hx hZ hown (hw _ (List.mem_of_getElem? (i := 9) rfl)) (hw _ (List.mem_of_getElem? (i := 2) rfl)) (hw _ (List.mem_of_getElem? (i := 1) rfl)) rfl (g := (mkF m 518 #[.val (.int p0), .val (.int p1), .val (.int kl), .val (.int ka), .val (.int kc), .val (.int qa), .val (.int qc), .val (.ref kx), .val (.ref ex), .val (.ref b1), .unset, .unset] [])) rfl (hb hby at_518) (by decide) (by decide)
  obtain ⟨b15, g15⟩ : ∃ z, z = T8.heap.size := ⟨_, rfl⟩
  rw [← g15] at A15 D15 un15 st15
  have g_b15 : n0 ≤ b15 := Nat.le_trans (Nat.le_trans Z0 K8.1) (Nat.le_of_eq g15.symm)
  have sz_b15 : h0.size ≤ b15 := Nat.le_trans K8.1 (Nat.le_of_eq g15.symm)
  have ne_ex_b15 : ex ≠ b15 := Nat.ne_of_lt (Nat.lt_of_lt_of_le c12.lt (Nat.le_of_eq g15.symm))
  have ne_b1_b15 : b1 ≠ b15 := Nat.ne_of_lt (Nat.lt_of_lt_of_le c13.lt (Nat.le_of_eq g15.symm))
  have ne_b3_b15 : b3 ≠ b15 := Nat.ne_of_lt (Nat.lt_of_lt_of_le c14.lt (Nat.le_of_eq g15.symm))
  have K15 := K8.ext E15
  have F_value_b15 : Fld Z h15 b15 "java/lang/String" "value" "[B" .null := D15 (Or.inr (hw _ (List.mem_of_getElem? (i := 4) rfl))) (ty := (.array .byte)) (by decide)
  have F_coder_b15 : Fld Z h15 b15 "java/lang/String" "coder" "B" (.int (0 : Int32)) := D15 (Or.inr (hw _ (List.mem_of_getElem? (i := 5) rfl))) (ty := .byte) (by decide)
  have c17 := (c12.ext E15)
  have OLD16 : Old Z n0 h15 := OLD0.keep K15 all0
  have hp16 : ∀ c ∈ ([(67 : Int32), (97 : Int32), (110 : Int32), (110 : Int32), (111 : Int32), (116 : Int32), (32 : Int32), (102 : Int32), (105 : Int32), (108 : Int32), (116 : Int32), (101 : Int32), (114 : Int32), (32 : Int32), (98 : Int32), (121 : Int32), (32 : Int32), ka, kc, (58 : Int32), (32 : Int32), qa, qc] : List Int32), own_c255 c := (own_cons ⟨by decide, by decide⟩ (own_cons ⟨by decide, by decide⟩ (own_cons ⟨by decide, by decide⟩ (own_cons ⟨by decide, by decide⟩ (own_cons ⟨by decide, by decide⟩ (own_cons ⟨by decide, by decide⟩ (own_cons ⟨by decide, by decide⟩ (own_cons ⟨by decide, by decide⟩ (own_cons ⟨by decide, by decide⟩ (own_cons ⟨by decide, by decide⟩ (own_cons ⟨by decide, by decide⟩ (own_cons ⟨by decide, by decide⟩ (own_cons ⟨by decide, by decide⟩ (own_cons ⟨by decide, by decide⟩ (own_cons ⟨by decide, by decide⟩ (own_cons ⟨by decide, by decide⟩ (own_cons ⟨by decide, by decide⟩ (own_cons hka (own_cons hkc (own_cons ⟨by decide, by decide⟩ (own_cons ⟨by decide, by decide⟩ (own_cons hqa (own_cons hqc own_lm0)))))))))))))))))))))))
  have va16 := c17
  obtain ⟨_, _, ⟨T16, L16, k16, n16⟩, -, X16, ⟨Lc16, hQ16, l16, y16, z16⟩, st16⟩ := X15.specialBack hx (y := (⟨"java/lang/String", "<init>", "([C)V"⟩ : MethodName)) rfl hown (mvT hZ (hw _ (List.mem_of_getElem? (i := 10) rfl))) (mvT hZ (hw _ (List.mem_of_getElem? (i := 11) rfl))) (mvT hZ (hw _ (List.mem_of_getElem? (i := 12) rfl))) (by decide) (StrChars.Road.backV (W := 1) hZ (hws a0 Z hw) (kI := 4) (hw _ (List.mem_of_getElem? (i := 2) rfl)) (cs := ([(67 : Int32), (97 : Int32), (110 : Int32), (110 : Int32), (111 : Int32), (116 : Int32), (32 : Int32), (102 : Int32), (105 : Int32), (108 : Int32), (116 : Int32), (101 : Int32), (114 : Int32), (32 : Int32), (98 : Int32), (121 : Int32), (32 : Int32), ka, kc, (58 : Int32), (32 : Int32), qa, qc] : List Int32)) (bs := ([(67 : Int32), (97 : Int32), (110 : Int32), (110 : Int32), (111 : Int32), (116 : Int32), (32 : Int32), (102 : Int32), (105 : Int32), (108 : Int32), (116 : Int32), (101 : Int32), (114 : Int32), (32 : Int32), (98 : Int32), (121 : Int32), (32 : Int32), ka, kc, (58 : Int32), (32 : Int32), qa, qc] : List Int32).map (fun c => c.toInt8.toInt32)) (n := 23) g_b15 (Nat.le_trans Z0 K15.1) A15 F_value_b15 F_coder_b15 va16 (SCS.ext OLD16.2) P5 rfl rfl (by decide) (by decide) hp16 rfl (by decide) (by decide)) (g := (mkF m 524 #[.val (.int p0), .val (.int p1), .val (.int kl), .val (.int ka), .val (.int kc), .val (.int qa), .val (.int qc), .val (.ref kx), .val (.ref ex), .val (.ref b1), .unset, .unset] [(.ref ex), (.ref b15), (.ref b15)])) rfl (by rw [hml]; rfl) (Steps.refl _) (a := b15) (argsL := [(.ref ex)]) (rest := [(.ref b15)]) (lenOf pd___C_V rfl) rfl (by show 2 * 0 + _ ≤ _; exact Nat.le_of_eq rfl) (hb hby at_524) (fun _ _ => ⟨rfl, e15, (by decide : 8 + 1 ≤ _), (by decide : 43 + 23 ≤ _)⟩)
  dsimp only [Pt.U, Pt.locs, Pt.cells, Pt.slots] at X16 l16 y16 z16 st16 hQ16
  subst l16 y16 z16
  obtain ⟨rfl, N16q, kq16, xq16, cq16, t16, kb16, ut16, vt16, wt16, vq16, aq16⟩ := hQ16
  have N16 := Fr.app N8 N16q
  have K16 := K15.trans kq16 (allS (Or.inr sz_b15) all0)
  have xs16 : own_str Z T16.heap b15 ([(67 : Int32), (97 : Int32), (110 : Int32), (110 : Int32), (111 : Int32), (116 : Int32), (32 : Int32), (102 : Int32), (105 : Int32), (108 : Int32), (116 : Int32), (101 : Int32), (114 : Int32), (32 : Int32), (98 : Int32), (121 : Int32), (32 : Int32), ka, kc, (58 : Int32), (32 : Int32), qa, qc] : List Int32) := ⟨t16, kb16, xq16, cq16, vq16, aq16⟩
  have pre18 : ∀ t, Steps p.tables e below (T16.setTop (mkF m 533 #[.val (.int p0), .val (.int p1), .val (.int kl), .val (.int ka), .val (.int kc), .val (.int qa), .val (.int qc), .val (.ref kx), .val (.ref ex), .val (.ref b1), .val (.ref b15), .unset] [(.ref b1), (.ref kx)])) t → Steps p.tables e below (T0.setTop (mkF m 496 #[.val (.int p0), .val (.int p1), .val (.int kl), .val (.int ka), .val (.int kc), .val (.int qa), .val (.int qc), .val (.ref kx), .val (.ref ex), .unset, .unset, .unset] [])) t := by
    intro t kt
    refine pre0 _ ?_
    show Steps p.tables e below (T0.setTop (mkF m 496 #[.val (.int p0), .val (.int p1), .val (.int kl), .val (.int ka), .val (.int kc), .val (.int qa), .val (.int qc), .val (.ref kx), .val (.ref ex), .unset, .unset, .unset] [])) _
    refine st1 _ ?_
    show Steps p.tables e below (T1.setTop (mkF m 499 #[.val (.int p0), .val (.int p1), .val (.int kl), .val (.int ka), .val (.int kc), .val (.int qa), .val (.int qc), .val (.ref kx), .val (.ref ex), .unset, .unset, .unset] [(.ref b1)])) _
    refine XS.dup X1.here hx rfl (hb hby at_499) rfl rfl ?_
    show Steps p.tables e below (T1.setTop (mkF m 500 #[.val (.int p0), .val (.int p1), .val (.int kl), .val (.int ka), .val (.int kc), .val (.int qa), .val (.int qc), .val (.ref kx), .val (.ref ex), .unset, .unset, .unset] [(.ref b1), (.ref b1)])) _
    refine XS.iconst X1.here hx rfl (hb hby at_500) ?_
    show Steps p.tables e below (T1.setTop (mkF m 501 #[.val (.int p0), .val (.int p1), .val (.int kl), .val (.int ka), .val (.int kc), .val (.int qa), .val (.int qc), .val (.ref kx), .val (.ref ex), .unset, .unset, .unset] [(.int (2 : Int32)), (.ref b1), (.ref b1)])) _
    refine st3 _ ?_
    show Steps p.tables e below (T3.setTop (mkF m 503 #[.val (.int p0), .val (.int p1), .val (.int kl), .val (.int ka), .val (.int kc), .val (.int qa), .val (.int qc), .val (.ref kx), .val (.ref ex), .unset, .unset, .unset] [(.ref b3), (.ref b1), (.ref b1)])) _
    refine XS.dup X3.here hx rfl (hb hby at_503) rfl rfl ?_
    show Steps p.tables e below (T3.setTop (mkF m 504 #[.val (.int p0), .val (.int p1), .val (.int kl), .val (.int ka), .val (.int kc), .val (.int qa), .val (.int qc), .val (.ref kx), .val (.ref ex), .unset, .unset, .unset] [(.ref b3), (.ref b3), (.ref b1), (.ref b1)])) _
    refine XS.iconst X3.here hx rfl (hb hby at_504) ?_
    show Steps p.tables e below (T3.setTop (mkF m 505 #[.val (.int p0), .val (.int p1), .val (.int kl), .val (.int ka), .val (.int kc), .val (.int qa), .val (.int qc), .val (.ref kx), .val (.ref ex), .unset, .unset, .unset] [(.int (0 : Int32)), (.ref b3), (.ref b3), (.ref b1), (.ref b1)])) _
    refine XS.iload X3.here hx rfl (hb hby at_505) rfl ?_
    show Steps p.tables e below (T3.setTop (mkF m 507 #[.val (.int p0), .val (.int p1), .val (.int kl), .val (.int ka), .val (.int kc), .val (.int qa), .val (.int qc), .val (.ref kx), .val (.ref ex), .unset, .unset, .unset] [(.int qa), (.int (0 : Int32)), (.ref b3), (.ref b3), (.ref b1), (.ref b1)])) _
    refine st5 _ ?_
    show Steps p.tables e below (T5.setTop (mkF m 508 #[.val (.int p0), .val (.int p1), .val (.int kl), .val (.int ka), .val (.int kc), .val (.int qa), .val (.int qc), .val (.ref kx), .val (.ref ex), .unset, .unset, .unset] [(.ref b3), (.ref b1), (.ref b1)])) _
    refine XS.dup X5.here hx rfl (hb hby at_508) rfl rfl ?_
    show Steps p.tables e below (T5.setTop (mkF m 509 #[.val (.int p0), .val (.int p1), .val (.int kl), .val (.int ka), .val (.int kc), .val (.int qa), .val (.int qc), .val (.ref kx), .val (.ref ex), .unset, .unset, .unset] [(.ref b3), (.ref b3), (.ref b1), (.ref b1)])) _
    refine XS.iconst X5.here hx rfl (hb hby at_509) ?_
    show Steps p.tables e below (T5.setTop (mkF m 510 #[.val (.int p0), .val (.int p1), .val (.int kl), .val (.int ka), .val (.int kc), .val (.int qa), .val (.int qc), .val (.ref kx), .val (.ref ex), .unset, .unset, .unset] [(.int (1 : Int32)), (.ref b3), (.ref b3), (.ref b1), (.ref b1)])) _
    refine XS.iload X5.here hx rfl (hb hby at_510) rfl ?_
    show Steps p.tables e below (T5.setTop (mkF m 512 #[.val (.int p0), .val (.int p1), .val (.int kl), .val (.int ka), .val (.int kc), .val (.int qa), .val (.int qc), .val (.ref kx), .val (.ref ex), .unset, .unset, .unset] [(.int qc), (.int (1 : Int32)), (.ref b3), (.ref b3), (.ref b1), (.ref b1)])) _
    refine st7 _ ?_
    show Steps p.tables e below (T7.setTop (mkF m 513 #[.val (.int p0), .val (.int p1), .val (.int kl), .val (.int ka), .val (.int kc), .val (.int qa), .val (.int qc), .val (.ref kx), .val (.ref ex), .unset, .unset, .unset] [(.ref b3), (.ref b1), (.ref b1)])) _
    refine st8.trans ?_
    show Steps p.tables e below (T8.setTop (mkF m 516 #[.val (.int p0), .val (.int p1), .val (.int kl), .val (.int ka), .val (.int kc), .val (.int qa), .val (.int qc), .val (.ref kx), .val (.ref ex), .unset, .unset, .unset] [(.ref b1)])) _
    refine XS.astore X8.here hx rfl (hb hby at_516) rfl rfl (l' := #[.val (.int p0), .val (.int p1), .val (.int kl), .val (.int ka), .val (.int kc), .val (.int qa), .val (.int qc), .val (.ref kx), .val (.ref ex), .val (.ref b1), .unset, .unset]) rfl ?_
    show Steps p.tables e below (T8.setTop (mkF m 518 #[.val (.int p0), .val (.int p1), .val (.int kl), .val (.int ka), .val (.int kc), .val (.int qa), .val (.int qc), .val (.ref kx), .val (.ref ex), .val (.ref b1), .unset, .unset] [])) _
    refine st15 _ ?_
    show Steps p.tables e below (T15.setTop (mkF m 521 #[.val (.int p0), .val (.int p1), .val (.int kl), .val (.int ka), .val (.int kc), .val (.int qa), .val (.int qc), .val (.ref kx), .val (.ref ex), .val (.ref b1), .unset, .unset] [(.ref b15)])) _
    refine XS.dup X15.here hx rfl (hb hby at_521) rfl rfl ?_
    show Steps p.tables e below (T15.setTop (mkF m 522 #[.val (.int p0), .val (.int p1), .val (.int kl), .val (.int ka), .val (.int kc), .val (.int qa), .val (.int qc), .val (.ref kx), .val (.ref ex), .val (.ref b1), .unset, .unset] [(.ref b15), (.ref b15)])) _
    refine XS.aload X15.here hx rfl (hb hby at_522) rfl rfl ?_
    show Steps p.tables e below (T15.setTop (mkF m 524 #[.val (.int p0), .val (.int p1), .val (.int kl), .val (.int ka), .val (.int kc), .val (.int qa), .val (.int qc), .val (.ref kx), .val (.ref ex), .val (.ref b1), .unset, .unset] [(.ref ex), (.ref b15), (.ref b15)])) _
    refine st16.trans ?_
    show Steps p.tables e below (T16.setTop (mkF m 527 #[.val (.int p0), .val (.int p1), .val (.int kl), .val (.int ka), .val (.int kc), .val (.int qa), .val (.int qc), .val (.ref kx), .val (.ref ex), .val (.ref b1), .unset, .unset] [(.ref b15)])) _
    refine XS.astore X16.here hx rfl (hb hby at_527) rfl rfl (l' := #[.val (.int p0), .val (.int p1), .val (.int kl), .val (.int ka), .val (.int kc), .val (.int qa), .val (.int qc), .val (.ref kx), .val (.ref ex), .val (.ref b1), .val (.ref b15), .unset]) rfl ?_
    show Steps p.tables e below (T16.setTop (mkF m 529 #[.val (.int p0), .val (.int p1), .val (.int kl), .val (.int ka), .val (.int kc), .val (.int qa), .val (.int qc), .val (.ref kx), .val (.ref ex), .val (.ref b1), .val (.ref b15), .unset] [])) _
    refine XS.aload X16.here hx rfl (hb hby at_529) rfl rfl ?_
    show Steps p.tables e below (T16.setTop (mkF m 531 #[.val (.int p0), .val (.int p1), .val (.int kl), .val (.int ka), .val (.int kc), .val (.int qa), .val (.int qc), .val (.ref kx), .val (.ref ex), .val (.ref b1), .val (.ref b15), .unset] [(.ref kx)])) _
    refine XS.aload X16.here hx rfl (hb hby at_531) rfl rfl ?_
    show Steps p.tables e below (T16.setTop (mkF m 533 #[.val (.int p0), .val (.int p1), .val (.int kl), .val (.int ka), .val (.int kc), .val (.int qa), .val (.int qc), .val (.ref kx), .val (.ref ex), .val (.ref b1), .val (.ref b15), .unset] [(.ref b1), (.ref kx)])) _
    exact kt
  have OL20 : Old Z n0 T16.heap := OLD0.keep K16 all0
  have sk19 := (own_strP XK K16)
  have sp19 := (own_strM (own_strE xs8 E15) kq16 A15 (hw _ (List.mem_of_getElem? (i := 2) rfl)) ne_b1_b15)
  obtain ⟨_, _, ⟨T19, L19, k19, n19⟩, -, X19, S19, hg19, ⟨Lc19, hQ19, l19, y19, z19⟩, st19⟩ := callSS X16 hx (y := (⟨"com/example/modelwright/modelwright/FilterException", "ofFilterKey", "(Ljava/lang/String;Ljava/lang/String;)Lcom/example/modelwright/modelwright/FilterException;"⟩ : MethodName)) hown (mvT hZ (hw _ (List.mem_of_getElem? (i := 33) rfl))) (mvT hZ (hw _ (List.mem_of_getElem? (i := 34) rfl))) (mvT hZ (hw _ (List.mem_of_getElem? (i := 35) rfl))) (mvT hZ (hw _ (List.mem_of_getElem? (i := 36) rfl))) (by decide) (own_backI (W := 0) (rm7 l Z a0 hw [] kx b1 ([ka, kc] : List Int32) ([qa, qc] : List Int32) G1 ua ub Ts T16.heap n0 (Nat.le_trans Z0 K16.1) OL20 SCS P5 hl SU SV sk19 sp19 (own_cons hka (own_cons hkc own_lm0)) (own_cons hqa (own_cons hqc own_lm0)) (Nat.le_of_ble_eq_true rfl) (Nat.le_of_ble_eq_true rfl) hnt HC18 HC24 HCW) hZ I0 (hw _ (List.mem_of_getElem? (i := 36) rfl)) (hw _ (List.mem_of_getElem? (i := 35) rfl)) (by decide) (by decide) hK.1 hK.2) (g := (mkF m 533 #[.val (.int p0), .val (.int p1), .val (.int kl), .val (.int ka), .val (.int kc), .val (.int qa), .val (.int qc), .val (.ref kx), .val (.ref ex), .val (.ref b1), .val (.ref b15), .unset] [(.ref b1), (.ref kx)])) rfl (by rw [hml]; rfl) (argsL := [.ref kx, .ref b1]) (rest := []) (lenOf pd__Ljava_lang_String_Ljava_lang_String__Lcom_example_modelwright_modelwright_FilterException_ rfl) rfl (by show 2 * 0 + _ ≤ _; exact Nat.le_of_eq rfl) (hb hby at_533) (fun _ _ => ⟨rfl, rfl, (by decide : 9 + 11 ≤ _), (by decide : 66 + 2990 ≤ _)⟩)
  dsimp only [Pt.U, Pt.locs, Pt.cells, Pt.slots] at X19 S19 hg19 l19 y19 z19 st19 hQ19
  subst l19 y19 z19
  obtain ⟨b19, rfl, N19q, kq19, gg19, u19, ex19, ym19, fd19, fk19, ys19⟩ := hQ19
  have N19 := Fr.app N16 N19q
  have K19 := K16.trans kq19 all0
  have hZ : Z.Warmed39 (s.setVm T19.vm).vm := State.Warmed39.trans hZ S19.1
  have hown : (s.setVm T19.vm).vm.findClass "com/example/modelwright/modelwright/FilterExceptionOfFilterKeyPinLaw" = some m.cls := by
    show T19.vm.findClass _ = _
    rw [S19.1.alike.findClass]; exact hown
  have hgk19 : h0.size ≤ T19.heap.size := K19.1
  obtain ⟨cq21, kq21, q21a, q21b, q21c⟩ := isOf hZ rfl ex19
  obtain ⟨_, _, ⟨T21, L21, k21, n21⟩, -, X21, ⟨Lc21, hQ21, l21, y21, z21⟩, st21⟩ := X19.virtualBackUp hx (x := (⟨"com/example/modelwright/modelwright/FilterException", "getMessage", "()Ljava/lang/String;"⟩ : MethodName)) (y := (⟨"java/lang/Throwable", "getMessage", "()Ljava/lang/String;"⟩ : MethodName)) (owner := "java/lang/Throwable") (C := "com/example/modelwright/modelwright/FilterException") hown (mvT hZ (hw _ (List.mem_of_getElem? (i := 233) rfl))) (mvT hZ (hw _ (List.mem_of_getElem? (i := 234) rfl))) (mvT hZ (hw _ (List.mem_of_getElem? (i := 235) rfl))) (by decide) (mvT hZ (hw _ (List.mem_of_getElem? (i := 237) rfl))) (mvT hZ (hw _ (List.mem_of_getElem? (i := 236) rfl))) (backOf (W := 1) (rm40 l Z a0 hw [] b19 ym19 T19.heap n0 (Nat.le_trans Z0 K19.1) ex19 fd19) hZ (hw _ (List.mem_of_getElem? (i := 238) rfl)) (hw _ (List.mem_of_getElem? (i := 192) rfl)) (by decide) (by decide)) q21a q21c (g := (mkF m 549 #[.val (.int p0), .val (.int p1), .val (.int kl), .val (.int ka), .val (.int kc), .val (.int qa), .val (.int qc), .val (.ref kx), .val (.ref ex), .val (.ref b1), .val (.ref b15), .val (.ref b19)] [(.ref b19), (.ref b15)])) rfl (by rw [hml]; rfl) (Steps.refl _) (argsL := []) (rest := [(.ref b15)]) (lenOf pd___Ljava_lang_String_ rfl) rfl (by show 2 * 0 + _ ≤ _; exact Nat.le_of_eq rfl) (hb hby at_549) (fun _ _ => ⟨rfl, rfl, (by decide : 20 + 0 ≤ _), (by decide : 3056 + 0 ≤ _)⟩)
  dsimp only [Pt.U, Pt.locs, Pt.cells, Pt.slots] at X21 l21 y21 z21 st21 hQ21
  subst l21 y21 z21
  obtain ⟨rfl, N21q, hq21⟩ := hQ21
  have N21 := Fr.app N19 N21q
  have E21 : Ext T19.heap T21.heap := by rw [hq21]; exact ⟨Nat.le_refl _, fun _ _ q => q⟩
  have K21 := K19.ext E21
  have OL23 : Old Z n0 T21.heap := OLD0.keep K21 all0
  have sa22 := (own_strE (own_strP xs16 kq19) E21)
  have sy22 := (own_strE ys19 E21)
  obtain ⟨_, _, se22, -⟩ := id sa22
  obtain ⟨cq22, kq22, q22a, q22b, q22c⟩ := isOf hZ rfl se22
  obtain ⟨_, _, ⟨T22, L22, k22, n22⟩, -, X22, ⟨Lc22, hQ22, l22, y22, z22⟩, st22⟩ := X21.virtualBack hx (y := (⟨"java/lang/String", "equals", "(Ljava/lang/Object;)Z"⟩ : MethodName)) (z := (⟨"java/lang/String", "equals", "(Ljava/lang/Object;)Z"⟩ : MethodName)) hown (mvT hZ (hw _ (List.mem_of_getElem? (i := 239) rfl))) (mvT hZ (hw _ (List.mem_of_getElem? (i := 240) rfl))) (notFace_of_selects (args := #[]) (mvT hZ (hw _ (List.mem_of_getElem? (i := 242) rfl)))) (mvT hZ (hw _ (List.mem_of_getElem? (i := 242) rfl))) (mvT hZ (hw _ (List.mem_of_getElem? (i := 241) rfl))) (by decide) (own_eq (W := 0) hZ hw (kI := 4) (hw _ (List.mem_of_getElem? (i := 2) rfl)) sa22 sy22 rfl (own_cons ⟨by decide, by decide⟩ (own_cons ⟨by decide, by decide⟩ (own_cons ⟨by decide, by decide⟩ (own_cons ⟨by decide, by decide⟩ (own_cons ⟨by decide, by decide⟩ (own_cons ⟨by decide, by decide⟩ (own_cons ⟨by decide, by decide⟩ (own_cons ⟨by decide, by decide⟩ (own_cons ⟨by decide, by decide⟩ (own_cons ⟨by decide, by decide⟩ (own_cons ⟨by decide, by decide⟩ (own_cons ⟨by decide, by decide⟩ (own_cons ⟨by decide, by decide⟩ (own_cons ⟨by decide, by decide⟩ (own_cons ⟨by decide, by decide⟩ (own_cons ⟨by decide, by decide⟩ (own_cons ⟨by decide, by decide⟩ (own_cons hka (own_cons hkc (own_cons ⟨by decide, by decide⟩ (own_cons ⟨by decide, by decide⟩ (own_cons hqa (own_cons hqc own_lm0))))))))))))))))))))))) (Nat.le_of_ble_eq_true rfl) (SCS.ext OL23.2) P5 (by decide) (by decide)) q22a q22c (g := (mkF m 552 #[.val (.int p0), .val (.int p1), .val (.int kl), .val (.int ka), .val (.int kc), .val (.int qa), .val (.int qc), .val (.ref kx), .val (.ref ex), .val (.ref b1), .val (.ref b15), .val (.ref b19)] [(.ref ym19), (.ref b15)])) rfl (by rw [hml]; rfl) (Steps.refl _) (argsL := [(.ref ym19)]) (rest := []) (lenOf pd__Ljava_lang_Object__Z rfl) rfl (by show 2 * 0 + _ ≤ _; exact Nat.le_of_eq rfl) (hb hby at_552) (fun _ _ => ⟨rfl, rfl, (by decide : 20 + 0 ≤ _), (by decide : 3056 + 0 ≤ _)⟩)
  dsimp only [Pt.U, Pt.locs, Pt.cells, Pt.slots] at X22 l22 y22 z22 st22 hQ22
  subst l22 y22 z22
  obtain ⟨rfl, rfl, hq22⟩ := hQ22
  try rw [List.append_nil] at X22
  have E22 : Ext T21.heap T22.heap := by rw [hq22]; exact ⟨Nat.le_refl _, fun _ _ q => q⟩
  have K22 := K21.ext E22
  have c25 := ((ex19.ext E21).ext E22)
  have c26 := ((fk19.ext E21).ext E22)
  obtain ⟨cq24, kq24, q24a, q24b, q24c⟩ := isOf hZ rfl c25
  obtain ⟨_, _, ⟨T24, L24, k24, n24⟩, -, X24, ⟨Lc24, hQ24, l24, y24, z24⟩, st24⟩ := X22.virtualBack hx (y := (⟨"com/example/modelwright/modelwright/FilterException", "key", "()Ljava/lang/String;"⟩ : MethodName)) (z := (⟨"com/example/modelwright/modelwright/FilterException", "key", "()Ljava/lang/String;"⟩ : MethodName)) hown (mvT hZ (hw _ (List.mem_of_getElem? (i := 249) rfl))) (mvT hZ (hw _ (List.mem_of_getElem? (i := 250) rfl))) (notFace_of_selects (args := #[]) (mvT hZ (hw _ (List.mem_of_getElem? (i := 252) rfl)))) (mvT hZ (hw _ (List.mem_of_getElem? (i := 252) rfl))) (mvT hZ (hw _ (List.mem_of_getElem? (i := 251) rfl))) (by decide) (backOf (W := 1) (rm43 l Z a0 hw [] b19 kx T22.heap n0 (Nat.le_trans Z0 K22.1) c25 c26) hZ (hw _ (List.mem_of_getElem? (i := 253) rfl)) (hw _ (List.mem_of_getElem? (i := 35) rfl)) (by decide) (by decide)) q24a q24c (g := (mkF m 562 #[.val (.int p0), .val (.int p1), .val (.int kl), .val (.int ka), .val (.int kc), .val (.int qa), .val (.int qc), .val (.ref kx), .val (.ref ex), .val (.ref b1), .val (.ref b15), .val (.ref b19)] [(.ref b19), (.ref kx)])) rfl (by rw [hml]; rfl) (Steps.refl _) (argsL := []) (rest := [(.ref kx)]) (lenOf pd___Ljava_lang_String_ rfl) rfl (by show 2 * 0 + _ ≤ _; exact Nat.le_of_eq rfl) (hb hby at_562) (fun _ _ => ⟨rfl, rfl, (by decide : 20 + 0 ≤ _), (by decide : 3056 + 0 ≤ _)⟩)
  dsimp only [Pt.U, Pt.locs, Pt.cells, Pt.slots] at X24 l24 y24 z24 st24 hQ24
  subst l24 y24 z24
  obtain ⟨rfl, N24q, hq24⟩ := hQ24
  have N24 := Fr.app N21 N24q
  have E24 : Ext T22.heap T24.heap := by rw [hq24]; exact ⟨Nat.le_refl _, fun _ _ q => q⟩
  have K24 := K22.ext E24
  have OL28 : Old Z n0 T24.heap := OLD0.keep K24 all0
  have sa27 := (own_strP XK K24)
  have sy27 := (own_strP XK K24)
  obtain ⟨_, _, se27, -⟩ := id sa27
  obtain ⟨cq27, kq27, q27a, q27b, q27c⟩ := isOf hZ rfl se27
  obtain ⟨_, _, ⟨T27, L27, k27, n27⟩, -, X27, ⟨Lc27, hQ27, l27, y27, z27⟩, st27⟩ := X24.virtualBack hx (y := (⟨"java/lang/String", "equals", "(Ljava/lang/Object;)Z"⟩ : MethodName)) (z := (⟨"java/lang/String", "equals", "(Ljava/lang/Object;)Z"⟩ : MethodName)) hown (mvT hZ (hw _ (List.mem_of_getElem? (i := 239) rfl))) (mvT hZ (hw _ (List.mem_of_getElem? (i := 240) rfl))) (notFace_of_selects (args := #[]) (mvT hZ (hw _ (List.mem_of_getElem? (i := 242) rfl)))) (mvT hZ (hw _ (List.mem_of_getElem? (i := 242) rfl))) (mvT hZ (hw _ (List.mem_of_getElem? (i := 241) rfl))) (by decide) (own_eq (W := 0) hZ hw (kI := 4) (hw _ (List.mem_of_getElem? (i := 2) rfl)) sa27 sy27 rfl (own_cons hka (own_cons hkc own_lm0)) (Nat.le_of_ble_eq_true rfl) (SCS.ext OL28.2) P5 (by decide) (by decide)) q27a q27c (g := (mkF m 565 #[.val (.int p0), .val (.int p1), .val (.int kl), .val (.int ka), .val (.int kc), .val (.int qa), .val (.int qc), .val (.ref kx), .val (.ref ex), .val (.ref b1), .val (.ref b15), .val (.ref b19)] [(.ref kx), (.ref kx)])) rfl (by rw [hml]; rfl) (Steps.refl _) (argsL := [(.ref kx)]) (rest := []) (lenOf pd__Ljava_lang_Object__Z rfl) rfl (by show 2 * 0 + _ ≤ _; exact Nat.le_of_eq rfl) (hb hby at_565) (fun _ _ => ⟨rfl, rfl, (by decide : 20 + 0 ≤ _), (by decide : 3056 + 0 ≤ _)⟩)
  dsimp only [Pt.U, Pt.locs, Pt.cells, Pt.slots] at X27 l27 y27 z27 st27 hQ27
  subst l27 y27 z27
  obtain ⟨rfl, rfl, hq27⟩ := hQ27
  try rw [List.append_nil] at X27
  have E27 : Ext T24.heap T27.heap := by rw [hq27]; exact ⟨Nat.le_refl _, fun _ _ q => q⟩
  have K27 := K24.ext E27
  have pre29 : ∀ t, Steps p.tables e below (T27.setTop (mkF m 576 #[.val (.int p0), .val (.int p1), .val (.int kl), .val (.int ka), .val (.int kc), .val (.int qa), .val (.int qc), .val (.ref kx), .val (.ref ex), .val (.ref b1), .val (.ref b15), .val (.ref b19)] [(.int (1 : Int32))])) t → Steps p.tables e below (T0.setTop (mkF m 496 #[.val (.int p0), .val (.int p1), .val (.int kl), .val (.int ka), .val (.int kc), .val (.int qa), .val (.int qc), .val (.ref kx), .val (.ref ex), .unset, .unset, .unset] [])) t := by
    intro t kt
    refine pre18 _ ?_
    show Steps p.tables e below (T16.setTop (mkF m 533 #[.val (.int p0), .val (.int p1), .val (.int kl), .val (.int ka), .val (.int kc), .val (.int qa), .val (.int qc), .val (.ref kx), .val (.ref ex), .val (.ref b1), .val (.ref b15), .unset] [(.ref b1), (.ref kx)])) _
    refine st19.trans ?_
    show Steps p.tables e below (T19.setTop (mkF m 536 #[.val (.int p0), .val (.int p1), .val (.int kl), .val (.int ka), .val (.int kc), .val (.int qa), .val (.int qc), .val (.ref kx), .val (.ref ex), .val (.ref b1), .val (.ref b15), .unset] [(.ref b19)])) _
    refine XS.astore X19.here hx rfl (hb hby at_536) rfl rfl (l' := #[.val (.int p0), .val (.int p1), .val (.int kl), .val (.int ka), .val (.int kc), .val (.int qa), .val (.int qc), .val (.ref kx), .val (.ref ex), .val (.ref b1), .val (.ref b15), .val (.ref b19)]) rfl ?_
    show Steps p.tables e below (T19.setTop (mkF m 538 #[.val (.int p0), .val (.int p1), .val (.int kl), .val (.int ka), .val (.int kc), .val (.int qa), .val (.int qc), .val (.ref kx), .val (.ref ex), .val (.ref b1), .val (.ref b15), .val (.ref b19)] [])) _
    refine XS.aload X19.here hx rfl (hb hby at_538) rfl rfl ?_
    show Steps p.tables e below (T19.setTop (mkF m 540 #[.val (.int p0), .val (.int p1), .val (.int kl), .val (.int ka), .val (.int kc), .val (.int qa), .val (.int qc), .val (.ref kx), .val (.ref ex), .val (.ref b1), .val (.ref b15), .val (.ref b19)] [(.ref b19)])) _
    refine XS.ifnonnullYes X19.here hx rfl (pc0 := 540) (pc' := 545) rfl (hb hby at_540) rfl (by decide) (by decide) ?_
    show Steps p.tables e below (T19.setTop (mkF m 545 #[.val (.int p0), .val (.int p1), .val (.int kl), .val (.int ka), .val (.int kc), .val (.int qa), .val (.int qc), .val (.ref kx), .val (.ref ex), .val (.ref b1), .val (.ref b15), .val (.ref b19)] [])) _
    refine XS.aload X19.here hx rfl (hb hby at_545) rfl rfl ?_
    show Steps p.tables e below (T19.setTop (mkF m 547 #[.val (.int p0), .val (.int p1), .val (.int kl), .val (.int ka), .val (.int kc), .val (.int qa), .val (.int qc), .val (.ref kx), .val (.ref ex), .val (.ref b1), .val (.ref b15), .val (.ref b19)] [(.ref b15)])) _
    refine XS.aload X19.here hx rfl (hb hby at_547) rfl rfl ?_
    show Steps p.tables e below (T19.setTop (mkF m 549 #[.val (.int p0), .val (.int p1), .val (.int kl), .val (.int ka), .val (.int kc), .val (.int qa), .val (.int qc), .val (.ref kx), .val (.ref ex), .val (.ref b1), .val (.ref b15), .val (.ref b19)] [(.ref b19), (.ref b15)])) _
    refine st21.trans ?_
    show Steps p.tables e below (T21.setTop (mkF m 552 #[.val (.int p0), .val (.int p1), .val (.int kl), .val (.int ka), .val (.int kc), .val (.int qa), .val (.int qc), .val (.ref kx), .val (.ref ex), .val (.ref b1), .val (.ref b15), .val (.ref b19)] [(.ref ym19), (.ref b15)])) _
    refine st22.trans ?_
    show Steps p.tables e below (T22.setTop (mkF m 555 #[.val (.int p0), .val (.int p1), .val (.int kl), .val (.int ka), .val (.int kc), .val (.int qa), .val (.int qc), .val (.ref kx), .val (.ref ex), .val (.ref b1), .val (.ref b15), .val (.ref b19)] [(.int (1 : Int32))])) _
    refine XS.ifNo X22.here hx rfl (hb hby at_555) rfl ((if0 _ _).trans (feq (by decide : ¬ ((1 : Int32) = (0 : Int32)))).1) ?_
    show Steps p.tables e below (T22.setTop (mkF m 558 #[.val (.int p0), .val (.int p1), .val (.int kl), .val (.int ka), .val (.int kc), .val (.int qa), .val (.int qc), .val (.ref kx), .val (.ref ex), .val (.ref b1), .val (.ref b15), .val (.ref b19)] [])) _
    refine XS.aload X22.here hx rfl (hb hby at_558) rfl rfl ?_
    show Steps p.tables e below (T22.setTop (mkF m 560 #[.val (.int p0), .val (.int p1), .val (.int kl), .val (.int ka), .val (.int kc), .val (.int qa), .val (.int qc), .val (.ref kx), .val (.ref ex), .val (.ref b1), .val (.ref b15), .val (.ref b19)] [(.ref kx)])) _
    refine XS.aload X22.here hx rfl (hb hby at_560) rfl rfl ?_
    show Steps p.tables e below (T22.setTop (mkF m 562 #[.val (.int p0), .val (.int p1), .val (.int kl), .val (.int ka), .val (.int kc), .val (.int qa), .val (.int qc), .val (.ref kx), .val (.ref ex), .val (.ref b1), .val (.ref b15), .val (.ref b19)] [(.ref b19), (.ref kx)])) _
    refine st24.trans ?_
    show Steps p.tables e below (T24.setTop (mkF m 565 #[.val (.int p0), .val (.int p1), .val (.int kl), .val (.int ka), .val (.int kc), .val (.int qa), .val (.int qc), .val (.ref kx), .val (.ref ex), .val (.ref b1), .val (.ref b15), .val (.ref b19)] [(.ref kx), (.ref kx)])) _
    refine st27.trans ?_
    show Steps p.tables e below (T27.setTop (mkF m 568 #[.val (.int p0), .val (.int p1), .val (.int kl), .val (.int ka), .val (.int kc), .val (.int qa), .val (.int qc), .val (.ref kx), .val (.ref ex), .val (.ref b1), .val (.ref b15), .val (.ref b19)] [(.int (1 : Int32))])) _
    refine XS.ifNo X27.here hx rfl (hb hby at_568) rfl ((if0 _ _).trans (feq (by decide : ¬ ((1 : Int32) = (0 : Int32)))).1) ?_
    show Steps p.tables e below (T27.setTop (mkF m 571 #[.val (.int p0), .val (.int p1), .val (.int kl), .val (.int ka), .val (.int kc), .val (.int qa), .val (.int qc), .val (.ref kx), .val (.ref ex), .val (.ref b1), .val (.ref b15), .val (.ref b19)] [])) _
    refine XS.iconst X27.here hx rfl (hb hby at_571) ?_
    show Steps p.tables e below (T27.setTop (mkF m 572 #[.val (.int p0), .val (.int p1), .val (.int kl), .val (.int ka), .val (.int kc), .val (.int qa), .val (.int qc), .val (.ref kx), .val (.ref ex), .val (.ref b1), .val (.ref b15), .val (.ref b19)] [(.int (1 : Int32))])) _
    refine XS.goto X27.here hx rfl (pc0 := 572) (pc' := 576) rfl (hb hby at_572) (by decide) (by decide) ?_
    show Steps p.tables e below (T27.setTop (mkF m 576 #[.val (.int p0), .val (.int p1), .val (.int kl), .val (.int ka), .val (.int kc), .val (.int qa), .val (.int qc), .val (.ref kx), .val (.ref ex), .val (.ref b1), .val (.ref b15), .val (.ref b19)] [(.int (1 : Int32))])) _
    exact kt
  exact ⟨_, _, _, _, _, X27.more (by decide) (by decide), N24, S19, hgk19, (Nat.le_trans (Nat.le_trans (Nat.le_trans (Nat.le_trans (Nat.le_refl T19.heap.size) E21.1) E22.1) E24.1) E27.1), pre29⟩
theorem pn_0 : plainName "com/example/modelwright/modelwright/FilterExceptionOfFilterKeyPinLaw" = true := by first | (simp [plainName, overriddenIn]; done) | decide +kernel
theorem ef_0 (m : MethodId) (p0 : Int32) (p1 : Int32) : entryFrame m #[(.int p0), (.int p1)] maxLocals = (mkF m 0 #[.val (.int p0), .val (.int p1), .unset, .unset, .unset, .unset, .unset, .unset, .unset, .unset, .unset, .unset] []) := by first | (simp [entryFrame, mkF, argsToLocals, Value.category, maxLocals]; done) | rfl
def Q0 (Z : State) (p0 : Int32) (p1 : Int32) (G1 : Int32) (ua : Addr) (ub : Addr) (h0 : Heap) (n0 : Nat) (v : Option Value) (h : Heap) (L : List Loc) : Prop := v = some (.int (1 : Int32)) ∧ Fr n0 L
set_option maxRecDepth 65536 in
set_option maxHeartbeats 40000000 in
theorem rm0 (l : Launch) (Z : State) (a0 : Array Value) (hw : ∀ d ∈ tables_1, d.before a0 Z = true) (ws : List Jvm.Cond) (p0 : Int32) (p1 : Int32) (G1 : Int32) (ua : Addr) (ub : Addr) (h0 : Heap) (n0 : Nat) (Z0 : n0 ≤ h0.size) (OLD0 : Old Z n0 h0) (SCS : Sta Z Z.heap "java/lang/String" "COMPACT_STRINGS" "Z" (.int G1)) (P5 : ¬ (G1 = (0 : Int32))) (hl : l.stackTraces = true) (SU : Sta Z Z.heap "java/lang/Throwable" "UNASSIGNED_STACK" "[Ljava/lang/StackTraceElement;" (.ref ua)) (SV : Sta Z Z.heap "java/lang/Throwable" "SUPPRESSED_SENTINEL" "Ljava/util/List;" (.ref ub)) (HC18 : Jvm.Lit.constHeld Z "com/example/modelwright/modelwright/FilterException" 18) (HC24 : Jvm.Lit.constHeld Z "com/example/modelwright/modelwright/FilterException" 24) (HCW : Jvm.Lit.compactW.before a0 Z = true) (HC7 : Jvm.Lit.constHeld Z "com/example/modelwright/modelwright/FilterExceptionOfFilterKeyPinLaw" 7) :
    MetFree l x (head1 (Jvm.Cond.code x code maxLocals ret :: ws) room_1) (fun a U => a = #[(.int p0), (.int p1)] ∧ Z.Warmed39 U.vm ∧ U.heap = h0 ∧ U.vm = Z.vm) (fun _ _ bl s _ => s.vm.MethodsKnown ∧ s.vm.FramesKnown bl) (fun _ U o U' => ∃ v L, o = .returned v ∧ Q0 Z p0 p1 G1 ua ub h0 n0 v U'.heap L ∧ ReturnedEndW U o U' L 24 3200) := by
  refine MetFree.of_bodySF (plainFor_of_name pn_0) hisR ?_
  intro p e s m args below meth c s₁ Bd hml0 hP hK
  obtain ⟨rfl, hZ, hh, hvm⟩ := hP
  have hx := Bd.exec
  have hby := Bd.bytes
  have hml : c.maxLocals = 12 := hml0
  have hown : s.vm.findClass "com/example/modelwright/modelwright/FilterExceptionOfFilterKeyPinLaw" = some m.cls := findClass_of_methodNamed Bd.named
  have hnm := (name_of_methodNamed Bd.named Bd.method).1
  have X0 : Stand p l e room_1 s m #[(.int p0), (.int p1)] below meth c s₁ [] 0 0 := Stand.of_body Bd
  have e0 : s₁.heap = h0 := by rw [← hh, Bd.state]; rfl
  have N0 := Fr.nil n0
  have K0 := Keep.refl h0 ([] : List Addr)
  have pre0 : ∀ t, Steps p.tables e below (s₁.setTop (mkF m 0 #[.val (.int p0), .val (.int p1), .unset, .unset, .unset, .unset, .unset, .unset, .unset, .unset, .unset, .unset] [])) t → Steps p.tables e below (s₁.setTop (entryFrame m #[(.int p0), (.int p1)] maxLocals)) t := fun t k => castTop (ef_0 m p0 p1) k
  have hZ0 := hZ
  have hkp : ∀ (b : Addr) (cl : Cell), Z.heap[b]? = some cl → s.heap[b]? = some cl := fun b cl q => by rw [hh]; exact OLD0.2.2 b cl q
  have hS0 : s.Since s.vm s.heap.size := (State.WarmedH.refl s).since _
  have wS : ∀ a ∈ Bundle.stringAtoms, a.before a0 Z = true := fun d hd => hw d ((by decide +kernel : ∀ d ∈ Bundle.stringAtoms, d ∈ tables_1) d hd)
  have I0 : IB Z s.vm [] := by rw [hvm]; exact IB.start
  obtain ⟨kl1, hkl1⟩ : ∃ z, z = ((((p0.toUInt32 >>> ((16 : Int32) &&& 31).toUInt32).toInt32) &&& (3 : Int32)) - (((p0.toUInt32 >>> ((16 : Int32) &&& 31).toUInt32).toInt32) &&& (3 : Int32)) / (3 : Int32) * (3 : Int32)) := ⟨_, rfl⟩
  have pre2 : ∀ t, Steps p.tables e below (s₁.setTop (mkF m 8 #[.val (.int p0), .val (.int p1), .unset, .unset, .unset, .unset, .unset, .unset, .unset, .unset, .unset, .unset] [(.int kl1)])) t → Steps p.tables e below (s₁.setTop (entryFrame m #[(.int p0), (.int p1)] maxLocals)) t := by
    intro t kt
    rw [hkl1] at kt
    refine pre0 _ ?_
    show Steps p.tables e below (s₁.setTop (mkF m 0 #[.val (.int p0), .val (.int p1), .unset, .unset, .unset, .unset, .unset, .unset, .unset, .unset, .unset, .unset] [])) _
    refine XS.iloadN X0.here hx rfl (hb hby at_0) rfl ?_
    show Steps p.tables e below (s₁.setTop (mkF m 1 #[.val (.int p0), .val (.int p1), .unset, .unset, .unset, .unset, .unset, .unset, .unset, .unset, .unset, .unset] [(.int p0)])) _
    refine XS.bipush X0.here hx rfl (hb hby at_1) ?_
    show Steps p.tables e below (s₁.setTop (mkF m 3 #[.val (.int p0), .val (.int p1), .unset, .unset, .unset, .unset, .unset, .unset, .unset, .unset, .unset, .unset] [(.int (16 : Int32)), (.int p0)])) _
    refine XS.iushr X0.here hx rfl (hb hby at_3) rfl ?_
    show Steps p.tables e below (s₁.setTop (mkF m 4 #[.val (.int p0), .val (.int p1), .unset, .unset, .unset, .unset, .unset, .unset, .unset, .unset, .unset, .unset] [(.int ((p0.toUInt32 >>> ((16 : Int32) &&& 31).toUInt32).toInt32))])) _
    refine XS.iconst X0.here hx rfl (hb hby at_4) ?_
    show Steps p.tables e below (s₁.setTop (mkF m 5 #[.val (.int p0), .val (.int p1), .unset, .unset, .unset, .unset, .unset, .unset, .unset, .unset, .unset, .unset] [(.int (3 : Int32)), (.int ((p0.toUInt32 >>> ((16 : Int32) &&& 31).toUInt32).toInt32))])) _
    refine XS.iand X0.here hx rfl (hb hby at_5) rfl ?_
    show Steps p.tables e below (s₁.setTop (mkF m 6 #[.val (.int p0), .val (.int p1), .unset, .unset, .unset, .unset, .unset, .unset, .unset, .unset, .unset, .unset] [(.int (((p0.toUInt32 >>> ((16 : Int32) &&& 31).toUInt32).toInt32) &&& (3 : Int32)))])) _
    refine XS.iconst X0.here hx rfl (hb hby at_6) ?_
    show Steps p.tables e below (s₁.setTop (mkF m 7 #[.val (.int p0), .val (.int p1), .unset, .unset, .unset, .unset, .unset, .unset, .unset, .unset, .unset, .unset] [(.int (3 : Int32)), (.int (((p0.toUInt32 >>> ((16 : Int32) &&& 31).toUInt32).toInt32) &&& (3 : Int32)))])) _
    refine XS.irem X0.here hx rfl (hb hby at_7) rfl (by decide) ?_
    show Steps p.tables e below (s₁.setTop (mkF m 8 #[.val (.int p0), .val (.int p1), .unset, .unset, .unset, .unset, .unset, .unset, .unset, .unset, .unset, .unset] [(.int ((((p0.toUInt32 >>> ((16 : Int32) &&& 31).toUInt32).toInt32) &&& (3 : Int32)) - (((p0.toUInt32 >>> ((16 : Int32) &&& 31).toUInt32).toInt32) &&& (3 : Int32)) / (3 : Int32) * (3 : Int32)))])) _
    exact kt
  obtain ⟨k3, hk3⟩ : ∃ z, z = ((p0 &&& (255 : Int32)).toUInt32.toUInt16.toUInt32.toInt32) := ⟨_, rfl⟩
  have pre4 : ∀ t, Steps p.tables e below (s₁.setTop (mkF m 15 #[.val (.int p0), .val (.int p1), .val (.int kl1), .unset, .unset, .unset, .unset, .unset, .unset, .unset, .unset, .unset] [(.int k3)])) t → Steps p.tables e below (s₁.setTop (entryFrame m #[(.int p0), (.int p1)] maxLocals)) t := by
    intro t kt
    rw [hk3] at kt
    refine pre2 _ ?_
    show Steps p.tables e below (s₁.setTop (mkF m 8 #[.val (.int p0), .val (.int p1), .unset, .unset, .unset, .unset, .unset, .unset, .unset, .unset, .unset, .unset] [(.int kl1)])) _
    refine XS.istoreN X0.here hx rfl (hb hby at_8) rfl (l' := #[.val (.int p0), .val (.int p1), .val (.int kl1), .unset, .unset, .unset, .unset, .unset, .unset, .unset, .unset, .unset]) rfl ?_
    show Steps p.tables e below (s₁.setTop (mkF m 9 #[.val (.int p0), .val (.int p1), .val (.int kl1), .unset, .unset, .unset, .unset, .unset, .unset, .unset, .unset, .unset] [])) _
    refine XS.iloadN X0.here hx rfl (hb hby at_9) rfl ?_
    show Steps p.tables e below (s₁.setTop (mkF m 10 #[.val (.int p0), .val (.int p1), .val (.int kl1), .unset, .unset, .unset, .unset, .unset, .unset, .unset, .unset, .unset] [(.int p0)])) _
    refine XS.sipush X0.here hx rfl (hb hby at_10) ?_
    show Steps p.tables e below (s₁.setTop (mkF m 13 #[.val (.int p0), .val (.int p1), .val (.int kl1), .unset, .unset, .unset, .unset, .unset, .unset, .unset, .unset, .unset] [(.int (255 : Int32)), (.int p0)])) _
    refine XS.iand X0.here hx rfl (hb hby at_13) rfl ?_
    show Steps p.tables e below (s₁.setTop (mkF m 14 #[.val (.int p0), .val (.int p1), .val (.int kl1), .unset, .unset, .unset, .unset, .unset, .unset, .unset, .unset, .unset] [(.int (p0 &&& (255 : Int32)))])) _
    refine XS.i2c X0.here hx rfl (hb hby at_14) rfl ?_
    show Steps p.tables e below (s₁.setTop (mkF m 15 #[.val (.int p0), .val (.int p1), .val (.int kl1), .unset, .unset, .unset, .unset, .unset, .unset, .unset, .unset, .unset] [(.int ((p0 &&& (255 : Int32)).toUInt32.toUInt16.toUInt32.toInt32))])) _
    exact kt
  obtain ⟨k5, hk5⟩ : ∃ z, z = ((((p0.toUInt32 >>> ((8 : Int32) &&& 31).toUInt32).toInt32) &&& (255 : Int32)).toUInt32.toUInt16.toUInt32.toInt32) := ⟨_, rfl⟩
  have pre6 : ∀ t, Steps p.tables e below (s₁.setTop (mkF m 25 #[.val (.int p0), .val (.int p1), .val (.int kl1), .val (.int k3), .unset, .unset, .unset, .unset, .unset, .unset, .unset, .unset] [(.int k5)])) t → Steps p.tables e below (s₁.setTop (entryFrame m #[(.int p0), (.int p1)] maxLocals)) t := by
    intro t kt
    rw [hk5] at kt
    refine pre4 _ ?_
    show Steps p.tables e below (s₁.setTop (mkF m 15 #[.val (.int p0), .val (.int p1), .val (.int kl1), .unset, .unset, .unset, .unset, .unset, .unset, .unset, .unset, .unset] [(.int k3)])) _
    refine XS.istoreN X0.here hx rfl (hb hby at_15) rfl (l' := #[.val (.int p0), .val (.int p1), .val (.int kl1), .val (.int k3), .unset, .unset, .unset, .unset, .unset, .unset, .unset, .unset]) rfl ?_
    show Steps p.tables e below (s₁.setTop (mkF m 16 #[.val (.int p0), .val (.int p1), .val (.int kl1), .val (.int k3), .unset, .unset, .unset, .unset, .unset, .unset, .unset, .unset] [])) _
    refine XS.iloadN X0.here hx rfl (hb hby at_16) rfl ?_
    show Steps p.tables e below (s₁.setTop (mkF m 17 #[.val (.int p0), .val (.int p1), .val (.int kl1), .val (.int k3), .unset, .unset, .unset, .unset, .unset, .unset, .unset, .unset] [(.int p0)])) _
    refine XS.bipush X0.here hx rfl (hb hby at_17) ?_
    show Steps p.tables e below (s₁.setTop (mkF m 19 #[.val (.int p0), .val (.int p1), .val (.int kl1), .val (.int k3), .unset, .unset, .unset, .unset, .unset, .unset, .unset, .unset] [(.int (8 : Int32)), (.int p0)])) _
    refine XS.iushr X0.here hx rfl (hb hby at_19) rfl ?_
    show Steps p.tables e below (s₁.setTop (mkF m 20 #[.val (.int p0), .val (.int p1), .val (.int kl1), .val (.int k3), .unset, .unset, .unset, .unset, .unset, .unset, .unset, .unset] [(.int ((p0.toUInt32 >>> ((8 : Int32) &&& 31).toUInt32).toInt32))])) _
    refine XS.sipush X0.here hx rfl (hb hby at_20) ?_
    show Steps p.tables e below (s₁.setTop (mkF m 23 #[.val (.int p0), .val (.int p1), .val (.int kl1), .val (.int k3), .unset, .unset, .unset, .unset, .unset, .unset, .unset, .unset] [(.int (255 : Int32)), (.int ((p0.toUInt32 >>> ((8 : Int32) &&& 31).toUInt32).toInt32))])) _
    refine XS.iand X0.here hx rfl (hb hby at_23) rfl ?_
    show Steps p.tables e below (s₁.setTop (mkF m 24 #[.val (.int p0), .val (.int p1), .val (.int kl1), .val (.int k3), .unset, .unset, .unset, .unset, .unset, .unset, .unset, .unset] [(.int (((p0.toUInt32 >>> ((8 : Int32) &&& 31).toUInt32).toInt32) &&& (255 : Int32)))])) _
    refine XS.i2c X0.here hx rfl (hb hby at_24) rfl ?_
    show Steps p.tables e below (s₁.setTop (mkF m 25 #[.val (.int p0), .val (.int p1), .val (.int kl1), .val (.int k3), .unset, .unset, .unset, .unset, .unset, .unset, .unset, .unset] [(.int ((((p0.toUInt32 >>> ((8 : Int32) &&& 31).toUInt32).toInt32) &&& (255 : Int32)).toUInt32.toUInt16.toUInt32.toInt32))])) _
    exact kt
  obtain ⟨q7, hq7⟩ : ∃ z, z = ((p1 &&& (255 : Int32)).toUInt32.toUInt16.toUInt32.toInt32) := ⟨_, rfl⟩
  have pre8 : ∀ t, Steps p.tables e below (s₁.setTop (mkF m 33 #[.val (.int p0), .val (.int p1), .val (.int kl1), .val (.int k3), .val (.int k5), .unset, .unset, .unset, .unset, .unset, .unset, .unset] [(.int q7)])) t → Steps p.tables e below (s₁.setTop (entryFrame m #[(.int p0), (.int p1)] maxLocals)) t := by
    intro t kt
    rw [hq7] at kt
    refine pre6 _ ?_
    show Steps p.tables e below (s₁.setTop (mkF m 25 #[.val (.int p0), .val (.int p1), .val (.int kl1), .val (.int k3), .unset, .unset, .unset, .unset, .unset, .unset, .unset, .unset] [(.int k5)])) _
    refine XS.istore X0.here hx rfl (hb hby at_25) rfl (l' := #[.val (.int p0), .val (.int p1), .val (.int kl1), .val (.int k3), .val (.int k5), .unset, .unset, .unset, .unset, .unset, .unset, .unset]) rfl ?_
    show Steps p.tables e below (s₁.setTop (mkF m 27 #[.val (.int p0), .val (.int p1), .val (.int kl1), .val (.int k3), .val (.int k5), .unset, .unset, .unset, .unset, .unset, .unset, .unset] [])) _
    refine XS.iloadN X0.here hx rfl (hb hby at_27) rfl ?_
    show Steps p.tables e below (s₁.setTop (mkF m 28 #[.val (.int p0), .val (.int p1), .val (.int kl1), .val (.int k3), .val (.int k5), .unset, .unset, .unset, .unset, .unset, .unset, .unset] [(.int p1)])) _
    refine XS.sipush X0.here hx rfl (hb hby at_28) ?_
    show Steps p.tables e below (s₁.setTop (mkF m 31 #[.val (.int p0), .val (.int p1), .val (.int kl1), .val (.int k3), .val (.int k5), .unset, .unset, .unset, .unset, .unset, .unset, .unset] [(.int (255 : Int32)), (.int p1)])) _
    refine XS.iand X0.here hx rfl (hb hby at_31) rfl ?_
    show Steps p.tables e below (s₁.setTop (mkF m 32 #[.val (.int p0), .val (.int p1), .val (.int kl1), .val (.int k3), .val (.int k5), .unset, .unset, .unset, .unset, .unset, .unset, .unset] [(.int (p1 &&& (255 : Int32)))])) _
    refine XS.i2c X0.here hx rfl (hb hby at_32) rfl ?_
    show Steps p.tables e below (s₁.setTop (mkF m 33 #[.val (.int p0), .val (.int p1), .val (.int kl1), .val (.int k3), .val (.int k5), .unset, .unset, .unset, .unset, .unset, .unset, .unset] [(.int ((p1 &&& (255 : Int32)).toUInt32.toUInt16.toUInt32.toInt32))])) _
    exact kt
  obtain ⟨q9, hq9⟩ : ∃ z, z = ((((p1.toUInt32 >>> ((8 : Int32) &&& 31).toUInt32).toInt32) &&& (255 : Int32)).toUInt32.toUInt16.toUInt32.toInt32) := ⟨_, rfl⟩
  have pre10 : ∀ t, Steps p.tables e below (s₁.setTop (mkF m 44 #[.val (.int p0), .val (.int p1), .val (.int kl1), .val (.int k3), .val (.int k5), .val (.int q7), .unset, .unset, .unset, .unset, .unset, .unset] [(.int q9)])) t → Steps p.tables e below (s₁.setTop (entryFrame m #[(.int p0), (.int p1)] maxLocals)) t := by
    intro t kt
    rw [hq9] at kt
    refine pre8 _ ?_
    show Steps p.tables e below (s₁.setTop (mkF m 33 #[.val (.int p0), .val (.int p1), .val (.int kl1), .val (.int k3), .val (.int k5), .unset, .unset, .unset, .unset, .unset, .unset, .unset] [(.int q7)])) _
    refine XS.istore X0.here hx rfl (hb hby at_33) rfl (l' := #[.val (.int p0), .val (.int p1), .val (.int kl1), .val (.int k3), .val (.int k5), .val (.int q7), .unset, .unset, .unset, .unset, .unset, .unset]) rfl ?_
    show Steps p.tables e below (s₁.setTop (mkF m 35 #[.val (.int p0), .val (.int p1), .val (.int kl1), .val (.int k3), .val (.int k5), .val (.int q7), .unset, .unset, .unset, .unset, .unset, .unset] [])) _
    refine XS.iloadN X0.here hx rfl (hb hby at_35) rfl ?_
    show Steps p.tables e below (s₁.setTop (mkF m 36 #[.val (.int p0), .val (.int p1), .val (.int kl1), .val (.int k3), .val (.int k5), .val (.int q7), .unset, .unset, .unset, .unset, .unset, .unset] [(.int p1)])) _
    refine XS.bipush X0.here hx rfl (hb hby at_36) ?_
    show Steps p.tables e below (s₁.setTop (mkF m 38 #[.val (.int p0), .val (.int p1), .val (.int kl1), .val (.int k3), .val (.int k5), .val (.int q7), .unset, .unset, .unset, .unset, .unset, .unset] [(.int (8 : Int32)), (.int p1)])) _
    refine XS.iushr X0.here hx rfl (hb hby at_38) rfl ?_
    show Steps p.tables e below (s₁.setTop (mkF m 39 #[.val (.int p0), .val (.int p1), .val (.int kl1), .val (.int k3), .val (.int k5), .val (.int q7), .unset, .unset, .unset, .unset, .unset, .unset] [(.int ((p1.toUInt32 >>> ((8 : Int32) &&& 31).toUInt32).toInt32))])) _
    refine XS.sipush X0.here hx rfl (hb hby at_39) ?_
    show Steps p.tables e below (s₁.setTop (mkF m 42 #[.val (.int p0), .val (.int p1), .val (.int kl1), .val (.int k3), .val (.int k5), .val (.int q7), .unset, .unset, .unset, .unset, .unset, .unset] [(.int (255 : Int32)), (.int ((p1.toUInt32 >>> ((8 : Int32) &&& 31).toUInt32).toInt32))])) _
    refine XS.iand X0.here hx rfl (hb hby at_42) rfl ?_
    show Steps p.tables e below (s₁.setTop (mkF m 43 #[.val (.int p0), .val (.int p1), .val (.int kl1), .val (.int k3), .val (.int k5), .val (.int q7), .unset, .unset, .unset, .unset, .unset, .unset] [(.int (((p1.toUInt32 >>> ((8 : Int32) &&& 31).toUInt32).toInt32) &&& (255 : Int32)))])) _
    refine XS.i2c X0.here hx rfl (hb hby at_43) rfl ?_
    show Steps p.tables e below (s₁.setTop (mkF m 44 #[.val (.int p0), .val (.int p1), .val (.int kl1), .val (.int k3), .val (.int k5), .val (.int q7), .unset, .unset, .unset, .unset, .unset, .unset] [(.int ((((p1.toUInt32 >>> ((8 : Int32) &&& 31).toUInt32).toInt32) &&& (255 : Int32)).toUInt32.toUInt16.toUInt32.toInt32))])) _
    exact kt
  have pre11 : ∀ t, Steps p.tables e below (s₁.setTop (mkF m 46 #[.val (.int p0), .val (.int p1), .val (.int kl1), .val (.int k3), .val (.int k5), .val (.int q7), .val (.int q9), .unset, .unset, .unset, .unset, .unset] [])) t → Steps p.tables e below (s₁.setTop (entryFrame m #[(.int p0), (.int p1)] maxLocals)) t := by
    intro t kt
    refine pre10 _ ?_
    show Steps p.tables e below (s₁.setTop (mkF m 44 #[.val (.int p0), .val (.int p1), .val (.int kl1), .val (.int k3), .val (.int k5), .val (.int q7), .unset, .unset, .unset, .unset, .unset, .unset] [(.int q9)])) _
    refine XS.istore X0.here hx rfl (hb hby at_44) rfl (l' := #[.val (.int p0), .val (.int p1), .val (.int kl1), .val (.int k3), .val (.int k5), .val (.int q7), .val (.int q9), .unset, .unset, .unset, .unset, .unset]) rfl ?_
    show Steps p.tables e below (s₁.setTop (mkF m 46 #[.val (.int p0), .val (.int p1), .val (.int kl1), .val (.int k3), .val (.int k5), .val (.int q7), .val (.int q9), .unset, .unset, .unset, .unset, .unset] [])) _
    exact kt
  have cc_k3 : own_c255 k3 := by rw [hk3]; exact own_and255 _
  have cc_k5 : own_c255 k5 := by rw [hk5]; exact own_and255 _
  have cc_q7 : own_c255 q7 := by rw [hq7]; exact own_and255 _
  have cc_q9 : own_c255 q9 := by rw [hq9]; exact own_and255 _
  have pre12 : ∀ t, Steps p.tables e below (s₁.setTop (mkF m 47 #[.val (.int p0), .val (.int p1), .val (.int kl1), .val (.int k3), .val (.int k5), .val (.int q7), .val (.int q9), .unset, .unset, .unset, .unset, .unset] [(.int kl1)])) t → Steps p.tables e below (s₁.setTop (entryFrame m #[(.int p0), (.int p1)] maxLocals)) t := by
    intro t kt
    refine pre11 _ ?_
    show Steps p.tables e below (s₁.setTop (mkF m 46 #[.val (.int p0), .val (.int p1), .val (.int kl1), .val (.int k3), .val (.int k5), .val (.int q7), .val (.int q9), .unset, .unset, .unset, .unset, .unset] [])) _
    refine XS.iloadN X0.here hx rfl (hb hby at_46) rfl ?_
    show Steps p.tables e below (s₁.setTop (mkF m 47 #[.val (.int p0), .val (.int p1), .val (.int kl1), .val (.int k3), .val (.int k5), .val (.int q7), .val (.int q9), .unset, .unset, .unset, .unset, .unset] [(.int kl1)])) _
    exact kt
  by_cases hc47 : kl1 = (0 : Int32)
  ·
    have pre14 : ∀ t, Steps p.tables e below (s₁.setTop (mkF m 50 #[.val (.int p0), .val (.int p1), .val (.int kl1), .val (.int k3), .val (.int k5), .val (.int q7), .val (.int q9), .unset, .unset, .unset, .unset, .unset] [])) t → Steps p.tables e below (s₁.setTop (entryFrame m #[(.int p0), (.int p1)] maxLocals)) t := by
      intro t kt
      refine pre12 _ ?_
      show Steps p.tables e below (s₁.setTop (mkF m 47 #[.val (.int p0), .val (.int p1), .val (.int kl1), .val (.int k3), .val (.int k5), .val (.int q7), .val (.int q9), .unset, .unset, .unset, .unset, .unset] [(.int kl1)])) _
      refine XS.ifNo X0.here hx rfl (hb hby at_47) rfl ((if0 _ _).trans (teq hc47).2) ?_
      show Steps p.tables e below (s₁.setTop (mkF m 50 #[.val (.int p0), .val (.int p1), .val (.int kl1), .val (.int k3), .val (.int k5), .val (.int q7), .val (.int q9), .unset, .unset, .unset, .unset, .unset] [])) _
      exact kt
    have Xz15 := own_nil X0 (by show Keep s.heap s₁.heap []; rw [hh, e0]; exact K0)
    obtain ⟨x15, T15, h15, k15, b15, kb15, X15, e15, E15, hS15, hk15, hZ, hown, xe15, xc15, xv15, xa15, -, -, I15, lt15, st15⟩ := ldcSVL (s := s) (vm0 := s.vm) Xz15 hx hZ hown (hw _ (List.mem_of_getElem? (i := 0) rfl)) wS e0 hS0 (by rw [hh]; exact K0.1) (Fr.nil _) hkp I0 (by decide) HC7 HCW (vs := own_B []) (z := Int32.ofNat 0) own_ht7 (by decide) (by decide) (g := (mkF m 50 #[.val (.int p0), .val (.int p1), .val (.int kl1), .val (.int k3), .val (.int k5), .val (.int q7), .val (.int q9), .unset, .unset, .unset, .unset, .unset] [])) rfl (hb hby at_50) (n := 0) own_hn7 (by decide) (by decide) (by decide)
    have xs15 : own_str Z h15 x15 [] := ⟨b15, kb15, xe15, xc15, xv15, xa15⟩
    have K15 := K0.ext E15
    have pre16 : ∀ t, Steps p.tables e below (T15.setTop (mkF m 54 #[.val (.int p0), .val (.int p1), .val (.int kl1), .val (.int k3), .val (.int k5), .val (.int q7), .val (.int q9), .val (.ref x15), .unset, .unset, .unset, .unset] [])) t → Steps p.tables e below (s₁.setTop (entryFrame m #[(.int p0), (.int p1)] maxLocals)) t := by
      intro t kt
      refine pre14 _ ?_
      show Steps p.tables e below (s₁.setTop (mkF m 50 #[.val (.int p0), .val (.int p1), .val (.int kl1), .val (.int k3), .val (.int k5), .val (.int q7), .val (.int q9), .unset, .unset, .unset, .unset, .unset] [])) _
      refine st15 _ ?_
      show Steps p.tables e below (T15.setTop (mkF m 52 #[.val (.int p0), .val (.int p1), .val (.int kl1), .val (.int k3), .val (.int k5), .val (.int q7), .val (.int q9), .unset, .unset, .unset, .unset, .unset] [(.ref x15)])) _
      refine XS.astore X15.here hx rfl (hb hby at_52) rfl rfl (l' := #[.val (.int p0), .val (.int p1), .val (.int kl1), .val (.int k3), .val (.int k5), .val (.int q7), .val (.int q9), .val (.ref x15), .unset, .unset, .unset, .unset]) rfl ?_
      show Steps p.tables e below (T15.setTop (mkF m 54 #[.val (.int p0), .val (.int p1), .val (.int kl1), .val (.int k3), .val (.int k5), .val (.int q7), .val (.int q9), .val (.ref x15), .unset, .unset, .unset, .unset] [])) _
      exact kt
    obtain ⟨Lh, Xh, Nh⟩ := own_hide X15 (Fr.nil n0) (C := 3) (S := 8) (Nat.le_of_ble_eq_true rfl) (Nat.le_of_ble_eq_true rfl)
    have OLDz : Old Z n0 h15 := OLD0.keep K15 all0
    obtain ⟨T2, b2, kb2, L2, X2, N2, K2, va2, st2⟩ := own_exp0 (p0 := p0) (p1 := p1) (kl := kl1) (kx := x15) Xh hx hZ hw hby hml hown e15 Nh (Nat.le_trans Z0 K15.1) cc_k3 cc_k5 cc_q7 cc_q9
    have XK2 := own_strP xs15 K2
    have OLD2 : Old Z n0 T2.heap := OLDz.keep K2 all0
    obtain ⟨vm3, k3, T3, Ls3, L3, X3, N3, S3, g3, u3, st3⟩ := own_tail0 (p0 := p0) (p1 := p1) (kl := kl1) (Ts := [""]) X2 hx hZ hw hby hml hown rfl N2 (Nat.le_trans (Nat.le_trans Z0 K15.1) K2.1) cc_k3 cc_k5 cc_q7 cc_q9 OLD2 SCS P5 hl SU SV XK2 va2 (by decide) HC18 HC24 HCW I15 ⟨Vm.MethodsKnown.alikeC (hZ0.alike.symm.trans hZ.alike) hK.1, Vm.FramesKnown.alikeC (hZ0.alike.symm.trans hZ.alike) hK.2⟩
    have Sz : s.Since vm3 k3 := hS15.trans S3 (Nat.le_trans (Nat.le_trans hk15 K2.1) g3)
    obtain ⟨fs, hr, hrun, hended, hWz⟩ := Jvm.Stand.leaveW (s := s) (vm₁ := vm3) X3 Sz u3 (v := some (.int (1 : Int32))) (fun h => by rw [Bd.returns] at h; cases h)
    exact ⟨_, _, pre16 _ (st2 _ (st3 _ (retN X3 hx (t := .boolean) Bd.returns (by simp) (hb hby at_576) hr))), hrun, hended, _, _, rfl, ⟨rfl, N3⟩, hWz⟩
  ·
    have pre17 : ∀ t, Steps p.tables e below (s₁.setTop (mkF m 185 #[.val (.int p0), .val (.int p1), .val (.int kl1), .val (.int k3), .val (.int k5), .val (.int q7), .val (.int q9), .unset, .unset, .unset, .unset, .unset] [(.int (1 : Int32)), (.int kl1)])) t → Steps p.tables e below (s₁.setTop (entryFrame m #[(.int p0), (.int p1)] maxLocals)) t := by
      intro t kt
      refine pre12 _ ?_
      show Steps p.tables e below (s₁.setTop (mkF m 47 #[.val (.int p0), .val (.int p1), .val (.int kl1), .val (.int k3), .val (.int k5), .val (.int q7), .val (.int q9), .unset, .unset, .unset, .unset, .unset] [(.int kl1)])) _
      refine XS.ifYes X0.here hx rfl (pc0 := 47) (pc' := 183) rfl (hb hby at_47) rfl ((if0 _ _).trans (feq hc47).2) (by decide) (by decide) ?_
      show Steps p.tables e below (s₁.setTop (mkF m 183 #[.val (.int p0), .val (.int p1), .val (.int kl1), .val (.int k3), .val (.int k5), .val (.int q7), .val (.int q9), .unset, .unset, .unset, .unset, .unset] [])) _
      refine XS.iloadN X0.here hx rfl (hb hby at_183) rfl ?_
      show Steps p.tables e below (s₁.setTop (mkF m 184 #[.val (.int p0), .val (.int p1), .val (.int kl1), .val (.int k3), .val (.int k5), .val (.int q7), .val (.int q9), .unset, .unset, .unset, .unset, .unset] [(.int kl1)])) _
      refine XS.iconst X0.here hx rfl (hb hby at_184) ?_
      show Steps p.tables e below (s₁.setTop (mkF m 185 #[.val (.int p0), .val (.int p1), .val (.int kl1), .val (.int k3), .val (.int k5), .val (.int q7), .val (.int q9), .unset, .unset, .unset, .unset, .unset] [(.int (1 : Int32)), (.int kl1)])) _
      exact kt
    by_cases hc185 : kl1 = (1 : Int32)
    ·
      obtain ⟨T19, h19, X19, e19, E19, A19, D19, un19, st19⟩ := newO X0 hx hZ hown (hw _ (List.mem_of_getElem? (i := 9) rfl)) (hw _ (List.mem_of_getElem? (i := 2) rfl)) (hw _ (List.mem_of_getElem? (i := 1) rfl)) e0 (g := (mkF m 188 #[.val (.int p0), .val (.int p1), .val (.int kl1), .val (.int k3), .val (.int k5), .val (.int q7), .val (.int q9), .unset, .unset, .unset, .unset, .unset] [])) rfl (hb hby at_188) (by decide) (by decide)
      obtain ⟨b19, g19⟩ : ∃ z, z = h0.size := ⟨_, rfl⟩
      rw [← g19] at A19 D19 un19 st19
      have g_b19 : n0 ≤ b19 := Nat.le_trans (Nat.le_trans Z0 K0.1) (Nat.le_of_eq g19.symm)
      have sz_b19 : h0.size ≤ b19 := Nat.le_trans K0.1 (Nat.le_of_eq g19.symm)
      have K19 := K0.ext E19
      have F_value_b19 : Fld Z h19 b19 "java/lang/String" "value" "[B" .null := D19 (Or.inr (hw _ (List.mem_of_getElem? (i := 4) rfl))) (ty := (.array .byte)) (by decide)
      have F_coder_b19 : Fld Z h19 b19 "java/lang/String" "coder" "B" (.int (0 : Int32)) := D19 (Or.inr (hw _ (List.mem_of_getElem? (i := 5) rfl))) (ty := .byte) (by decide)
      obtain ⟨T20, h20, k20, X20, e20, E20, A20, st20⟩ := newP X19 hx hZ (hw _ (List.mem_of_getElem? (i := 8) rfl)) e19 (g := (mkF m 193 #[.val (.int p0), .val (.int p1), .val (.int kl1), .val (.int k3), .val (.int k5), .val (.int q7), .val (.int q9), .unset, .unset, .unset, .unset, .unset] [(.int (1 : Int32)), (.ref b19), (.ref b19)])) rfl (hb hby at_193) rfl (by decide) (cap := 1) (by decide) (by decide) (by decide) (by decide)
      obtain ⟨b20, g20⟩ : ∃ z, z = h19.size := ⟨_, rfl⟩
      rw [← g20] at A20 st20
      have g_b20 : n0 ≤ b20 := Nat.le_trans (Nat.le_trans Z0 K19.1) (Nat.le_of_eq g20.symm)
      have sz_b20 : h0.size ≤ b20 := Nat.le_trans K19.1 (Nat.le_of_eq g20.symm)
      have ne_b19_b20 : b19 ≠ b20 := Nat.ne_of_lt (Nat.lt_of_lt_of_le A19.lt (Nat.le_of_eq g20.symm))
      have K20 := K19.ext E20
      have V_b20 : Arv Z h20 b20 k20 .char (1 : Int32) [(.int (0 : Int32))] (.int (0 : Int32)) := (Arv.new A20 (by decide)).pad (pad_rep [] (.int (0 : Int32)) 1)
      obtain ⟨clo21, Aro21, qo21, So21, No21, Ho21, Go21⟩ := id V_b20
      have hino21 : ¬ ((0 : Int32) < 0 ∨ clo21.slots.size ≤ ((0 : Int32)).toNatClampNeg) := inb_of So21 ⟨by decide, by decide⟩
      obtain ⟨T22, h22, X22, e22, W22, st22⟩ := stC X20 hx hZ e20 Aro21 (j := (0 : Int32)) hino21 (g := (mkF m 198 #[.val (.int p0), .val (.int p1), .val (.int kl1), .val (.int k3), .val (.int k5), .val (.int q7), .val (.int q9), .unset, .unset, .unset, .unset, .unset] [(.int k3), (.int (0 : Int32)), (.ref b20), (.ref b20), (.ref b19), (.ref b19)])) rfl rfl (hb hby at_198)
      have V22 : Arv Z h22 b20 k20 .char (1 : Int32) [(.int (nar .char k3))] (.int (0 : Int32)) := Arv.set Aro21 qo21 So21 No21 Ho21 Go21 (fits_nar_char _) W22 0 rfl (Nat.le_of_ble_eq_true rfl)
      have K22 := K20.wr W22 (Or.inr sz_b20)
      have N22 := Fr.snoc X22 N0 g_b20
      have c24 := ((A19.ext E20).wr W22)
      have c25 := ((F_value_b19.ext E20).other W22 (Or.inl ne_b19_b20))
      have c26 := ((F_coder_b19.ext E20).other W22 (Or.inl ne_b19_b20))
      have OLD23 : Old Z n0 h22 := OLD0.keep K22 all0
      have hp23 : ∀ c ∈ ([k3] : List Int32), own_c255 c := (own_cons cc_k3 own_lm0)
      have va23 : Arv Z h22 b20 k20 .char (1 : Int32) (([k3] : List Int32).map Value.int) (.int (0 : Int32)) := by
        have q : Arv Z h22 b20 k20 .char (1 : Int32) (([k3] : List Int32).map fun c => Value.int (nar .char c)) (.int (0 : Int32)) := V22
        rw [own_c16L hp23] at q; exact q
      obtain ⟨_, _, ⟨T23, L23, k23, n23⟩, -, X23, ⟨Lc23, hQ23, l23, y23, z23⟩, st23⟩ := X22.specialBack hx (y := (⟨"java/lang/String", "<init>", "([C)V"⟩ : MethodName)) rfl hown (mvT hZ (hw _ (List.mem_of_getElem? (i := 10) rfl))) (mvT hZ (hw _ (List.mem_of_getElem? (i := 11) rfl))) (mvT hZ (hw _ (List.mem_of_getElem? (i := 12) rfl))) (by decide) (StrChars.Road.backV (W := 1) hZ (hws a0 Z hw) (kI := 4) (hw _ (List.mem_of_getElem? (i := 2) rfl)) (cs := ([k3] : List Int32)) (bs := ([k3] : List Int32).map (fun c => c.toInt8.toInt32)) (n := 1) g_b19 (Nat.le_trans Z0 K22.1) c24 c25 c26 va23 (SCS.ext OLD23.2) P5 rfl rfl (by decide) (by decide) hp23 rfl (by decide) (by decide)) (g := (mkF m 199 #[.val (.int p0), .val (.int p1), .val (.int kl1), .val (.int k3), .val (.int k5), .val (.int q7), .val (.int q9), .unset, .unset, .unset, .unset, .unset] [(.ref b20), (.ref b19), (.ref b19)])) rfl (by rw [hml]; rfl) (Steps.refl _) (a := b19) (argsL := [(.ref b20)]) (rest := [(.ref b19)]) (lenOf pd___C_V rfl) rfl (by show 2 * 0 + _ ≤ _; exact Nat.le_of_eq rfl) (hb hby at_199) (fun _ _ => ⟨rfl, e22, (by decide : 2 + 1 ≤ _), (by decide : 5 + 1 ≤ _)⟩)
      dsimp only [Pt.U, Pt.locs, Pt.cells, Pt.slots] at X23 l23 y23 z23 st23 hQ23
      subst l23 y23 z23
      obtain ⟨rfl, N23q, kq23, xq23, cq23, t23, kb23, ut23, vt23, wt23, vq23, aq23⟩ := hQ23
      have N23 := Fr.app N22 N23q
      have K23 := K22.trans kq23 (allS (Or.inr sz_b19) all0)
      have xs23 : own_str Z T23.heap b19 ([k3] : List Int32) := ⟨t23, kb23, xq23, cq23, vq23, aq23⟩
      have pre27 : ∀ t, Steps p.tables e below (T23.setTop (mkF m 204 #[.val (.int p0), .val (.int p1), .val (.int kl1), .val (.int k3), .val (.int k5), .val (.int q7), .val (.int q9), .val (.ref b19), .unset, .unset, .unset, .unset] [])) t → Steps p.tables e below (s₁.setTop (entryFrame m #[(.int p0), (.int p1)] maxLocals)) t := by
        intro t kt
        refine pre17 _ ?_
        show Steps p.tables e below (s₁.setTop (mkF m 185 #[.val (.int p0), .val (.int p1), .val (.int kl1), .val (.int k3), .val (.int k5), .val (.int q7), .val (.int q9), .unset, .unset, .unset, .unset, .unset] [(.int (1 : Int32)), (.int kl1)])) _
        refine XS.icmpNo X0.here hx rfl (hb hby at_185) rfl (teq hc185).2 ?_
        show Steps p.tables e below (s₁.setTop (mkF m 188 #[.val (.int p0), .val (.int p1), .val (.int kl1), .val (.int k3), .val (.int k5), .val (.int q7), .val (.int q9), .unset, .unset, .unset, .unset, .unset] [])) _
        refine st19 _ ?_
        show Steps p.tables e below (T19.setTop (mkF m 191 #[.val (.int p0), .val (.int p1), .val (.int kl1), .val (.int k3), .val (.int k5), .val (.int q7), .val (.int q9), .unset, .unset, .unset, .unset, .unset] [(.ref b19)])) _
        refine XS.dup X19.here hx rfl (hb hby at_191) rfl rfl ?_
        show Steps p.tables e below (T19.setTop (mkF m 192 #[.val (.int p0), .val (.int p1), .val (.int kl1), .val (.int k3), .val (.int k5), .val (.int q7), .val (.int q9), .unset, .unset, .unset, .unset, .unset] [(.ref b19), (.ref b19)])) _
        refine XS.iconst X19.here hx rfl (hb hby at_192) ?_
        show Steps p.tables e below (T19.setTop (mkF m 193 #[.val (.int p0), .val (.int p1), .val (.int kl1), .val (.int k3), .val (.int k5), .val (.int q7), .val (.int q9), .unset, .unset, .unset, .unset, .unset] [(.int (1 : Int32)), (.ref b19), (.ref b19)])) _
        refine st20 _ ?_
        show Steps p.tables e below (T20.setTop (mkF m 195 #[.val (.int p0), .val (.int p1), .val (.int kl1), .val (.int k3), .val (.int k5), .val (.int q7), .val (.int q9), .unset, .unset, .unset, .unset, .unset] [(.ref b20), (.ref b19), (.ref b19)])) _
        refine XS.dup X20.here hx rfl (hb hby at_195) rfl rfl ?_
        show Steps p.tables e below (T20.setTop (mkF m 196 #[.val (.int p0), .val (.int p1), .val (.int kl1), .val (.int k3), .val (.int k5), .val (.int q7), .val (.int q9), .unset, .unset, .unset, .unset, .unset] [(.ref b20), (.ref b20), (.ref b19), (.ref b19)])) _
        refine XS.iconst X20.here hx rfl (hb hby at_196) ?_
        show Steps p.tables e below (T20.setTop (mkF m 197 #[.val (.int p0), .val (.int p1), .val (.int kl1), .val (.int k3), .val (.int k5), .val (.int q7), .val (.int q9), .unset, .unset, .unset, .unset, .unset] [(.int (0 : Int32)), (.ref b20), (.ref b20), (.ref b19), (.ref b19)])) _
        refine XS.iloadN X20.here hx rfl (hb hby at_197) rfl ?_
        show Steps p.tables e below (T20.setTop (mkF m 198 #[.val (.int p0), .val (.int p1), .val (.int kl1), .val (.int k3), .val (.int k5), .val (.int q7), .val (.int q9), .unset, .unset, .unset, .unset, .unset] [(.int k3), (.int (0 : Int32)), (.ref b20), (.ref b20), (.ref b19), (.ref b19)])) _
        refine st22 _ ?_
        show Steps p.tables e below (T22.setTop (mkF m 199 #[.val (.int p0), .val (.int p1), .val (.int kl1), .val (.int k3), .val (.int k5), .val (.int q7), .val (.int q9), .unset, .unset, .unset, .unset, .unset] [(.ref b20), (.ref b19), (.ref b19)])) _
        refine st23.trans ?_
        show Steps p.tables e below (T23.setTop (mkF m 202 #[.val (.int p0), .val (.int p1), .val (.int kl1), .val (.int k3), .val (.int k5), .val (.int q7), .val (.int q9), .unset, .unset, .unset, .unset, .unset] [(.ref b19)])) _
        refine XS.astore X23.here hx rfl (hb hby at_202) rfl rfl (l' := #[.val (.int p0), .val (.int p1), .val (.int kl1), .val (.int k3), .val (.int k5), .val (.int q7), .val (.int q9), .val (.ref b19), .unset, .unset, .unset, .unset]) rfl ?_
        show Steps p.tables e below (T23.setTop (mkF m 204 #[.val (.int p0), .val (.int p1), .val (.int kl1), .val (.int k3), .val (.int k5), .val (.int q7), .val (.int q9), .val (.ref b19), .unset, .unset, .unset, .unset] [])) _
        exact kt
      obtain ⟨Lh, Xh, Nh⟩ := own_hide X23 N23 (C := 3) (S := 8) (Nat.le_of_ble_eq_true rfl) (Nat.le_of_ble_eq_true rfl)
      have OLDz : Old Z n0 T23.heap := OLD0.keep K23 all0
      obtain ⟨T2, b2, kb2, L2, X2, N2, K2, va2, st2⟩ := own_exp1 (p0 := p0) (p1 := p1) (kl := kl1) (kx := b19) Xh hx hZ hw hby hml hown rfl Nh (Nat.le_trans Z0 K23.1) cc_k3 cc_k5 cc_q7 cc_q9
      have XK2 := own_strP xs23 K2
      have OLD2 : Old Z n0 T2.heap := OLDz.keep K2 all0
      obtain ⟨vm3, k3, T3, Ls3, L3, X3, N3, S3, g3, u3, st3⟩ := own_tail1 (p0 := p0) (p1 := p1) (kl := kl1) (Ts := []) X2 hx hZ hw hby hml hown rfl N2 (Nat.le_trans (Nat.le_trans Z0 K23.1) K2.1) cc_k3 cc_k5 cc_q7 cc_q9 OLD2 SCS P5 hl SU SV XK2 va2 (by decide) HC18 HC24 HCW I0 hK
      have Sz : s.Since vm3 k3 := S3
      obtain ⟨fs, hr, hrun, hended, hWz⟩ := Jvm.Stand.leaveW (s := s) (vm₁ := vm3) X3 Sz u3 (v := some (.int (1 : Int32))) (fun h => by rw [Bd.returns] at h; cases h)
      exact ⟨_, _, pre27 _ (st2 _ (st3 _ (retN X3 hx (t := .boolean) Bd.returns (by simp) (hb hby at_576) hr))), hrun, hended, _, _, rfl, ⟨rfl, N3⟩, hWz⟩
    ·
      obtain ⟨T28, h28, X28, e28, E28, A28, D28, un28, st28⟩ := newO X0 hx hZ hown (hw _ (List.mem_of_getElem? (i := 9) rfl)) (hw _ (List.mem_of_getElem? (i := 2) rfl)) (hw _ (List.mem_of_getElem? (i := 1) rfl)) e0 (g := (mkF m 338 #[.val (.int p0), .val (.int p1), .val (.int kl1), .val (.int k3), .val (.int k5), .val (.int q7), .val (.int q9), .unset, .unset, .unset, .unset, .unset] [])) rfl (hb hby at_338) (by decide) (by decide)
      obtain ⟨b28, g28⟩ : ∃ z, z = h0.size := ⟨_, rfl⟩
      rw [← g28] at A28 D28 un28 st28
      have g_b28 : n0 ≤ b28 := Nat.le_trans (Nat.le_trans Z0 K0.1) (Nat.le_of_eq g28.symm)
      have sz_b28 : h0.size ≤ b28 := Nat.le_trans K0.1 (Nat.le_of_eq g28.symm)
      have K28 := K0.ext E28
      have F_value_b28 : Fld Z h28 b28 "java/lang/String" "value" "[B" .null := D28 (Or.inr (hw _ (List.mem_of_getElem? (i := 4) rfl))) (ty := (.array .byte)) (by decide)
      have F_coder_b28 : Fld Z h28 b28 "java/lang/String" "coder" "B" (.int (0 : Int32)) := D28 (Or.inr (hw _ (List.mem_of_getElem? (i := 5) rfl))) (ty := .byte) (by decide)
      obtain ⟨T29, h29, k29, X29, e29, E29, A29, st29⟩ := newP X28 hx hZ (hw _ (List.mem_of_getElem? (i := 8) rfl)) e28 (g := (mkF m 343 #[.val (.int p0), .val (.int p1), .val (.int kl1), .val (.int k3), .val (.int k5), .val (.int q7), .val (.int q9), .unset, .unset, .unset, .unset, .unset] [(.int (2 : Int32)), (.ref b28), (.ref b28)])) rfl (hb hby at_343) rfl (by decide) (cap := 2) (by decide) (by decide) (by decide) (by decide)
      obtain ⟨b29, g29⟩ : ∃ z, z = h28.size := ⟨_, rfl⟩
      rw [← g29] at A29 st29
      have g_b29 : n0 ≤ b29 := Nat.le_trans (Nat.le_trans Z0 K28.1) (Nat.le_of_eq g29.symm)
      have sz_b29 : h0.size ≤ b29 := Nat.le_trans K28.1 (Nat.le_of_eq g29.symm)
      have ne_b28_b29 : b28 ≠ b29 := Nat.ne_of_lt (Nat.lt_of_lt_of_le A28.lt (Nat.le_of_eq g29.symm))
      have K29 := K28.ext E29
      have V_b29 : Arv Z h29 b29 k29 .char (2 : Int32) [(.int (0 : Int32)), (.int (0 : Int32))] (.int (0 : Int32)) := (Arv.new A29 (by decide)).pad (pad_rep [] (.int (0 : Int32)) 2)
      obtain ⟨clo30, Aro30, qo30, So30, No30, Ho30, Go30⟩ := id V_b29
      have hino30 : ¬ ((0 : Int32) < 0 ∨ clo30.slots.size ≤ ((0 : Int32)).toNatClampNeg) := inb_of So30 ⟨by decide, by decide⟩
      obtain ⟨T31, h31, X31, e31, W31, st31⟩ := stC X29 hx hZ e29 Aro30 (j := (0 : Int32)) hino30 (g := (mkF m 348 #[.val (.int p0), .val (.int p1), .val (.int kl1), .val (.int k3), .val (.int k5), .val (.int q7), .val (.int q9), .unset, .unset, .unset, .unset, .unset] [(.int k3), (.int (0 : Int32)), (.ref b29), (.ref b29), (.ref b28), (.ref b28)])) rfl rfl (hb hby at_348)
      have V31 : Arv Z h31 b29 k29 .char (2 : Int32) [(.int (nar .char k3)), (.int (0 : Int32))] (.int (0 : Int32)) := Arv.set Aro30 qo30 So30 No30 Ho30 Go30 (fits_nar_char _) W31 0 rfl (Nat.le_of_ble_eq_true rfl)
      have K31 := K29.wr W31 (Or.inr sz_b29)
      have N31 := Fr.snoc X31 N0 g_b29
      obtain ⟨clo32, Aro32, qo32, So32, No32, Ho32, Go32⟩ := id V31
      have hino32 : ¬ ((1 : Int32) < 0 ∨ clo32.slots.size ≤ ((1 : Int32)).toNatClampNeg) := inb_of So32 ⟨by decide, by decide⟩
      obtain ⟨T33, h33, X33, e33, W33, st33⟩ := stC X31 hx hZ e31 Aro32 (j := (1 : Int32)) hino32 (g := (mkF m 353 #[.val (.int p0), .val (.int p1), .val (.int kl1), .val (.int k3), .val (.int k5), .val (.int q7), .val (.int q9), .unset, .unset, .unset, .unset, .unset] [(.int k5), (.int (1 : Int32)), (.ref b29), (.ref b29), (.ref b28), (.ref b28)])) rfl rfl (hb hby at_353)
      have V33 : Arv Z h33 b29 k29 .char (2 : Int32) [(.int (nar .char k3)), (.int (nar .char k5))] (.int (0 : Int32)) := Arv.set Aro32 qo32 So32 No32 Ho32 Go32 (fits_nar_char _) W33 1 rfl (Nat.le_of_ble_eq_true rfl)
      have K33 := K31.wr W33 (Or.inr sz_b29)
      have N33 := Fr.snoc X33 N31 g_b29
      have c35 := (((A28.ext E29).wr W31).wr W33)
      have c36 := (((F_value_b28.ext E29).other W31 (Or.inl ne_b28_b29)).other W33 (Or.inl ne_b28_b29))
      have c37 := (((F_coder_b28.ext E29).other W31 (Or.inl ne_b28_b29)).other W33 (Or.inl ne_b28_b29))
      have OLD34 : Old Z n0 h33 := OLD0.keep K33 all0
      have hp34 : ∀ c ∈ ([k3, k5] : List Int32), own_c255 c := (own_cons cc_k3 (own_cons cc_k5 own_lm0))
      have va34 : Arv Z h33 b29 k29 .char (2 : Int32) (([k3, k5] : List Int32).map Value.int) (.int (0 : Int32)) := by
        have q : Arv Z h33 b29 k29 .char (2 : Int32) (([k3, k5] : List Int32).map fun c => Value.int (nar .char c)) (.int (0 : Int32)) := V33
        rw [own_c16L hp34] at q; exact q
      obtain ⟨_, _, ⟨T34, L34, k34, n34⟩, -, X34, ⟨Lc34, hQ34, l34, y34, z34⟩, st34⟩ := X33.specialBack hx (y := (⟨"java/lang/String", "<init>", "([C)V"⟩ : MethodName)) rfl hown (mvT hZ (hw _ (List.mem_of_getElem? (i := 10) rfl))) (mvT hZ (hw _ (List.mem_of_getElem? (i := 11) rfl))) (mvT hZ (hw _ (List.mem_of_getElem? (i := 12) rfl))) (by decide) (StrChars.Road.backV (W := 1) hZ (hws a0 Z hw) (kI := 4) (hw _ (List.mem_of_getElem? (i := 2) rfl)) (cs := ([k3, k5] : List Int32)) (bs := ([k3, k5] : List Int32).map (fun c => c.toInt8.toInt32)) (n := 2) g_b28 (Nat.le_trans Z0 K33.1) c35 c36 c37 va34 (SCS.ext OLD34.2) P5 rfl rfl (by decide) (by decide) hp34 rfl (by decide) (by decide)) (g := (mkF m 354 #[.val (.int p0), .val (.int p1), .val (.int kl1), .val (.int k3), .val (.int k5), .val (.int q7), .val (.int q9), .unset, .unset, .unset, .unset, .unset] [(.ref b29), (.ref b28), (.ref b28)])) rfl (by rw [hml]; rfl) (Steps.refl _) (a := b28) (argsL := [(.ref b29)]) (rest := [(.ref b28)]) (lenOf pd___C_V rfl) rfl (by show 2 * 0 + _ ≤ _; exact Nat.le_of_eq rfl) (hb hby at_354) (fun _ _ => ⟨rfl, e33, (by decide : 2 + 1 ≤ _), (by decide : 6 + 2 ≤ _)⟩)
      dsimp only [Pt.U, Pt.locs, Pt.cells, Pt.slots] at X34 l34 y34 z34 st34 hQ34
      subst l34 y34 z34
      obtain ⟨rfl, N34q, kq34, xq34, cq34, t34, kb34, ut34, vt34, wt34, vq34, aq34⟩ := hQ34
      have N34 := Fr.app N33 N34q
      have K34 := K33.trans kq34 (allS (Or.inr sz_b28) all0)
      have xs34 : own_str Z T34.heap b28 ([k3, k5] : List Int32) := ⟨t34, kb34, xq34, cq34, vq34, aq34⟩
      have pre38 : ∀ t, Steps p.tables e below (T34.setTop (mkF m 359 #[.val (.int p0), .val (.int p1), .val (.int kl1), .val (.int k3), .val (.int k5), .val (.int q7), .val (.int q9), .val (.ref b28), .unset, .unset, .unset, .unset] [])) t → Steps p.tables e below (s₁.setTop (entryFrame m #[(.int p0), (.int p1)] maxLocals)) t := by
        intro t kt
        refine pre17 _ ?_
        show Steps p.tables e below (s₁.setTop (mkF m 185 #[.val (.int p0), .val (.int p1), .val (.int kl1), .val (.int k3), .val (.int k5), .val (.int q7), .val (.int q9), .unset, .unset, .unset, .unset, .unset] [(.int (1 : Int32)), (.int kl1)])) _
        refine XS.icmpYes X0.here hx rfl (pc0 := 185) (pc' := 338) rfl (hb hby at_185) rfl (feq hc185).2 (by decide) (by decide) ?_
        show Steps p.tables e below (s₁.setTop (mkF m 338 #[.val (.int p0), .val (.int p1), .val (.int kl1), .val (.int k3), .val (.int k5), .val (.int q7), .val (.int q9), .unset, .unset, .unset, .unset, .unset] [])) _
        refine st28 _ ?_
        show Steps p.tables e below (T28.setTop (mkF m 341 #[.val (.int p0), .val (.int p1), .val (.int kl1), .val (.int k3), .val (.int k5), .val (.int q7), .val (.int q9), .unset, .unset, .unset, .unset, .unset] [(.ref b28)])) _
        refine XS.dup X28.here hx rfl (hb hby at_341) rfl rfl ?_
        show Steps p.tables e below (T28.setTop (mkF m 342 #[.val (.int p0), .val (.int p1), .val (.int kl1), .val (.int k3), .val (.int k5), .val (.int q7), .val (.int q9), .unset, .unset, .unset, .unset, .unset] [(.ref b28), (.ref b28)])) _
        refine XS.iconst X28.here hx rfl (hb hby at_342) ?_
        show Steps p.tables e below (T28.setTop (mkF m 343 #[.val (.int p0), .val (.int p1), .val (.int kl1), .val (.int k3), .val (.int k5), .val (.int q7), .val (.int q9), .unset, .unset, .unset, .unset, .unset] [(.int (2 : Int32)), (.ref b28), (.ref b28)])) _
        refine st29 _ ?_
        show Steps p.tables e below (T29.setTop (mkF m 345 #[.val (.int p0), .val (.int p1), .val (.int kl1), .val (.int k3), .val (.int k5), .val (.int q7), .val (.int q9), .unset, .unset, .unset, .unset, .unset] [(.ref b29), (.ref b28), (.ref b28)])) _
        refine XS.dup X29.here hx rfl (hb hby at_345) rfl rfl ?_
        show Steps p.tables e below (T29.setTop (mkF m 346 #[.val (.int p0), .val (.int p1), .val (.int kl1), .val (.int k3), .val (.int k5), .val (.int q7), .val (.int q9), .unset, .unset, .unset, .unset, .unset] [(.ref b29), (.ref b29), (.ref b28), (.ref b28)])) _
        refine XS.iconst X29.here hx rfl (hb hby at_346) ?_
        show Steps p.tables e below (T29.setTop (mkF m 347 #[.val (.int p0), .val (.int p1), .val (.int kl1), .val (.int k3), .val (.int k5), .val (.int q7), .val (.int q9), .unset, .unset, .unset, .unset, .unset] [(.int (0 : Int32)), (.ref b29), (.ref b29), (.ref b28), (.ref b28)])) _
        refine XS.iloadN X29.here hx rfl (hb hby at_347) rfl ?_
        show Steps p.tables e below (T29.setTop (mkF m 348 #[.val (.int p0), .val (.int p1), .val (.int kl1), .val (.int k3), .val (.int k5), .val (.int q7), .val (.int q9), .unset, .unset, .unset, .unset, .unset] [(.int k3), (.int (0 : Int32)), (.ref b29), (.ref b29), (.ref b28), (.ref b28)])) _
        refine st31 _ ?_
        show Steps p.tables e below (T31.setTop (mkF m 349 #[.val (.int p0), .val (.int p1), .val (.int kl1), .val (.int k3), .val (.int k5), .val (.int q7), .val (.int q9), .unset, .unset, .unset, .unset, .unset] [(.ref b29), (.ref b28), (.ref b28)])) _
        refine XS.dup X31.here hx rfl (hb hby at_349) rfl rfl ?_
        show Steps p.tables e below (T31.setTop (mkF m 350 #[.val (.int p0), .val (.int p1), .val (.int kl1), .val (.int k3), .val (.int k5), .val (.int q7), .val (.int q9), .unset, .unset, .unset, .unset, .unset] [(.ref b29), (.ref b29), (.ref b28), (.ref b28)])) _
        refine XS.iconst X31.here hx rfl (hb hby at_350) ?_
        show Steps p.tables e below (T31.setTop (mkF m 351 #[.val (.int p0), .val (.int p1), .val (.int kl1), .val (.int k3), .val (.int k5), .val (.int q7), .val (.int q9), .unset, .unset, .unset, .unset, .unset] [(.int (1 : Int32)), (.ref b29), (.ref b29), (.ref b28), (.ref b28)])) _
        refine XS.iload X31.here hx rfl (hb hby at_351) rfl ?_
        show Steps p.tables e below (T31.setTop (mkF m 353 #[.val (.int p0), .val (.int p1), .val (.int kl1), .val (.int k3), .val (.int k5), .val (.int q7), .val (.int q9), .unset, .unset, .unset, .unset, .unset] [(.int k5), (.int (1 : Int32)), (.ref b29), (.ref b29), (.ref b28), (.ref b28)])) _
        refine st33 _ ?_
        show Steps p.tables e below (T33.setTop (mkF m 354 #[.val (.int p0), .val (.int p1), .val (.int kl1), .val (.int k3), .val (.int k5), .val (.int q7), .val (.int q9), .unset, .unset, .unset, .unset, .unset] [(.ref b29), (.ref b28), (.ref b28)])) _
        refine st34.trans ?_
        show Steps p.tables e below (T34.setTop (mkF m 357 #[.val (.int p0), .val (.int p1), .val (.int kl1), .val (.int k3), .val (.int k5), .val (.int q7), .val (.int q9), .unset, .unset, .unset, .unset, .unset] [(.ref b28)])) _
        refine XS.astore X34.here hx rfl (hb hby at_357) rfl rfl (l' := #[.val (.int p0), .val (.int p1), .val (.int kl1), .val (.int k3), .val (.int k5), .val (.int q7), .val (.int q9), .val (.ref b28), .unset, .unset, .unset, .unset]) rfl ?_
        show Steps p.tables e below (T34.setTop (mkF m 359 #[.val (.int p0), .val (.int p1), .val (.int kl1), .val (.int k3), .val (.int k5), .val (.int q7), .val (.int q9), .val (.ref b28), .unset, .unset, .unset, .unset] [])) _
        exact kt
      obtain ⟨Lh, Xh, Nh⟩ := own_hide X34 N34 (C := 3) (S := 8) (Nat.le_of_ble_eq_true rfl) (Nat.le_of_ble_eq_true rfl)
      have OLDz : Old Z n0 T34.heap := OLD0.keep K34 all0
      obtain ⟨T2, b2, kb2, L2, X2, N2, K2, va2, st2⟩ := own_exp2 (p0 := p0) (p1 := p1) (kl := kl1) (kx := b28) Xh hx hZ hw hby hml hown rfl Nh (Nat.le_trans Z0 K34.1) cc_k3 cc_k5 cc_q7 cc_q9
      have XK2 := own_strP xs34 K2
      have OLD2 : Old Z n0 T2.heap := OLDz.keep K2 all0
      obtain ⟨vm3, k3, T3, Ls3, L3, X3, N3, S3, g3, u3, st3⟩ := own_tail2 (p0 := p0) (p1 := p1) (kl := kl1) (Ts := []) X2 hx hZ hw hby hml hown rfl N2 (Nat.le_trans (Nat.le_trans Z0 K34.1) K2.1) cc_k3 cc_k5 cc_q7 cc_q9 OLD2 SCS P5 hl SU SV XK2 va2 (by decide) HC18 HC24 HCW I0 hK
      have Sz : s.Since vm3 k3 := S3
      obtain ⟨fs, hr, hrun, hended, hWz⟩ := Jvm.Stand.leaveW (s := s) (vm₁ := vm3) X3 Sz u3 (v := some (.int (1 : Int32))) (fun h => by rw [Bd.returns] at h; cases h)
      exact ⟨_, _, pre38 _ (st2 _ (st3 _ (retN X3 hx (t := .boolean) Bd.returns (by simp) (hb hby at_576) hr))), hrun, hended, _, _, rfl, ⟨rfl, N3⟩, hWz⟩
set_option maxRecDepth 65536 in
set_option maxHeartbeats 40000000 in
theorem comes_1 {Post : Tables → Env → Array Value → State → Outcome → State → Prop} (hpost : ∀ tb e args s v u, (limb_1_1.after args s (.returned v) u = true ∧ limb_1_2.after args s (.returned v) u = true ∧ True) → FramedW s (.returned v) u (Jvm.fieldLocs frame_1_writes args s ++ Jvm.arrayLocs frame_1_arrays args s ++ Jvm.staticLocs frame_1_statics s) 48 8960 → Post tb e args s (.returned v) u) :
    ArmFor flags0 classFile x code maxLocals ret World_1 tables_1 room_1 Calls_1 rest_1 Pre_1 Post := by
  intro l hfl _ _ p e ha hc hk s m args below hf hA hF happ hP
  obtain ⟨hcalls, hrest, hpre⟩ := hP
  obtain ⟨-, -, -, hnamed, -, -, -, hat⟩ := (Spec.applies_iff hf).mp happ
  obtain ⟨hg, hn⟩ := and_e (Cond.before_iff.mp (show (Jvm.Cond.and given_1 narrow_1).before args s = true from hpre))
  obtain ⟨g1, g2⟩ := and_e hg
  obtain ⟨g3, g4⟩ := and_e g2
  obtain ⟨w0, w1, rfl⟩ : ∃ w0 w1 : Value, args = #[w0, w1] := by
    have hs : args.size = 2 := by simpa [Cond.value, given_1] using g1
    obtain ⟨L⟩ := args
    match L, hs with
    | [w0, w1], _ => exact ⟨w0, w1, rfl⟩
  have hw := fun d (hd : d ∈ tables_1) => atoms_spec (ws := Jvm.Cond.code x code maxLocals ret :: tables_1) hat d (List.mem_cons_of_mem _ hd)
  have hfit : Fit s := fun {y c} hc i hi => by
    obtain ⟨ha, rfl⟩ := Array.getElem?_eq_some_iff.mp hc
    have q := List.all_eq_true.mp ((Array.all_eq_true_iff_forall_mem.mp hF) _ (Array.getElem_mem ha)) i (List.mem_range.mpr hi)
    simpa [Array.getElem?_eq_getElem hi] using q
  obtain ⟨hsets, hown0⟩ := atoms_of _ (rest_1_c_eq ▸ (show rest_1_c.before _ s = true from hrest))
  have hr0 := Cond.before_iff.mp hown0
  obtain ⟨i0, ei0⟩ := is_v g3
  obtain rfl : w0 = (.int i0) := Option.some.inj ei0
  obtain ⟨i1, ei1⟩ := is_v g4
  obtain rfl : w1 = (.int i1) := Option.some.inj ei1
  have n5 := not_v (Cond.before_iff.mp (hsets _ (List.mem_of_getElem? (i := 2) rfl)))
  obtain ⟨G1, e10⟩ := is_v (Cond.before_iff.mp (hsets _ (List.mem_of_getElem? (i := 1) rfl)))
  have SCS : Sta s s.heap "java/lang/String" "COMPACT_STRINGS" "Z" (.int G1) := Sta.start e10 (Or.inl (hsets _ (List.mem_of_getElem? (i := 0) rfl)))
  have P5 : ¬ (G1 = (0 : Int32)) := gotF (Cond.eq_ints e10 (Term.int_eval (0))) n5
  obtain ⟨ua, e17⟩ := own_arr (Cond.before_iff.mp (hsets _ (List.mem_of_getElem? (i := 17) rfl)))
  have SU : Sta s s.heap "java/lang/Throwable" "UNASSIGNED_STACK" "[Ljava/lang/StackTraceElement;" (.ref ua) := Sta.start e17 (Or.inl (hsets _ (List.mem_of_getElem? (i := 15) rfl)))
  obtain ⟨ub, e22⟩ := exa_v (Cond.before_iff.mp (hsets _ (List.mem_of_getElem? (i := 22) rfl)))
  have SV : Sta s s.heap "java/lang/Throwable" "SUPPRESSED_SENTINEL" "Ljava/util/List;" (.ref ub) := Sta.start e22 (Or.inl (hsets _ (List.mem_of_getElem? (i := 20) rfl)))
  have hl : l.stackTraces = true := by unfold Launch.stackTraces; rw [hfl]; decide
  have HC18 : Jvm.Lit.constHeld s "com/example/modelwright/modelwright/FilterException" 18 := hcalls.2.2.1 _ (List.mem_of_getElem? (i := 0) rfl)
  have HC24 : Jvm.Lit.constHeld s "com/example/modelwright/modelwright/FilterException" 24 := hcalls.2.2.1 _ (List.mem_of_getElem? (i := 1) rfl)
  have HC7 : Jvm.Lit.constHeld s "com/example/modelwright/modelwright/FilterExceptionOfFilterKeyPinLaw" 7 := hcalls.2.2.1 _ (List.mem_of_getElem? (i := 2) rfl)
  obtain ⟨n, o, h1, h2, h3, _, L, rfl, ⟨rfl, N⟩, hq⟩ := rm0 l s _ hw tables_1 i0 i1 G1 ua ub s.heap s.heap.size (Nat.le_refl _) (Old.start s) SCS P5 hl SU SV HC18 HC24 (hsets _ (List.mem_of_getElem? (i := 2) rfl)) HC7 p e ha hc hk s m _ below hf ((Spec.applies_iff_loose hf).mp happ).1 ⟨rfl, State.Warmed39.refl s, rfl, rfl⟩ ⟨MethodsKnown_of_tablesKnown hcalls.2.1, FramesKnown_of_framesKnown hcalls.1 hf⟩
  refine ⟨n, _, h1, h2, h3, hpost _ _ _ _ _ _ ⟨Cond.after_iff.mpr rfl, Cond.after_iff.mpr (eq_i res_at (Term.int_eval (1)) rfl), trivial⟩ ⟨hq.1, hq.2.1, hq.2.2.1, (hq.2.2.2.sift fun y hy => Or.inr (N y hy)).mono (by decide) (by decide)⟩⟩
theorem main_1_1 : Claimed_1_1 := comes_1 fun _ _ _ _ _ _ h hF => ⟨h.1, hF⟩
theorem main_1_2 : Claimed_1_2 := comes_1 fun _ _ _ _ _ _ h hF => ⟨h.2.1, hF⟩
end Jvm.Pilot.@@N@@
namespace Jvm.Pilot.@@N@@
open Jvm Jvm.ClassFile Sem Op Lib Jvm.Free Jvm.Stand Jvm.Pilot.@@N@@.Jvm.D
/-! MADE BY PROGRAM (witnessworld.py) out of the Statement's table words and the real class files: 43 classes; the members and pool entries that the words name. The judged class is class 1, her method 1. -/
namespace start1
open Jvm.ClassFile
def u (s : String) : CpInfo := .utf8 (stringToUtf16 s)
/-- a pool by its gaps: so many unusable entries, then the entry; so many at the end -/
def gap : Nat → List CpInfo → List CpInfo
  | 0, r => r
  | n + 1, r => .unusable :: gap n r
def poolList (es : List (Nat × CpInfo)) (last : Nat) : List CpInfo := es.foldr (fun e r => gap e.1 (e.2 :: r)) (gap last [])
def pool (es : List (Nat × CpInfo)) (last : Nat) : Array CpInfo := ⟨poolList es last⟩
def fileOf (pool : Array CpInfo) (this : Nat) (attrs : Array Attribute := #[]) (ms : Array MethodInfo := #[]) (fl : Nat := 33) (sup : Nat := 0) (ifs : Array Nat := #[]) (fds : Array FieldInfo := #[]) : ClassFile where
  minorVersion := 0
  majorVersion := 65
  constantPool := pool
  accessFlags := fl
  thisClass := this
  superClass := sup
  interfaces := ifs
  fields := fds
  methods := ms
  attributes := attrs
def plain (name : String) (sup : Option ClassId) : Class where
  name := name
  kind := .ordinary
  loader := none
  accessFlags := 33
  super := sup
  interfaces := #[]
  cf := none
  fields := #[]
  methods := #[]
  instanceTypes := #[]
  staticTypes := #[]
  resolved := #[]
  callSites := []
  init := .initialized
  statics := none
  mirror := none

def pool0 : Array CpInfo := pool [(5, u "<init>"), (0, u "()V"), (1, .class_ 10), (1, u "java/lang/Object")] 113

def k0c0 : Code := { maxStack := 0, maxLocals := 1, code := object_method_1_code, exceptionTable := #[], attributes := #[] }
def k0m0 : Method := { name := "<init>", desc := "()V", sig := { parameters := [], returnType := none }, accessFlags := 1, code := some k0c0 }
/-- java/lang/Object -/
def k0 : Class := { plain "java/lang/Object" none with
  accessFlags := 33
  interfaces := #[]
  cf := some (fileOf pool0 8 #[] #[{ accessFlags := 1, nameIndex := 5, descriptorIndex := 6, attributes := #[] }] 33 0 #[] #[])
  fields := #[]
  methods := #[k0m0]
  instanceTypes := #[]
  staticTypes := #[]
  resolved := Array.replicate 124 none
  statics := none }

def pool1 : Array CpInfo := pool [(2, .class_ 4), (1, u "java/lang/Object"), (0, u "<init>"), (0, u "()V"), (0, .string 8), (0, u ""), (0, .class_ 10), (0, u "java/lang/String"), (0, .methodref 9 12), (0, .nameAndType 5 13), (0, u "([C)V"), (0, .methodref 15 16), (0, .class_ 17), (0, .nameAndType 18 19), (0, u "com/example/modelwright/modelwright/FilterException"), (0, u "ofFilterKey"), (0, u "(Ljava/lang/String;Ljava/lang/String;)Lcom/example/modelwright/modelwright/FilterException;"), (0, .methodref 15 21), (0, .nameAndType 22 23), (0, u "getMessage"), (0, u "()Ljava/lang/String;"), (0, .methodref 9 25), (0, .nameAndType 26 27), (0, u "equals"), (0, u "(Ljava/lang/Object;)Z"), (0, .methodref 15 29), (0, .nameAndType 30 23), (0, u "key"), (0, .class_ 32), (0, u "com/example/modelwright/modelwright/FilterExceptionOfFilterKeyPinLaw"), (2, u "law"), (0, u "(II)Z")] 5

def k1m0 : Method := { name := "<init>", desc := "()V", sig := { parameters := [], returnType := none }, accessFlags := 1, code := none }
def k1c1 : Code := { maxStack := 6, maxLocals := 12, code := code, exceptionTable := #[], attributes := #[] }
def k1m1 : Method := { name := "law", desc := "(II)Z", sig := { parameters := [.int, .int], returnType := some .boolean }, accessFlags := 9, code := some k1c1 }
/-- com/example/modelwright/modelwright/FilterExceptionOfFilterKeyPinLaw -/
def k1 : Class := { plain "com/example/modelwright/modelwright/FilterExceptionOfFilterKeyPinLaw" (some 0) with
  accessFlags := 49
  interfaces := #[]
  cf := some (fileOf pool1 31 #[] #[{ accessFlags := 1, nameIndex := 5, descriptorIndex := 6, attributes := #[] }, { accessFlags := 9, nameIndex := 35, descriptorIndex := 36, attributes := #[] }] 49 2 #[] #[])
  fields := #[]
  methods := #[k1m0, k1m1]
  instanceTypes := #[]
  staticTypes := #[]
  resolved := Array.replicate 42 none
  statics := none }

def pool2 : Array CpInfo := pool [(1, .class_ 2), (0, u "java/io/Serializable"), (0, .class_ 4), (0, u "java/lang/Object")] 2

/-- java/io/Serializable -/
def k2 : Class := { plain "java/io/Serializable" (some 0) with
  accessFlags := 1537
  interfaces := #[]
  cf := some (fileOf pool2 1 #[] #[] 1537 3 #[] #[])
  fields := #[]
  methods := #[]
  instanceTypes := #[]
  staticTypes := #[]
  resolved := Array.replicate 7 none
  statics := none }

def pool3 : Array CpInfo := pool [(1, .class_ 2), (0, u "java/lang/Comparable"), (0, .class_ 4), (0, u "java/lang/Object")] 7

/-- java/lang/Comparable -/
def k3 : Class := { plain "java/lang/Comparable" (some 0) with
  accessFlags := 1537
  interfaces := #[]
  cf := some (fileOf pool3 1 #[] #[] 1537 3 #[] #[])
  fields := #[]
  methods := #[]
  instanceTypes := #[]
  staticTypes := #[]
  resolved := Array.replicate 12 none
  statics := none }

def pool4 : Array CpInfo := pool [(2, .class_ 4), (1, u "java/lang/CharSequence"), (42, .class_ 48), (0, u "java/lang/CharSequence$1CodePointIterator"), (10, .class_ 60), (0, u "java/lang/CharSequence$1CharIterator"), (5, .class_ 67), (0, u "java/lang/Object")] 63

/-- java/lang/CharSequence -/
def k4 : Class := { plain "java/lang/CharSequence" (some 0) with
  accessFlags := 1537
  interfaces := #[]
  cf := some (fileOf pool4 2 #[.nestMembers #[47, 59]] #[] 1537 66 #[] #[])
  fields := #[]
  methods := #[]
  instanceTypes := #[]
  staticTypes := #[]
  resolved := Array.replicate 131 none
  statics := none }

def pool5 : Array CpInfo := pool [(1, .class_ 2), (0, u "java/lang/constant/Constable"), (0, .class_ 4), (0, u "java/lang/Object")] 6

/-- java/lang/constant/Constable -/
def k5 : Class := { plain "java/lang/constant/Constable" (some 0) with
  accessFlags := 1537
  interfaces := #[]
  cf := some (fileOf pool5 1 #[] #[] 1537 3 #[] #[])
  fields := #[]
  methods := #[]
  instanceTypes := #[]
  staticTypes := #[]
  resolved := Array.replicate 11 none
  statics := none }

def pool6 : Array CpInfo := pool [(1, .class_ 2), (0, u "java/lang/constant/ConstantDesc"), (0, .class_ 4), (0, u "java/lang/Object")] 32

/-- java/lang/constant/ConstantDesc -/
def k6 : Class := { plain "java/lang/constant/ConstantDesc" (some 0) with
  accessFlags := 1537
  interfaces := #[]
  cf := some (fileOf pool6 1 #[] #[] 1537 3 #[] #[])
  fields := #[]
  methods := #[]
  instanceTypes := #[]
  staticTypes := #[]
  resolved := Array.replicate 37 none
  statics := none }

def pool7 : Array CpInfo := pool [(1, .methodref 2 3), (0, .class_ 4), (0, .nameAndType 5 6), (0, u "java/lang/Object"), (0, u "<init>"), (0, u "()V"), (2, .fieldref 10 11), (0, .class_ 12), (0, .nameAndType 13 14), (0, u "java/lang/String"), (0, u "value"), (0, u "[B"), (0, .fieldref 10 16), (0, .nameAndType 17 18), (0, u "coder"), (0, u "B"), (2, u "hash"), (0, u "I"), (2, u "hashIsZero"), (0, u "Z"), (0, .methodref 10 28), (0, .nameAndType 5 29), (0, u "([CIILjava/lang/Void;)V"), (8, .fieldref 10 39), (0, .nameAndType 40 26), (0, u "COMPACT_STRINGS"), (1, .class_ 44), (1, u "java/lang/StringUTF16"), (0, u "compress"), (1, .methodref 42 48), (0, .nameAndType 49 50), (0, u "coderFromArrayLen"), (0, u "([BI)B"), (3, .methodref 55 56), (0, .class_ 57), (0, .nameAndType 58 59), (0, u "java/util/Arrays"), (0, u "copyOfRange"), (0, u "([BII)[B"), (47, .class_ 109), (1, u "java/lang/StringLatin1"), (32, u "()Z"), (34, .methodref 42 178), (0, .nameAndType 45 179), (0, u "([CII)[B"), (13, .class_ 195), (1, u "java/lang/System"), (16, .methodref 193 213), (0, .nameAndType 214 215), (0, u "arraycopy"), (0, u "(Ljava/lang/Object;ILjava/lang/Object;II)V"), (118, u "()I"), (0, .methodref 10 336), (0, .nameAndType 17 337), (0, u "()B"), (2, u "()[B"), (148, .methodref 10 490), (0, .nameAndType 5 491), (0, u "(Ljava/lang/AbstractStringBuilder;Ljava/lang/Void;)V"), (1, .nameAndType 494 142), (0, u "isLatin1"), (11, .nameAndType 507 334), (0, u "length"), (24, u "getBytes"), (8, .methodref 107 542), (0, .nameAndType 543 544), (0, u "equals"), (0, u "([B[B)Z"), (4, .methodref 550 506), (0, .class_ 551), (0, u "java/lang/AbstractStringBuilder"), (0, .methodref 550 553), (0, .nameAndType 554 340), (0, u "getValue"), (18, u "(Ljava/lang/Object;)Z"), (1, .class_ 576), (0, u "java/lang/CharSequence"), (22, u "CASE_INSENSITIVE_ORDER"), (0, u "Ljava/util/Comparator;"), (220, u "([BIB)V"), (188, u "([C)V"), (36, .methodref 550 493), (53, u "serialPersistentFields"), (0, u "[Ljava/io/ObjectStreamField;"), (0, .class_ 1104), (0, u "java/lang/String$CaseInsensitiveComparator"), (1, .class_ 1107), (0, u "java/io/Serializable"), (0, .class_ 1109), (0, u "java/lang/Comparable"), (0, .class_ 1111), (0, u "java/lang/constant/Constable"), (0, .class_ 1113), (0, u "java/lang/constant/ConstantDesc"), (2, u "serialVersionUID"), (0, u "J"), (3, u "REPL"), (0, u "C"), (2, u "LATIN1"), (1, u "UTF16"), (105, u "(Ljava/lang/StringBuilder;)V")] 217

def k7m0 : Method := { name := "<init>", desc := "()V", sig := { parameters := [], returnType := none }, accessFlags := 1, code := none }
def k7c1 : Code := { maxStack := 5, maxLocals := 2, code := jdk_42_method_3_code, exceptionTable := #[], attributes := #[] }
def k7m1 : Method := { name := "<init>", desc := "([C)V", sig := { parameters := [(.array .char)], returnType := none }, accessFlags := 1, code := some k7c1 }
def k7c2 : Code := { maxStack := 3, maxLocals := 2, code := jdk_42_method_53_code, exceptionTable := #[], attributes := #[] }
def k7m2 : Method := { name := "<init>", desc := "(Ljava/lang/StringBuilder;)V", sig := { parameters := [(.object "java/lang/StringBuilder")], returnType := none }, accessFlags := 1, code := some k7c2 }
def k7c3 : Code := { maxStack := 2, maxLocals := 1, code := jdk_42_method_54_code, exceptionTable := #[], attributes := #[] }
def k7m3 : Method := { name := "length", desc := "()I", sig := { parameters := [], returnType := some .int }, accessFlags := 1, code := some k7c3 }
def k7c4 : Code := { maxStack := 2, maxLocals := 3, code := jdk_42_method_66_code, exceptionTable := #[], attributes := #[] }
def k7m4 : Method := { name := "equals", desc := "(Ljava/lang/Object;)Z", sig := { parameters := [(.object "java/lang/Object")], returnType := some .boolean }, accessFlags := 1, code := some k7c4 }
def k7c5 : Code := { maxStack := 5, maxLocals := 4, code := jdk_42_method_147_code, exceptionTable := #[], attributes := #[] }
def k7m5 : Method := { name := "getBytes", desc := "([BIB)V", sig := { parameters := [(.array .byte), .int, .byte], returnType := none }, accessFlags := 0, code := some k7c5 }
def k7c6 : Code := { maxStack := 4, maxLocals := 6, code := jdk_42_method_149_code, exceptionTable := #[], attributes := #[] }
def k7m6 : Method := { name := "<init>", desc := "([CIILjava/lang/Void;)V", sig := { parameters := [(.array .char), .int, .int, (.object "java/lang/Void")], returnType := none }, accessFlags := 2, code := some k7c6 }
def k7c7 : Code := { maxStack := 5, maxLocals := 5, code := jdk_42_method_150_code, exceptionTable := #[], attributes := #[] }
def k7m7 : Method := { name := "<init>", desc := "(Ljava/lang/AbstractStringBuilder;Ljava/lang/Void;)V", sig := { parameters := [(.object "java/lang/AbstractStringBuilder"), (.object "java/lang/Void")], returnType := none }, accessFlags := 0, code := some k7c7 }
def k7c8 : Code := { maxStack := 1, maxLocals := 1, code := jdk_42_method_152_code, exceptionTable := #[], attributes := #[] }
def k7m8 : Method := { name := "coder", desc := "()B", sig := { parameters := [], returnType := some .byte }, accessFlags := 0, code := some k7c8 }
/-- java/lang/String -/
def k7 : Class := { plain "java/lang/String" (some 0) with
  accessFlags := 49
  interfaces := #[2, 3, 4, 5, 6]
  cf := some (fileOf pool7 10 #[.nestMembers #[1103]] #[{ accessFlags := 1, nameIndex := 5, descriptorIndex := 6, attributes := #[] }, { accessFlags := 1, nameIndex := 5, descriptorIndex := 1010, attributes := #[] }, { accessFlags := 1, nameIndex := 5, descriptorIndex := 1233, attributes := #[] }, { accessFlags := 1, nameIndex := 507, descriptorIndex := 334, attributes := #[] }, { accessFlags := 1, nameIndex := 543, descriptorIndex := 573, attributes := #[] }, { accessFlags := 0, nameIndex := 532, descriptorIndex := 821, attributes := #[] }, { accessFlags := 2, nameIndex := 5, descriptorIndex := 29, attributes := #[] }, { accessFlags := 0, nameIndex := 5, descriptorIndex := 491, attributes := #[] }, { accessFlags := 0, nameIndex := 17, descriptorIndex := 337, attributes := #[] }] 49 2 #[1106, 1108, 575, 1110, 1112] #[{ accessFlags := 18, nameIndex := 13, descriptorIndex := 14, attributes := #[] }, { accessFlags := 18, nameIndex := 17, descriptorIndex := 18, attributes := #[] }, { accessFlags := 2, nameIndex := 21, descriptorIndex := 22, attributes := #[] }, { accessFlags := 2, nameIndex := 25, descriptorIndex := 26, attributes := #[] }, { accessFlags := 26, nameIndex := 1116, descriptorIndex := 1117, attributes := #[] }, { accessFlags := 24, nameIndex := 40, descriptorIndex := 26, attributes := #[] }, { accessFlags := 26, nameIndex := 1101, descriptorIndex := 1102, attributes := #[] }, { accessFlags := 26, nameIndex := 1121, descriptorIndex := 1122, attributes := #[] }, { accessFlags := 25, nameIndex := 599, descriptorIndex := 600, attributes := #[] }, { accessFlags := 24, nameIndex := 1125, descriptorIndex := 18, attributes := #[] }, { accessFlags := 24, nameIndex := 1127, descriptorIndex := 18, attributes := #[] }])
  fields := #[{ name := "value", type := (.array .byte), accessFlags := 18, slot := 0, constantValue := 0 }, { name := "coder", type := .byte, accessFlags := 18, slot := 1, constantValue := 0 }, { name := "hash", type := .int, accessFlags := 2, slot := 2, constantValue := 0 }, { name := "hashIsZero", type := .boolean, accessFlags := 2, slot := 3, constantValue := 0 }, { name := "serialVersionUID", type := .long, accessFlags := 26, slot := 0, constantValue := 0 }, { name := "COMPACT_STRINGS", type := .boolean, accessFlags := 24, slot := 1, constantValue := 0 }, { name := "serialPersistentFields", type := (.array (.object "java/io/ObjectStreamField")), accessFlags := 26, slot := 2, constantValue := 0 }, { name := "REPL", type := .char, accessFlags := 26, slot := 3, constantValue := 0 }, { name := "CASE_INSENSITIVE_ORDER", type := (.object "java/util/Comparator"), accessFlags := 25, slot := 4, constantValue := 0 }, { name := "LATIN1", type := .byte, accessFlags := 24, slot := 5, constantValue := 0 }, { name := "UTF16", type := .byte, accessFlags := 24, slot := 6, constantValue := 0 }]
  methods := #[k7m0, k7m1, k7m2, k7m3, k7m4, k7m5, k7m6, k7m7, k7m8]
  instanceTypes := #[(.array .byte), .byte, .int, .boolean]
  staticTypes := #[.long, .boolean, (.array (.object "java/io/ObjectStreamField")), .char, (.object "java/util/Comparator"), .byte, .byte]
  resolved := Array.replicate 1451 none
  statics := some 0 }

def pool8 : Array CpInfo := pool [(6, .class_ 8), (1, u "java/lang/Object"), (0, u "<init>"), (0, u "()V"), (1, .class_ 14), (1, u "java/lang/StringUTF16"), (31, u "$assertionsDisabled"), (0, u "Z"), (13, u "HI_BYTE_SHIFT"), (0, u "I"), (2, u "LO_BYTE_SHIFT"), (49, .methodref 12 116), (0, .nameAndType 117 118), (0, u "compress"), (0, u "([CI[BII)I"), (3, u "([CII)[B"), (138, u "coderFromArrayLen"), (0, u "([BI)B"), (106, .class_ 371), (1, u "java/lang/StringUTF16$LinesSpliterator"), (58, u "MAX_LENGTH"), (196, .class_ 628), (0, u "java/lang/StringUTF16$CodePointsSpliterator"), (0, .class_ 630), (0, u "java/lang/StringUTF16$CharsSpliterator")] 4

def k8m0 : Method := { name := "<init>", desc := "()V", sig := { parameters := [], returnType := none }, accessFlags := 0, code := none }
def k8c1 : Code := { maxStack := 2, maxLocals := 2, code := jdk_52_method_15_code, exceptionTable := #[], attributes := #[] }
def k8m1 : Method := { name := "coderFromArrayLen", desc := "([BI)B", sig := { parameters := [(.array .byte), .int], returnType := some .byte }, accessFlags := 8, code := some k8c1 }
def k8c2 : Code := { maxStack := 5, maxLocals := 6, code := jdk_52_method_16_code, exceptionTable := #[], attributes := #[] }
def k8m2 : Method := { name := "compress", desc := "([CII)[B", sig := { parameters := [(.array .char), .int, .int], returnType := some (.array .byte) }, accessFlags := 9, code := some k8c2 }
def k8c3 : Code := { maxStack := 3, maxLocals := 7, code := jdk_52_method_21_code, exceptionTable := #[], attributes := #[] }
def k8m3 : Method := { name := "compress", desc := "([CI[BII)I", sig := { parameters := [(.array .char), .int, (.array .byte), .int, .int], returnType := some .int }, accessFlags := 9, code := some k8c3 }
/-- java/lang/StringUTF16 -/
def k8 : Class := { plain "java/lang/StringUTF16" (some 0) with
  accessFlags := 48
  interfaces := #[]
  cf := some (fileOf pool8 12 #[.nestMembers #[627, 629, 369]] #[{ accessFlags := 0, nameIndex := 9, descriptorIndex := 10, attributes := #[] }, { accessFlags := 8, nameIndex := 261, descriptorIndex := 262, attributes := #[] }, { accessFlags := 9, nameIndex := 117, descriptorIndex := 122, attributes := #[] }, { accessFlags := 9, nameIndex := 117, descriptorIndex := 118, attributes := #[] }] 48 6 #[] #[{ accessFlags := 26, nameIndex := 61, descriptorIndex := 62, attributes := #[] }, { accessFlags := 26, nameIndex := 65, descriptorIndex := 62, attributes := #[] }, { accessFlags := 24, nameIndex := 430, descriptorIndex := 62, attributes := #[] }, { accessFlags := 4120, nameIndex := 46, descriptorIndex := 47, attributes := #[] }])
  fields := #[{ name := "HI_BYTE_SHIFT", type := .int, accessFlags := 26, slot := 0, constantValue := 0 }, { name := "LO_BYTE_SHIFT", type := .int, accessFlags := 26, slot := 1, constantValue := 0 }, { name := "MAX_LENGTH", type := .int, accessFlags := 24, slot := 2, constantValue := 0 }, { name := "$assertionsDisabled", type := .boolean, accessFlags := 4120, slot := 3, constantValue := 0 }]
  methods := #[k8m0, k8m1, k8m2, k8m3]
  instanceTypes := #[]
  staticTypes := #[.int, .int, .int, .boolean]
  resolved := Array.replicate 635 none
  statics := none }

def pool9 : Array CpInfo := pool [(1, .methodref 2 3), (0, .class_ 4), (0, .nameAndType 5 6), (0, u "java/lang/Object"), (0, u "<init>"), (0, u "()V"), (0, .fieldref 8 9), (0, .class_ 10), (0, .nameAndType 11 12), (0, u "java/lang/Throwable"), (0, u "cause"), (0, u "Ljava/lang/Throwable;"), (0, .fieldref 8 14), (0, .nameAndType 15 16), (0, u "UNASSIGNED_STACK"), (0, u "[Ljava/lang/StackTraceElement;"), (0, .fieldref 8 18), (0, .nameAndType 19 16), (0, u "stackTrace"), (0, .fieldref 8 21), (0, .nameAndType 22 23), (0, u "SUPPRESSED_SENTINEL"), (0, u "Ljava/util/List;"), (0, .fieldref 8 25), (0, .nameAndType 26 23), (0, u "suppressedExceptions"), (0, .methodref 8 28), (0, .nameAndType 29 30), (0, u "fillInStackTrace"), (0, u "()Ljava/lang/Throwable;"), (0, .fieldref 8 32), (0, .nameAndType 33 34), (0, u "detailMessage"), (0, u "Ljava/lang/String;"), (3, u "()Ljava/lang/String;"), (2, u "getMessage"), (51, .class_ 94), (0, u "java/lang/Throwable$WrappedPrintStream"), (6, .class_ 103), (1, u "java/lang/Throwable$PrintStreamOrWriter"), (61, u "$assertionsDisabled"), (0, u "Z"), (26, .class_ 194), (0, u "java/lang/Throwable$WrappedPrintWriter"), (3, .fieldref 8 199), (0, .nameAndType 200 201), (0, u "backtrace"), (0, u "Ljava/lang/Object;"), (0, .methodref 8 203), (0, .nameAndType 29 204), (0, u "(I)Ljava/lang/Throwable;"), (6, u "depth"), (0, u "I"), (10, u "(Ljava/lang/String;)V"), (45, .class_ 271), (1, u "java/lang/Throwable$SentinelHolder"), (32, u "EMPTY_THROWABLE_ARRAY"), (0, u "[Ljava/lang/Throwable;"), (12, .class_ 319), (0, u "java/io/Serializable"), (0, u "serialVersionUID"), (0, u "J"), (5, u "NULL_CAUSE_MESSAGE"), (0, u "SELF_SUPPRESSION_MESSAGE"), (0, u "CAUSE_CAPTION"), (0, u "SUPPRESSED_CAPTION")] 73

def k9c0 : Code := { maxStack := 2, maxLocals := 1, code := jdk_78_method_1_code, exceptionTable := #[], attributes := #[] }
def k9m0 : Method := { name := "<init>", desc := "()V", sig := { parameters := [], returnType := none }, accessFlags := 1, code := some k9c0 }
def k9c1 : Code := { maxStack := 2, maxLocals := 2, code := jdk_78_method_2_code, exceptionTable := #[], attributes := #[] }
def k9m1 : Method := { name := "<init>", desc := "(Ljava/lang/String;)V", sig := { parameters := [(.object "java/lang/String")], returnType := none }, accessFlags := 1, code := some k9c1 }
def k9c2 : Code := { maxStack := 1, maxLocals := 1, code := jdk_78_method_6_code, exceptionTable := #[], attributes := #[] }
def k9m2 : Method := { name := "getMessage", desc := "()Ljava/lang/String;", sig := { parameters := [], returnType := some (.object "java/lang/String") }, accessFlags := 1, code := some k9c2 }
def k9c3 : Code := { maxStack := 2, maxLocals := 1, code := jdk_78_method_18_code, exceptionTable := #[], attributes := #[] }
def k9m3 : Method := { name := "fillInStackTrace", desc := "()Ljava/lang/Throwable;", sig := { parameters := [], returnType := some (.object "java/lang/Throwable") }, accessFlags := 33, code := some k9c3 }
def k9m4 : Method := { name := "fillInStackTrace", desc := "(I)Ljava/lang/Throwable;", sig := { parameters := [.int], returnType := some (.object "java/lang/Throwable") }, accessFlags := 258, code := none }
/-- java/lang/Throwable -/
def k9 : Class := { plain "java/lang/Throwable" (some 0) with
  accessFlags := 33
  interfaces := #[2]
  cf := some (fileOf pool9 8 #[.nestMembers #[193, 93, 101, 269]] #[{ accessFlags := 1, nameIndex := 5, descriptorIndex := 6, attributes := #[] }, { accessFlags := 1, nameIndex := 5, descriptorIndex := 223, attributes := #[] }, { accessFlags := 1, nameIndex := 41, descriptorIndex := 38, attributes := #[] }, { accessFlags := 33, nameIndex := 29, descriptorIndex := 30, attributes := #[] }, { accessFlags := 258, nameIndex := 29, descriptorIndex := 204, attributes := #[] }] 33 2 #[318] #[{ accessFlags := 26, nameIndex := 320, descriptorIndex := 321, attributes := #[] }, { accessFlags := 130, nameIndex := 200, descriptorIndex := 201, attributes := #[] }, { accessFlags := 2, nameIndex := 33, descriptorIndex := 34, attributes := #[] }, { accessFlags := 26, nameIndex := 15, descriptorIndex := 16, attributes := #[] }, { accessFlags := 2, nameIndex := 11, descriptorIndex := 12, attributes := #[] }, { accessFlags := 2, nameIndex := 19, descriptorIndex := 16, attributes := #[] }, { accessFlags := 130, nameIndex := 211, descriptorIndex := 212, attributes := #[] }, { accessFlags := 26, nameIndex := 22, descriptorIndex := 23, attributes := #[] }, { accessFlags := 2, nameIndex := 26, descriptorIndex := 23, attributes := #[] }, { accessFlags := 26, nameIndex := 327, descriptorIndex := 34, attributes := #[] }, { accessFlags := 26, nameIndex := 328, descriptorIndex := 34, attributes := #[] }, { accessFlags := 26, nameIndex := 329, descriptorIndex := 34, attributes := #[] }, { accessFlags := 26, nameIndex := 330, descriptorIndex := 34, attributes := #[] }, { accessFlags := 26, nameIndex := 304, descriptorIndex := 305, attributes := #[] }, { accessFlags := 4120, nameIndex := 165, descriptorIndex := 166, attributes := #[] }])
  fields := #[{ name := "serialVersionUID", type := .long, accessFlags := 26, slot := 0, constantValue := 0 }, { name := "backtrace", type := (.object "java/lang/Object"), accessFlags := 130, slot := 0, constantValue := 0 }, { name := "detailMessage", type := (.object "java/lang/String"), accessFlags := 2, slot := 1, constantValue := 0 }, { name := "UNASSIGNED_STACK", type := (.array (.object "java/lang/StackTraceElement")), accessFlags := 26, slot := 1, constantValue := 0 }, { name := "cause", type := (.object "java/lang/Throwable"), accessFlags := 2, slot := 2, constantValue := 0 }, { name := "stackTrace", type := (.array (.object "java/lang/StackTraceElement")), accessFlags := 2, slot := 3, constantValue := 0 }, { name := "depth", type := .int, accessFlags := 130, slot := 4, constantValue := 0 }, { name := "SUPPRESSED_SENTINEL", type := (.object "java/util/List"), accessFlags := 26, slot := 2, constantValue := 0 }, { name := "suppressedExceptions", type := (.object "java/util/List"), accessFlags := 2, slot := 5, constantValue := 0 }, { name := "NULL_CAUSE_MESSAGE", type := (.object "java/lang/String"), accessFlags := 26, slot := 3, constantValue := 0 }, { name := "SELF_SUPPRESSION_MESSAGE", type := (.object "java/lang/String"), accessFlags := 26, slot := 4, constantValue := 0 }, { name := "CAUSE_CAPTION", type := (.object "java/lang/String"), accessFlags := 26, slot := 5, constantValue := 0 }, { name := "SUPPRESSED_CAPTION", type := (.object "java/lang/String"), accessFlags := 26, slot := 6, constantValue := 0 }, { name := "EMPTY_THROWABLE_ARRAY", type := (.array (.object "java/lang/Throwable")), accessFlags := 26, slot := 7, constantValue := 0 }, { name := "$assertionsDisabled", type := .boolean, accessFlags := 4120, slot := 8, constantValue := 0 }]
  methods := #[k9m0, k9m1, k9m2, k9m3, k9m4]
  instanceTypes := #[(.object "java/lang/Object"), (.object "java/lang/String"), (.object "java/lang/Throwable"), (.array (.object "java/lang/StackTraceElement")), .int, (.object "java/util/List")]
  staticTypes := #[.long, (.array (.object "java/lang/StackTraceElement")), (.object "java/util/List"), (.object "java/lang/String"), (.object "java/lang/String"), (.object "java/lang/String"), (.object "java/lang/String"), (.array (.object "java/lang/Throwable")), .boolean]
  resolved := Array.replicate 404 none
  statics := some 1 }

def pool10 : Array CpInfo := pool [(2, .class_ 4), (1, u "java/lang/Throwable"), (0, u "<init>"), (0, u "()V"), (0, .methodref 2 8), (0, .nameAndType 5 9), (0, u "(Ljava/lang/String;)V"), (9, .class_ 20), (0, u "java/lang/Exception"), (0, u "serialVersionUID"), (0, u "J")] 17

def k10m0 : Method := { name := "<init>", desc := "()V", sig := { parameters := [], returnType := none }, accessFlags := 1, code := none }
def k10c1 : Code := { maxStack := 2, maxLocals := 2, code := jdk_59_method_2_code, exceptionTable := #[], attributes := #[] }
def k10m1 : Method := { name := "<init>", desc := "(Ljava/lang/String;)V", sig := { parameters := [(.object "java/lang/String")], returnType := none }, accessFlags := 1, code := some k10c1 }
/-- java/lang/Exception -/
def k10 : Class := { plain "java/lang/Exception" (some 9) with
  accessFlags := 33
  interfaces := #[]
  cf := some (fileOf pool10 19 #[] #[{ accessFlags := 1, nameIndex := 5, descriptorIndex := 6, attributes := #[] }, { accessFlags := 1, nameIndex := 5, descriptorIndex := 9, attributes := #[] }] 33 2 #[] #[{ accessFlags := 24, nameIndex := 21, descriptorIndex := 22, attributes := #[] }])
  fields := #[{ name := "serialVersionUID", type := .long, accessFlags := 24, slot := 0, constantValue := 0 }]
  methods := #[k10m0, k10m1]
  instanceTypes := #[(.object "java/lang/Object"), (.object "java/lang/String"), (.object "java/lang/Throwable"), (.array (.object "java/lang/StackTraceElement")), .int, (.object "java/util/List")]
  staticTypes := #[.long]
  resolved := Array.replicate 40 none
  statics := none }

def pool11 : Array CpInfo := pool [(2, .class_ 4), (1, u "java/lang/Exception"), (0, u "<init>"), (0, u "()V"), (0, .methodref 2 8), (0, .nameAndType 5 9), (0, u "(Ljava/lang/String;)V"), (9, .class_ 20), (0, u "java/lang/RuntimeException"), (0, u "serialVersionUID"), (0, u "J")] 17

def k11m0 : Method := { name := "<init>", desc := "()V", sig := { parameters := [], returnType := none }, accessFlags := 1, code := none }
def k11c1 : Code := { maxStack := 2, maxLocals := 2, code := jdk_58_method_2_code, exceptionTable := #[], attributes := #[] }
def k11m1 : Method := { name := "<init>", desc := "(Ljava/lang/String;)V", sig := { parameters := [(.object "java/lang/String")], returnType := none }, accessFlags := 1, code := some k11c1 }
/-- java/lang/RuntimeException -/
def k11 : Class := { plain "java/lang/RuntimeException" (some 10) with
  accessFlags := 33
  interfaces := #[]
  cf := some (fileOf pool11 19 #[] #[{ accessFlags := 1, nameIndex := 5, descriptorIndex := 6, attributes := #[] }, { accessFlags := 1, nameIndex := 5, descriptorIndex := 9, attributes := #[] }] 33 2 #[] #[{ accessFlags := 24, nameIndex := 21, descriptorIndex := 22, attributes := #[] }])
  fields := #[{ name := "serialVersionUID", type := .long, accessFlags := 24, slot := 0, constantValue := 0 }]
  methods := #[k11m0, k11m1]
  instanceTypes := #[(.object "java/lang/Object"), (.object "java/lang/String"), (.object "java/lang/Throwable"), (.array (.object "java/lang/StackTraceElement")), .int, (.object "java/util/List")]
  staticTypes := #[.long]
  resolved := Array.replicate 40 none
  statics := none }

def pool12 : Array CpInfo := pool [(2, .class_ 4), (1, u "java/lang/RuntimeException"), (0, u "<init>"), (0, u "()V"), (0, .methodref 2 8), (0, .nameAndType 5 9), (0, u "(Ljava/lang/String;)V"), (6, .class_ 17), (0, u "java/lang/IllegalArgumentException"), (0, u "serialVersionUID"), (0, u "J")] 15

def k12m0 : Method := { name := "<init>", desc := "()V", sig := { parameters := [], returnType := none }, accessFlags := 1, code := none }
def k12c1 : Code := { maxStack := 2, maxLocals := 2, code := jdk_57_method_2_code, exceptionTable := #[], attributes := #[] }
def k12m1 : Method := { name := "<init>", desc := "(Ljava/lang/String;)V", sig := { parameters := [(.object "java/lang/String")], returnType := none }, accessFlags := 1, code := some k12c1 }
/-- java/lang/IllegalArgumentException -/
def k12 : Class := { plain "java/lang/IllegalArgumentException" (some 11) with
  accessFlags := 33
  interfaces := #[]
  cf := some (fileOf pool12 16 #[] #[{ accessFlags := 1, nameIndex := 5, descriptorIndex := 6, attributes := #[] }, { accessFlags := 1, nameIndex := 5, descriptorIndex := 9, attributes := #[] }] 33 2 #[] #[{ accessFlags := 26, nameIndex := 18, descriptorIndex := 19, attributes := #[] }])
  fields := #[{ name := "serialVersionUID", type := .long, accessFlags := 26, slot := 0, constantValue := 0 }]
  methods := #[k12m0, k12m1]
  instanceTypes := #[(.object "java/lang/Object"), (.object "java/lang/String"), (.object "java/lang/Throwable"), (.array (.object "java/lang/StackTraceElement")), .int, (.object "java/util/List")]
  staticTypes := #[.long]
  resolved := Array.replicate 35 none
  statics := none }

def pool13 : Array CpInfo := pool [(1, .methodref 2 3), (0, .class_ 4), (0, .nameAndType 5 6), (0, u "java/lang/IllegalArgumentException"), (0, u "<init>"), (0, u "(Ljava/lang/String;)V"), (0, .fieldref 8 9), (0, .class_ 10), (0, .nameAndType 11 12), (0, u "com/example/modelwright/modelwright/FilterException"), (0, u "key"), (0, u "Ljava/lang/String;"), (0, .class_ 14), (0, u "java/lang/StringBuilder"), (0, .methodref 13 16), (0, .nameAndType 5 17), (0, u "()V"), (0, .string 19), (0, u "Cannot filter by "), (0, .methodref 13 21), (0, .nameAndType 22 23), (0, u "append"), (0, u "(Ljava/lang/String;)Ljava/lang/StringBuilder;"), (0, .string 25), (0, u ": "), (0, .methodref 13 27), (0, .nameAndType 28 29), (0, u "toString"), (0, u "()Ljava/lang/String;"), (0, .methodref 8 31), (0, .nameAndType 5 32), (0, u "(Ljava/lang/String;Ljava/lang/String;)V"), (2, u "serialVersionUID"), (0, u "J"), (5, u "ofFilterKey"), (0, u "(Ljava/lang/String;Ljava/lang/String;)Lcom/example/modelwright/modelwright/FilterException;")] 3

def k13c0 : Code := { maxStack := 2, maxLocals := 3, code := prog_3_method_1_code, exceptionTable := #[], attributes := #[] }
def k13m0 : Method := { name := "<init>", desc := "(Ljava/lang/String;Ljava/lang/String;)V", sig := { parameters := [(.object "java/lang/String"), (.object "java/lang/String")], returnType := none }, accessFlags := 2, code := some k13c0 }
def k13c1 : Code := { maxStack := 5, maxLocals := 2, code := prog_3_method_2_code, exceptionTable := #[], attributes := #[] }
def k13m1 : Method := { name := "ofFilterKey", desc := "(Ljava/lang/String;Ljava/lang/String;)Lcom/example/modelwright/modelwright/FilterException;", sig := { parameters := [(.object "java/lang/String"), (.object "java/lang/String")], returnType := some (.object "com/example/modelwright/modelwright/FilterException") }, accessFlags := 8, code := some k13c1 }
def k13c2 : Code := { maxStack := 1, maxLocals := 1, code := prog_3_method_4_code, exceptionTable := #[], attributes := #[] }
def k13m2 : Method := { name := "key", desc := "()Ljava/lang/String;", sig := { parameters := [], returnType := some (.object "java/lang/String") }, accessFlags := 1, code := some k13c2 }
/-- com/example/modelwright/modelwright/FilterException -/
def k13 : Class := { plain "com/example/modelwright/modelwright/FilterException" (some 12) with
  accessFlags := 49
  interfaces := #[]
  cf := some (fileOf pool13 8 #[] #[{ accessFlags := 2, nameIndex := 5, descriptorIndex := 32, attributes := #[] }, { accessFlags := 8, nameIndex := 42, descriptorIndex := 43, attributes := #[] }, { accessFlags := 1, nameIndex := 11, descriptorIndex := 29, attributes := #[] }] 49 2 #[] #[{ accessFlags := 26, nameIndex := 35, descriptorIndex := 36, attributes := #[] }, { accessFlags := 18, nameIndex := 11, descriptorIndex := 12, attributes := #[] }])
  fields := #[{ name := "serialVersionUID", type := .long, accessFlags := 26, slot := 0, constantValue := 0 }, { name := "key", type := (.object "java/lang/String"), accessFlags := 18, slot := 6, constantValue := 0 }]
  methods := #[k13m0, k13m1, k13m2]
  instanceTypes := #[(.object "java/lang/Object"), (.object "java/lang/String"), (.object "java/lang/Throwable"), (.array (.object "java/lang/StackTraceElement")), .int, (.object "java/util/List"), (.object "java/lang/String")]
  staticTypes := #[.long]
  resolved := Array.replicate 47 none
  statics := none }

def pool14 : Array CpInfo := pool [(1, .class_ 2), (0, u "java/lang/Appendable"), (0, .class_ 4), (0, u "java/lang/Object")] 9

/-- java/lang/Appendable -/
def k14 : Class := { plain "java/lang/Appendable" (some 0) with
  accessFlags := 1537
  interfaces := #[]
  cf := some (fileOf pool14 1 #[] #[] 1537 3 #[] #[])
  fields := #[]
  methods := #[]
  instanceTypes := #[]
  staticTypes := #[]
  resolved := Array.replicate 14 none
  statics := none }

def pool15 : Array CpInfo := pool [(1, .class_ 2), (0, u "java/lang/String"), (0, .methodref 4 5), (0, .class_ 6), (0, .nameAndType 7 8), (0, u "java/lang/Object"), (0, u "<init>"), (0, u "()V"), (1, .class_ 12), (1, u "java/lang/AbstractStringBuilder"), (0, u "EMPTYVALUE"), (0, u "[B"), (0, .fieldref 10 16), (0, .nameAndType 17 14), (0, u "value"), (0, .fieldref 1 19), (0, .nameAndType 20 21), (0, u "COMPACT_STRINGS"), (0, u "Z"), (0, .fieldref 10 23), (0, .nameAndType 24 25), (0, u "coder"), (0, u "B"), (6, .methodref 1 33), (0, .nameAndType 34 35), (0, u "length"), (0, u "()I"), (3, .integer 2147483647), (0, .methodref 1 41), (0, .nameAndType 24 42), (0, u "()B"), (2, u "append"), (0, u "(Ljava/lang/String;)Ljava/lang/AbstractStringBuilder;"), (1, .class_ 49), (0, u "java/lang/CharSequence"), (19, u "(Ljava/lang/String;)V"), (5, u "maybeLatin1"), (3, .fieldref 10 80), (0, .nameAndType 81 82), (0, u "count"), (0, u "I"), (2, u "isLatin1"), (0, u "()Z"), (13, .methodref 10 101), (0, .nameAndType 102 103), (0, u "ensureCapacityInternal"), (0, u "(I)V"), (0, .methodref 10 105), (0, .nameAndType 106 107), (0, u "newCapacity"), (0, u "(I)I"), (0, .methodref 109 110), (0, .class_ 111), (0, .nameAndType 112 113), (0, u "java/util/Arrays"), (0, u "copyOf"), (0, u "([BI)[B"), (0, .methodref 115 116), (0, .class_ 117), (0, .nameAndType 118 119), (0, u "jdk/internal/util/ArraysSupport"), (0, u "newLength"), (0, u "(III)I"), (88, .methodref 10 209), (0, .nameAndType 210 211), (0, u "putStringAt"), (0, u "(ILjava/lang/String;)V"), (5, u "inflateIfNeededFor"), (2, .nameAndType 221 222), (0, u "getBytes"), (0, u "([BIB)V"), (174, .methodref 10 398), (0, .nameAndType 217 69), (0, .methodref 1 220), (3, u "()[B"), (40, .class_ 445), (0, u "java/lang/Appendable"), (106, u "getValue")] 56

def k15m0 : Method := { name := "<init>", desc := "()V", sig := { parameters := [], returnType := none }, accessFlags := 0, code := none }
def k15c1 : Code := { maxStack := 2, maxLocals := 2, code := jdk_68_method_2_code, exceptionTable := #[], attributes := #[] }
def k15m1 : Method := { name := "<init>", desc := "(I)V", sig := { parameters := [.int], returnType := none }, accessFlags := 0, code := some k15c1 }
def k15c2 : Code := { maxStack := 1, maxLocals := 1, code := jdk_68_method_6_code, exceptionTable := #[], attributes := #[] }
def k15m2 : Method := { name := "length", desc := "()I", sig := { parameters := [], returnType := some .int }, accessFlags := 1, code := some k15c2 }
def k15c3 : Code := { maxStack := 4, maxLocals := 3, code := jdk_68_method_9_code, exceptionTable := #[], attributes := #[] }
def k15m3 : Method := { name := "ensureCapacityInternal", desc := "(I)V", sig := { parameters := [.int], returnType := none }, accessFlags := 2, code := some k15c3 }
def k15c4 : Code := { maxStack := 5, maxLocals := 6, code := jdk_68_method_10_code, exceptionTable := #[], attributes := #[] }
def k15m4 : Method := { name := "newCapacity", desc := "(I)I", sig := { parameters := [.int], returnType := some .int }, accessFlags := 2, code := some k15c4 }
def k15c5 : Code := { maxStack := 3, maxLocals := 3, code := jdk_68_method_22_code, exceptionTable := #[], attributes := #[] }
def k15m5 : Method := { name := "append", desc := "(Ljava/lang/String;)Ljava/lang/AbstractStringBuilder;", sig := { parameters := [(.object "java/lang/String")], returnType := some (.object "java/lang/AbstractStringBuilder") }, accessFlags := 1, code := some k15c5 }
def k15c6 : Code := { maxStack := 1, maxLocals := 1, code := jdk_68_method_64_code, exceptionTable := #[], attributes := #[] }
def k15m6 : Method := { name := "getValue", desc := "()[B", sig := { parameters := [], returnType := some (.array .byte) }, accessFlags := 16, code := some k15c6 }
def k15c7 : Code := { maxStack := 1, maxLocals := 1, code := jdk_68_method_68_code, exceptionTable := #[], attributes := #[] }
def k15m7 : Method := { name := "isLatin1", desc := "()Z", sig := { parameters := [], returnType := some .boolean }, accessFlags := 16, code := some k15c7 }
def k15c8 : Code := { maxStack := 2, maxLocals := 2, code := jdk_68_method_71_code, exceptionTable := #[], attributes := #[] }
def k15m8 : Method := { name := "inflateIfNeededFor", desc := "(Ljava/lang/String;)V", sig := { parameters := [(.object "java/lang/String")], returnType := none }, accessFlags := 2, code := some k15c8 }
def k15c9 : Code := { maxStack := 4, maxLocals := 3, code := jdk_68_method_73_code, exceptionTable := #[], attributes := #[] }
def k15m9 : Method := { name := "putStringAt", desc := "(ILjava/lang/String;)V", sig := { parameters := [.int, (.object "java/lang/String")], returnType := none }, accessFlags := 2, code := some k15c9 }
/-- java/lang/AbstractStringBuilder -/
def k15 : Class := { plain "java/lang/AbstractStringBuilder" (some 0) with
  accessFlags := 1056
  interfaces := #[14, 4]
  cf := some (fileOf pool15 10 #[] #[{ accessFlags := 0, nameIndex := 7, descriptorIndex := 8, attributes := #[] }, { accessFlags := 0, nameIndex := 7, descriptorIndex := 103, attributes := #[] }, { accessFlags := 1, nameIndex := 34, descriptorIndex := 35, attributes := #[] }, { accessFlags := 2, nameIndex := 102, descriptorIndex := 103, attributes := #[] }, { accessFlags := 2, nameIndex := 106, descriptorIndex := 107, attributes := #[] }, { accessFlags := 1, nameIndex := 45, descriptorIndex := 46, attributes := #[] }, { accessFlags := 16, nameIndex := 552, descriptorIndex := 403, attributes := #[] }, { accessFlags := 16, nameIndex := 85, descriptorIndex := 86, attributes := #[] }, { accessFlags := 2, nameIndex := 217, descriptorIndex := 69, attributes := #[] }, { accessFlags := 2, nameIndex := 210, descriptorIndex := 211, attributes := #[] }] 1056 4 #[444, 48] #[{ accessFlags := 0, nameIndex := 17, descriptorIndex := 14, attributes := #[] }, { accessFlags := 0, nameIndex := 24, descriptorIndex := 25, attributes := #[] }, { accessFlags := 0, nameIndex := 75, descriptorIndex := 21, attributes := #[] }, { accessFlags := 0, nameIndex := 81, descriptorIndex := 82, attributes := #[] }, { accessFlags := 26, nameIndex := 13, descriptorIndex := 14, attributes := #[] }])
  fields := #[{ name := "value", type := (.array .byte), accessFlags := 0, slot := 0, constantValue := 0 }, { name := "coder", type := .byte, accessFlags := 0, slot := 1, constantValue := 0 }, { name := "maybeLatin1", type := .boolean, accessFlags := 0, slot := 2, constantValue := 0 }, { name := "count", type := .int, accessFlags := 0, slot := 3, constantValue := 0 }, { name := "EMPTYVALUE", type := (.array .byte), accessFlags := 26, slot := 0, constantValue := 0 }]
  methods := #[k15m0, k15m1, k15m2, k15m3, k15m4, k15m5, k15m6, k15m7, k15m8, k15m9]
  instanceTypes := #[(.array .byte), .byte, .boolean, .int]
  staticTypes := #[(.array .byte)]
  resolved := Array.replicate 609 none
  statics := none }

def pool16 : Array CpInfo := pool [(1, .methodref 2 3), (0, .class_ 4), (0, .nameAndType 5 6), (0, u "java/lang/AbstractStringBuilder"), (0, u "<init>"), (0, u "(I)V"), (11, .class_ 20), (1, u "java/lang/String"), (3, .class_ 26), (1, u "java/lang/StringBuilder"), (0, u "append"), (0, u "(Ljava/lang/String;)Ljava/lang/StringBuilder;"), (0, .methodref 2 30), (0, .nameAndType 27 31), (0, u "(Ljava/lang/String;)Ljava/lang/AbstractStringBuilder;"), (105, .methodref 18 138), (0, .nameAndType 5 139), (0, u "(Ljava/lang/StringBuilder;)V"), (5, u "()V"), (10, u "()I"), (186, .methodref 2 344), (0, .nameAndType 345 156), (0, u "length"), (3, .class_ 350), (0, u "java/lang/Appendable"), (0, .class_ 352), (0, u "java/io/Serializable"), (0, .class_ 354), (0, u "java/lang/Comparable"), (0, .class_ 356), (0, u "java/lang/CharSequence"), (0, u "serialVersionUID"), (0, u "J"), (40, u "toString"), (0, u "()Ljava/lang/String;")] 21

def k16c0 : Code := { maxStack := 2, maxLocals := 1, code := jdk_67_method_1_code, exceptionTable := #[], attributes := #[] }
def k16m0 : Method := { name := "<init>", desc := "()V", sig := { parameters := [], returnType := none }, accessFlags := 1, code := some k16c0 }
def k16c1 : Code := { maxStack := 2, maxLocals := 2, code := jdk_67_method_7_code, exceptionTable := #[], attributes := #[] }
def k16m1 : Method := { name := "append", desc := "(Ljava/lang/String;)Ljava/lang/StringBuilder;", sig := { parameters := [(.object "java/lang/String")], returnType := some (.object "java/lang/StringBuilder") }, accessFlags := 1, code := some k16c1 }
def k16c2 : Code := { maxStack := 3, maxLocals := 1, code := jdk_67_method_42_code, exceptionTable := #[], attributes := #[] }
def k16m2 : Method := { name := "toString", desc := "()Ljava/lang/String;", sig := { parameters := [], returnType := some (.object "java/lang/String") }, accessFlags := 1, code := some k16c2 }
def k16c3 : Code := { maxStack := 1, maxLocals := 1, code := jdk_67_method_93_code, exceptionTable := #[], attributes := #[] }
def k16m3 : Method := { name := "length", desc := "()I", sig := { parameters := [], returnType := some .int }, accessFlags := 4161, code := some k16c3 }
/-- java/lang/StringBuilder -/
def k16 : Class := { plain "java/lang/StringBuilder" (some 15) with
  accessFlags := 49
  interfaces := #[14, 2, 3, 4]
  cf := some (fileOf pool16 24 #[] #[{ accessFlags := 1, nameIndex := 5, descriptorIndex := 145, attributes := #[] }, { accessFlags := 1, nameIndex := 27, descriptorIndex := 28, attributes := #[] }, { accessFlags := 1, nameIndex := 399, descriptorIndex := 400, attributes := #[] }, { accessFlags := 4161, nameIndex := 345, descriptorIndex := 156, attributes := #[] }] 49 2 #[349, 351, 353, 355] #[{ accessFlags := 24, nameIndex := 357, descriptorIndex := 358, attributes := #[] }])
  fields := #[{ name := "serialVersionUID", type := .long, accessFlags := 24, slot := 0, constantValue := 0 }]
  methods := #[k16m0, k16m1, k16m2, k16m3]
  instanceTypes := #[(.array .byte), .byte, .boolean, .int]
  staticTypes := #[.long]
  resolved := Array.replicate 422 none
  statics := none }

def pool17 : Array CpInfo := pool [(9, u "<init>"), (6, .class_ 18), (1, u "java/lang/Object"), (0, u "()V"), (1, .class_ 23), (1, u "jdk/internal/util/ArraysSupport"), (0, u "LOG2_ARRAY_LONG_INDEX_SCALE"), (0, u "I"), (2, u "U"), (0, u "Ljdk/internal/misc/Unsafe;"), (8, u "BIG_ENDIAN"), (0, u "Z"), (8, u "LOG2_BYTE_BIT_SIZE"), (4, u "LOG2_ARRAY_INT_INDEX_SCALE"), (54, u "JLA"), (0, u "Ljdk/internal/access/JavaLangAccess;"), (11, u "LOG2_ARRAY_BOOLEAN_INDEX_SCALE"), (9, u "LOG2_ARRAY_BYTE_INDEX_SCALE"), (5, u "LOG2_ARRAY_CHAR_INDEX_SCALE"), (5, u "LOG2_ARRAY_SHORT_INDEX_SCALE"), (18, u "LOG2_ARRAY_FLOAT_INDEX_SCALE"), (24, u "LOG2_ARRAY_DOUBLE_INDEX_SCALE"), (6, .methodref 195 196), (0, .class_ 197), (0, .nameAndType 198 199), (0, u "java/lang/Math"), (0, u "max"), (0, u "(II)I"), (0, .integer 2147483639), (76, u "T_BOOLEAN"), (2, u "T_CHAR"), (1, u "T_FLOAT"), (1, u "T_DOUBLE"), (1, u "T_BYTE"), (1, u "T_SHORT"), (1, u "T_INT"), (1, u "T_LONG"), (1, u "SOFT_MAX_ARRAY_LENGTH"), (56, u "newLength"), (0, u "(III)I")] 25

def k17m0 : Method := { name := "<init>", desc := "()V", sig := { parameters := [], returnType := none }, accessFlags := 2, code := none }
def k17c1 : Code := { maxStack := 3, maxLocals := 4, code := jdk_48_method_27_code, exceptionTable := #[], attributes := #[] }
def k17m1 : Method := { name := "newLength", desc := "(III)I", sig := { parameters := [.int, .int, .int], returnType := some .int }, accessFlags := 9, code := some k17c1 }
/-- jdk/internal/util/ArraysSupport -/
def k17 : Class := { plain "jdk/internal/util/ArraysSupport" (some 0) with
  accessFlags := 33
  interfaces := #[]
  cf := some (fileOf pool17 21 #[] #[{ accessFlags := 2, nameIndex := 9, descriptorIndex := 19, attributes := #[] }, { accessFlags := 9, nameIndex := 351, descriptorIndex := 352, attributes := #[] }] 33 16 #[] #[{ accessFlags := 24, nameIndex := 28, descriptorIndex := 29, attributes := #[] }, { accessFlags := 26, nameIndex := 38, descriptorIndex := 39, attributes := #[] }, { accessFlags := 25, nameIndex := 121, descriptorIndex := 25, attributes := #[] }, { accessFlags := 25, nameIndex := 131, descriptorIndex := 25, attributes := #[] }, { accessFlags := 25, nameIndex := 137, descriptorIndex := 25, attributes := #[] }, { accessFlags := 25, nameIndex := 143, descriptorIndex := 25, attributes := #[] }, { accessFlags := 25, nameIndex := 53, descriptorIndex := 25, attributes := #[] }, { accessFlags := 25, nameIndex := 24, descriptorIndex := 25, attributes := #[] }, { accessFlags := 25, nameIndex := 162, descriptorIndex := 25, attributes := #[] }, { accessFlags := 25, nameIndex := 187, descriptorIndex := 25, attributes := #[] }, { accessFlags := 26, nameIndex := 48, descriptorIndex := 25, attributes := #[] }, { accessFlags := 25, nameIndex := 277, descriptorIndex := 25, attributes := #[] }, { accessFlags := 25, nameIndex := 280, descriptorIndex := 25, attributes := #[] }, { accessFlags := 25, nameIndex := 282, descriptorIndex := 25, attributes := #[] }, { accessFlags := 25, nameIndex := 284, descriptorIndex := 25, attributes := #[] }, { accessFlags := 25, nameIndex := 286, descriptorIndex := 25, attributes := #[] }, { accessFlags := 25, nameIndex := 288, descriptorIndex := 25, attributes := #[] }, { accessFlags := 25, nameIndex := 290, descriptorIndex := 25, attributes := #[] }, { accessFlags := 25, nameIndex := 292, descriptorIndex := 25, attributes := #[] }, { accessFlags := 26, nameIndex := 108, descriptorIndex := 109, attributes := #[] }, { accessFlags := 25, nameIndex := 294, descriptorIndex := 25, attributes := #[] }])
  fields := #[{ name := "U", type := (.object "jdk/internal/misc/Unsafe"), accessFlags := 24, slot := 0, constantValue := 0 }, { name := "BIG_ENDIAN", type := .boolean, accessFlags := 26, slot := 1, constantValue := 0 }, { name := "LOG2_ARRAY_BOOLEAN_INDEX_SCALE", type := .int, accessFlags := 25, slot := 2, constantValue := 0 }, { name := "LOG2_ARRAY_BYTE_INDEX_SCALE", type := .int, accessFlags := 25, slot := 3, constantValue := 0 }, { name := "LOG2_ARRAY_CHAR_INDEX_SCALE", type := .int, accessFlags := 25, slot := 4, constantValue := 0 }, { name := "LOG2_ARRAY_SHORT_INDEX_SCALE", type := .int, accessFlags := 25, slot := 5, constantValue := 0 }, { name := "LOG2_ARRAY_INT_INDEX_SCALE", type := .int, accessFlags := 25, slot := 6, constantValue := 0 }, { name := "LOG2_ARRAY_LONG_INDEX_SCALE", type := .int, accessFlags := 25, slot := 7, constantValue := 0 }, { name := "LOG2_ARRAY_FLOAT_INDEX_SCALE", type := .int, accessFlags := 25, slot := 8, constantValue := 0 }, { name := "LOG2_ARRAY_DOUBLE_INDEX_SCALE", type := .int, accessFlags := 25, slot := 9, constantValue := 0 }, { name := "LOG2_BYTE_BIT_SIZE", type := .int, accessFlags := 26, slot := 10, constantValue := 0 }, { name := "T_BOOLEAN", type := .int, accessFlags := 25, slot := 11, constantValue := 0 }, { name := "T_CHAR", type := .int, accessFlags := 25, slot := 12, constantValue := 0 }, { name := "T_FLOAT", type := .int, accessFlags := 25, slot := 13, constantValue := 0 }, { name := "T_DOUBLE", type := .int, accessFlags := 25, slot := 14, constantValue := 0 }, { name := "T_BYTE", type := .int, accessFlags := 25, slot := 15, constantValue := 0 }, { name := "T_SHORT", type := .int, accessFlags := 25, slot := 16, constantValue := 0 }, { name := "T_INT", type := .int, accessFlags := 25, slot := 17, constantValue := 0 }, { name := "T_LONG", type := .int, accessFlags := 25, slot := 18, constantValue := 0 }, { name := "JLA", type := (.object "jdk/internal/access/JavaLangAccess"), accessFlags := 26, slot := 19, constantValue := 0 }, { name := "SOFT_MAX_ARRAY_LENGTH", type := .int, accessFlags := 25, slot := 20, constantValue := 0 }]
  methods := #[k17m0, k17m1]
  instanceTypes := #[]
  staticTypes := #[(.object "jdk/internal/misc/Unsafe"), .boolean, .int, .int, .int, .int, .int, .int, .int, .int, .int, .int, .int, .int, .int, .int, .int, .int, .int, (.object "jdk/internal/access/JavaLangAccess"), .int]
  resolved := Array.replicate 378 none
  statics := none }

def pool18 : Array CpInfo := pool [(1, .class_ 2), (0, u "java/lang/Math"), (1, .class_ 6), (1, u "java/lang/Object"), (0, u "<init>"), (0, u "()V"), (89, .class_ 100), (1, u "java/lang/Math$RandomNumberGeneratorHolder"), (71, u "negativeZeroFloatBits"), (0, u "J"), (2, u "negativeZeroDoubleBits"), (21, u "max"), (2, u "min"), (43, u "$assertionsDisabled"), (0, u "Z"), (88, u "(II)I"), (2, u "twoToTheDoubleScaleDown"), (0, u "D"), (4, u "twoToTheDoubleScaleUp"), (9, u "E"), (3, u "PI"), (2, u "TAU"), (2, u "DEGREES_TO_RADIANS"), (0, u "RADIANS_TO_DEGREES")] 94

def k18m0 : Method := { name := "<init>", desc := "()V", sig := { parameters := [], returnType := none }, accessFlags := 2, code := none }
def k18c1 : Code := { maxStack := 2, maxLocals := 2, code := jdk_29_method_65_code, exceptionTable := #[], attributes := #[] }
def k18m1 : Method := { name := "max", desc := "(II)I", sig := { parameters := [.int, .int], returnType := some .int }, accessFlags := 9, code := some k18c1 }
def k18c2 : Code := { maxStack := 2, maxLocals := 2, code := jdk_29_method_69_code, exceptionTable := #[], attributes := #[] }
def k18m2 : Method := { name := "min", desc := "(II)I", sig := { parameters := [.int, .int], returnType := some .int }, accessFlags := 9, code := some k18c2 }
/-- java/lang/Math -/
def k18 : Class := { plain "java/lang/Math" (some 0) with
  accessFlags := 49
  interfaces := #[]
  cf := some (fileOf pool18 1 #[.nestMembers #[98]] #[{ accessFlags := 2, nameIndex := 7, descriptorIndex := 8, attributes := #[] }, { accessFlags := 9, nameIndex := 198, descriptorIndex := 335, attributes := #[] }, { accessFlags := 9, nameIndex := 201, descriptorIndex := 335, attributes := #[] }] 49 4 #[] #[{ accessFlags := 25, nameIndex := 354, descriptorIndex := 339, attributes := #[] }, { accessFlags := 25, nameIndex := 358, descriptorIndex := 339, attributes := #[] }, { accessFlags := 25, nameIndex := 361, descriptorIndex := 339, attributes := #[] }, { accessFlags := 26, nameIndex := 364, descriptorIndex := 339, attributes := #[] }, { accessFlags := 26, nameIndex := 365, descriptorIndex := 339, attributes := #[] }, { accessFlags := 26, nameIndex := 172, descriptorIndex := 173, attributes := #[] }, { accessFlags := 26, nameIndex := 176, descriptorIndex := 173, attributes := #[] }, { accessFlags := 8, nameIndex := 344, descriptorIndex := 339, attributes := #[] }, { accessFlags := 8, nameIndex := 338, descriptorIndex := 339, attributes := #[] }, { accessFlags := 4120, nameIndex := 245, descriptorIndex := 246, attributes := #[] }])
  fields := #[{ name := "E", type := .double, accessFlags := 25, slot := 0, constantValue := 0 }, { name := "PI", type := .double, accessFlags := 25, slot := 1, constantValue := 0 }, { name := "TAU", type := .double, accessFlags := 25, slot := 2, constantValue := 0 }, { name := "DEGREES_TO_RADIANS", type := .double, accessFlags := 26, slot := 3, constantValue := 0 }, { name := "RADIANS_TO_DEGREES", type := .double, accessFlags := 26, slot := 4, constantValue := 0 }, { name := "negativeZeroFloatBits", type := .long, accessFlags := 26, slot := 5, constantValue := 0 }, { name := "negativeZeroDoubleBits", type := .long, accessFlags := 26, slot := 6, constantValue := 0 }, { name := "twoToTheDoubleScaleUp", type := .double, accessFlags := 8, slot := 7, constantValue := 0 }, { name := "twoToTheDoubleScaleDown", type := .double, accessFlags := 8, slot := 8, constantValue := 0 }, { name := "$assertionsDisabled", type := .boolean, accessFlags := 4120, slot := 9, constantValue := 0 }]
  methods := #[k18m0, k18m1, k18m2]
  instanceTypes := #[]
  staticTypes := #[.double, .double, .double, .double, .double, .long, .long, .double, .double, .boolean]
  resolved := Array.replicate 460 none
  statics := none }

def pool19 : Array CpInfo := pool [(2, .class_ 4), (1, u "java/lang/Object"), (0, u "<init>"), (0, u "()V"), (7, .class_ 16), (1, u "java/util/Arrays"), (57, .class_ 76), (1, u "java/util/Arrays$NaturalOrder"), (36, .class_ 115), (1, u "java/util/Arrays$LegacyMergeSort"), (1, u "Z"), (21, u "copyOfRange"), (10, .methodref 151 152), (0, .class_ 153), (0, .nameAndType 154 155), (0, u "java/lang/System"), (0, u "arraycopy"), (0, u "(Ljava/lang/Object;ILjava/lang/Object;II)V"), (146, u "copyOf"), (1, .methodref 305 306), (0, .class_ 307), (0, .nameAndType 308 309), (0, u "java/lang/Math"), (0, u "min"), (0, u "(II)I"), (29, .methodref 14 340), (0, .nameAndType 341 342), (0, u "copyOfRangeByte"), (0, u "([BII)[B"), (0, .methodref 14 344), (0, .nameAndType 345 346), (0, u "checkLength"), (0, u "(II)V"), (28, .class_ 376), (0, u "java/util/Arrays$ArrayList"), (68, u "$assertionsDisabled"), (269, u "MIN_ARRAY_SORT_GRAN"), (0, u "I"), (2, u "INSERTIONSORT_THRESHOLD"), (149, u "([BI)[B"), (105, .class_ 976), (0, u "java/util/Arrays$ArrayItr")] 52

def k19m0 : Method := { name := "<init>", desc := "()V", sig := { parameters := [], returnType := none }, accessFlags := 2, code := none }
def k19c1 : Code := { maxStack := 6, maxLocals := 3, code := jdk_65_method_121_code, exceptionTable := #[], attributes := #[] }
def k19m1 : Method := { name := "copyOf", desc := "([BI)[B", sig := { parameters := [(.array .byte), .int], returnType := some (.array .byte) }, accessFlags := 9, code := some k19c1 }
def k19c2 : Code := { maxStack := 4, maxLocals := 2, code := jdk_65_method_131_code, exceptionTable := #[], attributes := #[] }
def k19m2 : Method := { name := "checkLength", desc := "(II)V", sig := { parameters := [.int, .int], returnType := none }, accessFlags := 10, code := some k19c2 }
def k19c3 : Code := { maxStack := 3, maxLocals := 3, code := jdk_65_method_132_code, exceptionTable := #[], attributes := #[] }
def k19m3 : Method := { name := "copyOfRange", desc := "([BII)[B", sig := { parameters := [(.array .byte), .int, .int], returnType := some (.array .byte) }, accessFlags := 9, code := some k19c3 }
def k19c4 : Code := { maxStack := 6, maxLocals := 5, code := jdk_65_method_133_code, exceptionTable := #[], attributes := #[] }
def k19m4 : Method := { name := "copyOfRangeByte", desc := "([BII)[B", sig := { parameters := [(.array .byte), .int, .int], returnType := some (.array .byte) }, accessFlags := 10, code := some k19c4 }
/-- java/util/Arrays -/
def k19 : Class := { plain "java/util/Arrays" (some 0) with
  accessFlags := 49
  interfaces := #[]
  cf := some (fileOf pool19 14 #[.nestMembers #[975, 375, 113, 74]] #[{ accessFlags := 2, nameIndex := 5, descriptorIndex := 6, attributes := #[] }, { accessFlags := 9, nameIndex := 302, descriptorIndex := 869, attributes := #[] }, { accessFlags := 10, nameIndex := 345, descriptorIndex := 346, attributes := #[] }, { accessFlags := 9, nameIndex := 139, descriptorIndex := 342, attributes := #[] }, { accessFlags := 10, nameIndex := 341, descriptorIndex := 342, attributes := #[] }] 49 2 #[] #[{ accessFlags := 26, nameIndex := 715, descriptorIndex := 716, attributes := #[] }, { accessFlags := 26, nameIndex := 719, descriptorIndex := 716, attributes := #[] }, { accessFlags := 4120, nameIndex := 445, descriptorIndex := 117, attributes := #[] }])
  fields := #[{ name := "MIN_ARRAY_SORT_GRAN", type := .int, accessFlags := 26, slot := 0, constantValue := 0 }, { name := "INSERTIONSORT_THRESHOLD", type := .int, accessFlags := 26, slot := 1, constantValue := 0 }, { name := "$assertionsDisabled", type := .boolean, accessFlags := 4120, slot := 2, constantValue := 0 }]
  methods := #[k19m0, k19m1, k19m2, k19m3, k19m4]
  instanceTypes := #[]
  staticTypes := #[.int, .int, .boolean]
  resolved := Array.replicate 1029 none
  statics := none }

def pool20 : Array CpInfo := pool [(2, .class_ 4), (1, u "java/lang/Object"), (0, u "<init>"), (0, u "()V"), (1, .class_ 10), (1, u "java/lang/System"), (0, u "allowSecurityManager"), (0, u "I"), (16, u "cons"), (0, u "Ljava/io/Console;"), (77, .class_ 110), (1, u "java/lang/System$CallersHolder"), (43, u "initialErrStream"), (0, u "Ljava/io/PrintStream;"), (19, u "security"), (0, u "Ljava/lang/SecurityManager;"), (31, .class_ 209), (0, u "java/lang/System$1"), (7, u "props"), (0, u "Ljava/util/Properties;"), (2, u "lineSeparator"), (0, u "Ljava/lang/String;"), (96, .class_ 321), (1, u "java/lang/System$LoggerFinder"), (5, .class_ 328), (0, u "java/lang/System$Logger"), (67, u "err"), (2, u "out"), (91, u "notSupportedJnuEncoding"), (15, u "in"), (17, u "initialIn"), (0, u "Ljava/io/InputStream;"), (35, u "bootLayer"), (0, u "Ljava/lang/ModuleLayer;"), (99, .class_ 664), (0, u "java/lang/System$2"), (9, u "NEVER"), (2, u "MAYBE"), (49, u "arraycopy"), (0, u "(Ljava/lang/Object;ILjava/lang/Object;II)V"), (72, .class_ 802), (0, u "java/lang/System$Logger$Level")] 31

def k20m0 : Method := { name := "<init>", desc := "()V", sig := { parameters := [], returnType := none }, accessFlags := 2, code := none }
def k20m1 : Method := { name := "arraycopy", desc := "(Ljava/lang/Object;ILjava/lang/Object;II)V", sig := { parameters := [(.object "java/lang/Object"), .int, (.object "java/lang/Object"), .int, .int], returnType := none }, accessFlags := 265, code := none }
/-- java/lang/System -/
def k20 : Class := { plain "java/lang/System" (some 0) with
  accessFlags := 49
  interfaces := #[]
  cf := some (fileOf pool20 8 #[.nestMembers #[319, 327, 801, 108, 663, 208]] #[{ accessFlags := 2, nameIndex := 5, descriptorIndex := 6, attributes := #[] }, { accessFlags := 265, nameIndex := 727, descriptorIndex := 728, attributes := #[] }] 49 2 #[] #[{ accessFlags := 25, nameIndex := 507, descriptorIndex := 526, attributes := #[] }, { accessFlags := 25, nameIndex := 399, descriptorIndex := 155, attributes := #[] }, { accessFlags := 25, nameIndex := 396, descriptorIndex := 155, attributes := #[] }, { accessFlags := 10, nameIndex := 525, descriptorIndex := 526, attributes := #[] }, { accessFlags := 26, nameIndex := 674, descriptorIndex := 12, attributes := #[] }, { accessFlags := 26, nameIndex := 677, descriptorIndex := 12, attributes := #[] }, { accessFlags := 10, nameIndex := 11, descriptorIndex := 12, attributes := #[] }, { accessFlags := 74, nameIndex := 175, descriptorIndex := 176, attributes := #[] }, { accessFlags := 10, nameIndex := 491, descriptorIndex := 222, attributes := #[] }, { accessFlags := 74, nameIndex := 29, descriptorIndex := 30, attributes := #[] }, { accessFlags := 74, nameIndex := 154, descriptorIndex := 155, attributes := #[] }, { accessFlags := 10, nameIndex := 217, descriptorIndex := 218, attributes := #[] }, { accessFlags := 10, nameIndex := 221, descriptorIndex := 222, attributes := #[] }, { accessFlags := 8, nameIndex := 562, descriptorIndex := 563, attributes := #[] }])
  fields := #[{ name := "in", type := (.object "java/io/InputStream"), accessFlags := 25, slot := 0, constantValue := 0 }, { name := "out", type := (.object "java/io/PrintStream"), accessFlags := 25, slot := 1, constantValue := 0 }, { name := "err", type := (.object "java/io/PrintStream"), accessFlags := 25, slot := 2, constantValue := 0 }, { name := "initialIn", type := (.object "java/io/InputStream"), accessFlags := 10, slot := 3, constantValue := 0 }, { name := "NEVER", type := .int, accessFlags := 26, slot := 4, constantValue := 0 }, { name := "MAYBE", type := .int, accessFlags := 26, slot := 5, constantValue := 0 }, { name := "allowSecurityManager", type := .int, accessFlags := 10, slot := 6, constantValue := 0 }, { name := "security", type := (.object "java/lang/SecurityManager"), accessFlags := 74, slot := 7, constantValue := 0 }, { name := "notSupportedJnuEncoding", type := (.object "java/lang/String"), accessFlags := 10, slot := 8, constantValue := 0 }, { name := "cons", type := (.object "java/io/Console"), accessFlags := 74, slot := 9, constantValue := 0 }, { name := "initialErrStream", type := (.object "java/io/PrintStream"), accessFlags := 74, slot := 10, constantValue := 0 }, { name := "props", type := (.object "java/util/Properties"), accessFlags := 10, slot := 11, constantValue := 0 }, { name := "lineSeparator", type := (.object "java/lang/String"), accessFlags := 10, slot := 12, constantValue := 0 }, { name := "bootLayer", type := (.object "java/lang/ModuleLayer"), accessFlags := 8, slot := 13, constantValue := 0 }]
  methods := #[k20m0, k20m1]
  instanceTypes := #[]
  staticTypes := #[(.object "java/io/InputStream"), (.object "java/io/PrintStream"), (.object "java/io/PrintStream"), (.object "java/io/InputStream"), .int, .int, .int, (.object "java/lang/SecurityManager"), (.object "java/lang/String"), (.object "java/io/Console"), (.object "java/io/PrintStream"), (.object "java/util/Properties"), (.object "java/lang/String"), (.object "java/lang/ModuleLayer")]
  resolved := Array.replicate 834 none
  statics := none }

def pool21 : Array CpInfo := pool [(4, .class_ 6), (1, u "java/lang/Object"), (0, u "<init>"), (0, u "()V"), (5, .class_ 16), (1, u "java/lang/StringLatin1"), (104, u "$assertionsDisabled"), (0, u "Z"), (98, .class_ 223), (1, u "java/lang/StringLatin1$LinesSpliterator"), (57, u "equals"), (0, u "([B[B)Z"), (107, .class_ 391), (0, u "java/lang/StringLatin1$CharsSpliterator")] 3

def k21m0 : Method := { name := "<init>", desc := "()V", sig := { parameters := [], returnType := none }, accessFlags := 0, code := none }
def k21c1 : Code := { maxStack := 3, maxLocals := 3, code := jdk_43_method_13_code, exceptionTable := #[], attributes := #[] }
def k21m1 : Method := { name := "equals", desc := "([B[B)Z", sig := { parameters := [(.array .byte), (.array .byte)], returnType := some .boolean }, accessFlags := 9, code := some k21c1 }
/-- java/lang/StringLatin1 -/
def k21 : Class := { plain "java/lang/StringLatin1" (some 0) with
  accessFlags := 48
  interfaces := #[]
  cf := some (fileOf pool21 14 #[.nestMembers #[390, 221]] #[{ accessFlags := 0, nameIndex := 7, descriptorIndex := 8, attributes := #[] }, { accessFlags := 9, nameIndex := 281, descriptorIndex := 282, attributes := #[] }] 48 4 #[] #[{ accessFlags := 4120, nameIndex := 121, descriptorIndex := 122, attributes := #[] }])
  fields := #[{ name := "$assertionsDisabled", type := .boolean, accessFlags := 4120, slot := 0, constantValue := 0 }]
  methods := #[k21m0, k21m1]
  instanceTypes := #[]
  staticTypes := #[.boolean]
  resolved := Array.replicate 395 none
  statics := none }

def pool22 : Array CpInfo := pool [(2, .class_ 4), (1, u "java/lang/Object"), (0, u "<init>"), (0, u "()V"), (17, .class_ 26), (1, u "jdk/internal/util/Preconditions"), (28, .class_ 56), (0, u "jdk/internal/util/Preconditions$4"), (57, .class_ 115), (0, u "jdk/internal/util/Preconditions$1"), (7, u "SIOOBE_FORMATTER"), (0, u "Ljava/util/function/BiFunction;"), (0, .class_ 126), (0, u "jdk/internal/util/Preconditions$2"), (3, u "AIOOBE_FORMATTER"), (0, .class_ 132), (0, u "jdk/internal/util/Preconditions$3"), (3, u "IOOBE_FORMATTER")] 57

def k22m0 : Method := { name := "<init>", desc := "()V", sig := { parameters := [], returnType := none }, accessFlags := 1, code := none }
/-- jdk/internal/util/Preconditions -/
def k22 : Class := { plain "jdk/internal/util/Preconditions" (some 0) with
  accessFlags := 33
  interfaces := #[]
  cf := some (fileOf pool22 24 #[.nestMembers #[55, 131, 125, 114]] #[{ accessFlags := 1, nameIndex := 5, descriptorIndex := 6, attributes := #[] }] 33 2 #[] #[{ accessFlags := 25, nameIndex := 123, descriptorIndex := 124, attributes := #[] }, { accessFlags := 25, nameIndex := 130, descriptorIndex := 124, attributes := #[] }, { accessFlags := 25, nameIndex := 136, descriptorIndex := 124, attributes := #[] }])
  fields := #[{ name := "SIOOBE_FORMATTER", type := (.object "java/util/function/BiFunction"), accessFlags := 25, slot := 0, constantValue := 0 }, { name := "AIOOBE_FORMATTER", type := (.object "java/util/function/BiFunction"), accessFlags := 25, slot := 1, constantValue := 0 }, { name := "IOOBE_FORMATTER", type := (.object "java/util/function/BiFunction"), accessFlags := 25, slot := 2, constantValue := 0 }]
  methods := #[k22m0]
  instanceTypes := #[]
  staticTypes := #[(.object "java/util/function/BiFunction"), (.object "java/util/function/BiFunction"), (.object "java/util/function/BiFunction")]
  resolved := Array.replicate 194 none
  statics := some 2 }

def pool23 : Array CpInfo := pool [(2, .class_ 4), (1, u "java/lang/Object"), (0, u "<init>"), (0, u "()V"), (12, .class_ 20), (0, u "java/util/Collections"), (63, u "r"), (0, u "Ljava/util/Random;"), (80, .class_ 167), (0, u "java/util/Collections$UnmodifiableCollection"), (6, .class_ 175), (0, u "java/util/Collections$UnmodifiableSequencedCollection"), (6, .class_ 183), (0, u "java/util/Collections$UnmodifiableSet"), (6, .class_ 191), (0, u "java/util/Collections$UnmodifiableSequencedSet"), (6, .class_ 199), (0, u "java/util/Collections$UnmodifiableSortedSet"), (6, .class_ 207), (0, u "java/util/Collections$UnmodifiableNavigableSet"), (4, .class_ 213), (0, u "java/util/Collections$UnmodifiableList"), (1, .class_ 216), (0, u "java/util/Collections$UnmodifiableRandomAccessList"), (6, .class_ 224), (0, u "java/util/Collections$UnmodifiableMap"), (6, .class_ 232), (0, u "java/util/Collections$UnmodifiableSequencedMap"), (4, .class_ 238), (0, u "java/util/Collections$UnmodifiableSortedMap"), (6, .class_ 246), (0, u "java/util/Collections$UnmodifiableNavigableMap"), (3, .class_ 251), (0, u "java/util/Collections$SynchronizedCollection"), (4, .class_ 257), (0, u "java/util/Collections$SynchronizedSet"), (4, .class_ 263), (0, u "java/util/Collections$SynchronizedSortedSet"), (1, .class_ 266), (0, u "java/util/Collections$SynchronizedNavigableSet"), (1, .class_ 269), (0, u "java/util/Collections$SynchronizedRandomAccessList"), (1, .class_ 272), (0, u "java/util/Collections$SynchronizedList"), (5, .class_ 279), (0, u "java/util/Collections$SynchronizedMap"), (1, .class_ 282), (0, u "java/util/Collections$SynchronizedSortedMap"), (1, .class_ 285), (0, u "java/util/Collections$SynchronizedNavigableMap"), (1, .class_ 288), (0, u "java/util/Collections$CheckedCollection"), (11, .class_ 301), (0, u "java/util/Collections$CheckedQueue"), (3, .class_ 306), (0, u "java/util/Collections$CheckedSet"), (3, .class_ 311), (0, u "java/util/Collections$CheckedSortedSet"), (3, .class_ 316), (0, u "java/util/Collections$CheckedNavigableSet"), (3, .class_ 321), (0, u "java/util/Collections$CheckedRandomAccessList"), (3, .class_ 326), (0, u "java/util/Collections$CheckedList"), (1, .class_ 329), (0, u "java/util/Collections$CheckedMap"), (3, .class_ 334), (0, u "java/util/Collections$CheckedSortedMap"), (3, .class_ 339), (0, u "java/util/Collections$CheckedNavigableMap"), (4, .class_ 346), (1, u "java/util/Collections$EmptyIterator"), (3, .class_ 352), (1, u "java/util/Collections$EmptyListIterator"), (2, .class_ 357), (1, u "java/util/Collections$EmptyEnumeration"), (4, u "EMPTY_SET"), (0, u "Ljava/util/Set;"), (6, u "EMPTY_LIST"), (0, u "Ljava/util/List;"), (2, u "EMPTY_MAP"), (0, u "Ljava/util/Map;"), (4, .class_ 381), (0, u "java/util/Collections$SingletonSet"), (2, .class_ 385), (0, u "java/util/Collections$1"), (1, .class_ 388), (0, u "java/util/Collections$2"), (1, .class_ 391), (0, u "java/util/Collections$SingletonList"), (1, .class_ 394), (0, u "java/util/Collections$SingletonMap"), (22, .class_ 418), (0, u "java/util/Collections$CopiesList"), (4, .class_ 425), (1, u "java/util/Collections$ReverseComparator"), (8, .class_ 435), (0, u "java/util/Collections$ReverseComparator2"), (6, .class_ 443), (0, u "java/util/Collections$3"), (25, .class_ 470), (0, u "java/util/Collections$SetFromMap"), (2, .class_ 474), (0, u "java/util/Collections$SequencedSetFromMap"), (3, .class_ 479), (0, u "java/util/Collections$AsLIFOQueue"), (11, .class_ 492), (0, u "java/util/Collections$EmptySet"), (1, .class_ 495), (0, u "java/util/Collections$EmptyList"), (1, .class_ 498), (0, u "java/util/Collections$EmptyMap"), (1, u "BINARYSEARCH_THRESHOLD"), (0, u "I"), (2, u "REVERSE_THRESHOLD"), (1, u "SHUFFLE_THRESHOLD"), (1, u "FILL_THRESHOLD"), (1, u "ROTATE_THRESHOLD"), (1, u "COPY_THRESHOLD"), (1, u "REPLACEALL_THRESHOLD"), (1, u "INDEXOFSUBLIST_THRESHOLD"), (333, .class_ 851), (0, u "java/util/Collections$CheckedMap$CheckedEntrySet"), (0, .class_ 853), (0, u "java/util/Collections$CheckedMap$CheckedEntrySet$CheckedEntry"), (0, .class_ 855), (0, u "java/util/Collections$CheckedMap$CheckedEntrySet$1"), (0, .class_ 857), (0, u "java/util/Collections$CheckedList$1"), (0, .class_ 859), (0, u "java/util/Collections$CheckedCollection$1"), (0, .class_ 861), (0, u "java/util/Collections$UnmodifiableNavigableMap$EmptyNavigableMap"), (0, .class_ 863), (0, u "java/util/Collections$UnmodifiableMap$UnmodifiableEntrySet"), (0, .class_ 865), (0, u "java/util/Collections$UnmodifiableMap$UnmodifiableEntrySet$UnmodifiableEntry"), (0, .class_ 867), (0, u "java/util/Collections$UnmodifiableMap$UnmodifiableEntrySet$UnmodifiableEntrySetSpliterator"), (0, .class_ 869), (0, u "java/util/Collections$UnmodifiableMap$UnmodifiableEntrySet$1"), (0, .class_ 871), (0, u "java/util/Collections$UnmodifiableList$1"), (0, .class_ 873), (0, u "java/util/Collections$UnmodifiableNavigableSet$EmptyNavigableSet"), (0, .class_ 875), (0, u "java/util/Collections$UnmodifiableCollection$1")] 57

def k23m0 : Method := { name := "<init>", desc := "()V", sig := { parameters := [], returnType := none }, accessFlags := 2, code := none }
/-- java/util/Collections -/
def k23 : Class := { plain "java/util/Collections" (some 0) with
  accessFlags := 33
  interfaces := #[]
  cf := some (fileOf pool23 19 #[.nestMembers #[478, 473, 469, 434, 423, 417, 393, 390, 380, 497, 494, 491, 355, 350, 344, 338, 333, 328, 850, 852, 854, 320, 325, 856, 315, 310, 305, 300, 287, 858, 284, 281, 278, 268, 271, 265, 262, 256, 250, 245, 860, 237, 231, 223, 862, 864, 866, 868, 215, 212, 870, 206, 872, 198, 190, 182, 174, 166, 874, 442, 387, 384]] #[{ accessFlags := 2, nameIndex := 5, descriptorIndex := 6, attributes := #[] }] 33 2 #[] #[{ accessFlags := 26, nameIndex := 500, descriptorIndex := 501, attributes := #[] }, { accessFlags := 26, nameIndex := 504, descriptorIndex := 501, attributes := #[] }, { accessFlags := 26, nameIndex := 506, descriptorIndex := 501, attributes := #[] }, { accessFlags := 26, nameIndex := 508, descriptorIndex := 501, attributes := #[] }, { accessFlags := 26, nameIndex := 510, descriptorIndex := 501, attributes := #[] }, { accessFlags := 26, nameIndex := 512, descriptorIndex := 501, attributes := #[] }, { accessFlags := 26, nameIndex := 514, descriptorIndex := 501, attributes := #[] }, { accessFlags := 26, nameIndex := 516, descriptorIndex := 501, attributes := #[] }, { accessFlags := 10, nameIndex := 84, descriptorIndex := 85, attributes := #[] }, { accessFlags := 25, nameIndex := 362, descriptorIndex := 363, attributes := #[] }, { accessFlags := 25, nameIndex := 370, descriptorIndex := 371, attributes := #[] }, { accessFlags := 25, nameIndex := 374, descriptorIndex := 375, attributes := #[] }])
  fields := #[{ name := "BINARYSEARCH_THRESHOLD", type := .int, accessFlags := 26, slot := 0, constantValue := 0 }, { name := "REVERSE_THRESHOLD", type := .int, accessFlags := 26, slot := 1, constantValue := 0 }, { name := "SHUFFLE_THRESHOLD", type := .int, accessFlags := 26, slot := 2, constantValue := 0 }, { name := "FILL_THRESHOLD", type := .int, accessFlags := 26, slot := 3, constantValue := 0 }, { name := "ROTATE_THRESHOLD", type := .int, accessFlags := 26, slot := 4, constantValue := 0 }, { name := "COPY_THRESHOLD", type := .int, accessFlags := 26, slot := 5, constantValue := 0 }, { name := "REPLACEALL_THRESHOLD", type := .int, accessFlags := 26, slot := 6, constantValue := 0 }, { name := "INDEXOFSUBLIST_THRESHOLD", type := .int, accessFlags := 26, slot := 7, constantValue := 0 }, { name := "r", type := (.object "java/util/Random"), accessFlags := 10, slot := 8, constantValue := 0 }, { name := "EMPTY_SET", type := (.object "java/util/Set"), accessFlags := 25, slot := 9, constantValue := 0 }, { name := "EMPTY_LIST", type := (.object "java/util/List"), accessFlags := 25, slot := 10, constantValue := 0 }, { name := "EMPTY_MAP", type := (.object "java/util/Map"), accessFlags := 25, slot := 11, constantValue := 0 }]
  methods := #[k23m0]
  instanceTypes := #[]
  staticTypes := #[.int, .int, .int, .int, .int, .int, .int, .int, (.object "java/util/Random"), (.object "java/util/Set"), (.object "java/util/List"), (.object "java/util/Map")]
  resolved := Array.replicate 933 none
  statics := some 3 }

def pool24 : Array CpInfo := pool [(8, .class_ 10), (1, u "java/lang/Iterable"), (24, .class_ 36), (0, u "java/lang/Object")] 25

/-- java/lang/Iterable -/
def k24 : Class := { plain "java/lang/Iterable" (some 0) with
  accessFlags := 1537
  interfaces := #[]
  cf := some (fileOf pool24 8 #[] #[] 1537 35 #[] #[])
  fields := #[]
  methods := #[]
  instanceTypes := #[]
  staticTypes := #[]
  resolved := Array.replicate 62 none
  statics := none }

def pool25 : Array CpInfo := pool [(10, .class_ 12), (1, u "java/util/Collection"), (47, .class_ 61), (0, u "java/lang/Object"), (0, .class_ 63), (0, u "java/lang/Iterable")] 51

/-- java/util/Collection -/
def k25 : Class := { plain "java/util/Collection" (some 0) with
  accessFlags := 1537
  interfaces := #[24]
  cf := some (fileOf pool25 10 #[] #[] 1537 60 #[62] #[])
  fields := #[]
  methods := #[]
  instanceTypes := #[]
  staticTypes := #[]
  resolved := Array.replicate 115 none
  statics := none }

def pool26 : Array CpInfo := pool [(2, .class_ 4), (1, u "java/lang/Object"), (0, u "<init>"), (0, u "()V"), (1, .class_ 10), (1, u "java/util/AbstractCollection"), (66, .class_ 78), (0, u "java/util/Collection")] 81

def k26m0 : Method := { name := "<init>", desc := "()V", sig := { parameters := [], returnType := none }, accessFlags := 4, code := none }
/-- java/util/AbstractCollection -/
def k26 : Class := { plain "java/util/AbstractCollection" (some 0) with
  accessFlags := 1057
  interfaces := #[25]
  cf := some (fileOf pool26 8 #[] #[{ accessFlags := 4, nameIndex := 5, descriptorIndex := 6, attributes := #[] }] 1057 2 #[77] #[])
  fields := #[]
  methods := #[k26m0]
  instanceTypes := #[]
  staticTypes := #[]
  resolved := Array.replicate 160 none
  statics := none }

def pool27 : Array CpInfo := pool [(8, .class_ 10), (1, u "java/util/SequencedCollection"), (15, .class_ 27), (0, u "java/lang/Object"), (0, .class_ 29), (0, u "java/util/Collection")] 27

/-- java/util/SequencedCollection -/
def k27 : Class := { plain "java/util/SequencedCollection" (some 0) with
  accessFlags := 1537
  interfaces := #[25]
  cf := some (fileOf pool27 8 #[] #[] 1537 26 #[28] #[])
  fields := #[]
  methods := #[]
  instanceTypes := #[]
  staticTypes := #[]
  resolved := Array.replicate 57 none
  statics := none }

def pool28 : Array CpInfo := pool [(8, .class_ 10), (1, u "java/util/List"), (92, .class_ 104), (0, u "java/lang/Object"), (15, .class_ 121), (0, u "java/util/SequencedCollection")] 129

/-- java/util/List -/
def k28 : Class := { plain "java/util/List" (some 0) with
  accessFlags := 1537
  interfaces := #[27]
  cf := some (fileOf pool28 8 #[] #[] 1537 103 #[120] #[])
  fields := #[]
  methods := #[]
  instanceTypes := #[]
  staticTypes := #[]
  resolved := Array.replicate 251 none
  statics := none }

def pool29 : Array CpInfo := pool [(2, .class_ 4), (1, u "java/util/AbstractCollection"), (0, u "<init>"), (0, u "()V"), (1, .class_ 10), (1, u "java/util/AbstractList"), (0, u "modCount"), (0, u "I"), (64, .class_ 78), (0, u "java/util/AbstractList$Itr"), (3, .class_ 83), (0, u "java/util/AbstractList$ListItr"), (9, .class_ 94), (0, u "java/util/AbstractList$RandomAccessSubList"), (3, .class_ 99), (0, u "java/util/AbstractList$SubList"), (33, .class_ 134), (0, u "java/util/List"), (73, .class_ 209), (0, u "java/util/AbstractList$SubList$1"), (0, .class_ 211), (0, u "java/util/AbstractList$RandomAccessSpliterator")] 6

def k29m0 : Method := { name := "<init>", desc := "()V", sig := { parameters := [], returnType := none }, accessFlags := 4, code := none }
/-- java/util/AbstractList -/
def k29 : Class := { plain "java/util/AbstractList" (some 26) with
  accessFlags := 1057
  interfaces := #[28]
  cf := some (fileOf pool29 8 #[.nestMembers #[93, 98, 208, 210, 82, 77]] #[{ accessFlags := 4, nameIndex := 5, descriptorIndex := 6, attributes := #[] }] 1057 2 #[133] #[{ accessFlags := 132, nameIndex := 11, descriptorIndex := 12, attributes := #[] }])
  fields := #[{ name := "modCount", type := .int, accessFlags := 132, slot := 0, constantValue := 0 }]
  methods := #[k29m0]
  instanceTypes := #[.int]
  staticTypes := #[]
  resolved := Array.replicate 218 none
  statics := none }

def pool30 : Array CpInfo := pool [(1, .class_ 2), (0, u "java/util/RandomAccess"), (0, .class_ 4), (0, u "java/lang/Object")] 2

/-- java/util/RandomAccess -/
def k30 : Class := { plain "java/util/RandomAccess" (some 0) with
  accessFlags := 1537
  interfaces := #[]
  cf := some (fileOf pool30 1 #[] #[] 1537 3 #[] #[])
  fields := #[]
  methods := #[]
  instanceTypes := #[]
  staticTypes := #[]
  resolved := Array.replicate 7 none
  statics := none }

def pool31 : Array CpInfo := pool [(2, .class_ 4), (1, u "java/util/AbstractList"), (0, u "<init>"), (0, u "()V"), (1, .class_ 10), (1, u "java/util/Collections"), (54, .class_ 66), (0, u "java/util/Collections$EmptyList"), (0, .class_ 68), (0, u "java/util/RandomAccess"), (0, .class_ 70), (0, u "java/io/Serializable"), (0, u "serialVersionUID"), (0, u "J")] 77

def k31m0 : Method := { name := "<init>", desc := "()V", sig := { parameters := [], returnType := none }, accessFlags := 2, code := none }
/-- java/util/Collections$EmptyList -/
def k31 : Class := { plain "java/util/Collections$EmptyList" (some 29) with
  accessFlags := 32
  interfaces := #[30, 2]
  cf := some (fileOf pool31 65 #[.nestHost 8] #[{ accessFlags := 2, nameIndex := 5, descriptorIndex := 6, attributes := #[] }] 32 2 #[67, 69] #[{ accessFlags := 26, nameIndex := 71, descriptorIndex := 72, attributes := #[] }])
  fields := #[{ name := "serialVersionUID", type := .long, accessFlags := 26, slot := 0, constantValue := 0 }]
  methods := #[k31m0]
  instanceTypes := #[.int]
  staticTypes := #[.long]
  resolved := Array.replicate 150 none
  statics := none }

def pool32 : Array CpInfo := pool [(2, .class_ 4), (1, u "java/lang/StackTraceElement"), (0, u "<init>"), (2, .class_ 10), (1, u "java/lang/Object"), (0, u "()V"), (2, u "format"), (0, u "B"), (2, u "classLoaderName"), (0, u "Ljava/lang/String;"), (2, u "moduleName"), (2, u "moduleVersion"), (12, u "declaringClass"), (4, u "methodName"), (2, u "fileName"), (2, u "lineNumber"), (0, u "I"), (65, u "declaringClassObject"), (0, u "Ljava/lang/Class;"), (33, .class_ 153), (1, u "java/lang/StackTraceElement$HashedModules"), (17, .class_ 172), (0, u "java/io/Serializable"), (0, u "NATIVE_METHOD"), (1, u "UNKNOWN_SOURCE"), (2, u "BUILTIN_CLASS_LOADER"), (1, u "JDK_NON_UPGRADEABLE_MODULE"), (1, u "serialVersionUID"), (0, u "J")] 51

def k32m0 : Method := { name := "<init>", desc := "()V", sig := { parameters := [], returnType := none }, accessFlags := 2, code := none }
/-- java/lang/StackTraceElement -/
def k32 : Class := { plain "java/lang/StackTraceElement" (some 0) with
  accessFlags := 49
  interfaces := #[2]
  cf := some (fileOf pool32 2 #[.nestMembers #[151]] #[{ accessFlags := 2, nameIndex := 5, descriptorIndex := 11, attributes := #[] }] 49 8 #[171] #[{ accessFlags := 26, nameIndex := 173, descriptorIndex := 19, attributes := #[] }, { accessFlags := 26, nameIndex := 175, descriptorIndex := 19, attributes := #[] }, { accessFlags := 130, nameIndex := 116, descriptorIndex := 117, attributes := #[] }, { accessFlags := 2, nameIndex := 18, descriptorIndex := 19, attributes := #[] }, { accessFlags := 2, nameIndex := 22, descriptorIndex := 19, attributes := #[] }, { accessFlags := 2, nameIndex := 25, descriptorIndex := 19, attributes := #[] }, { accessFlags := 2, nameIndex := 38, descriptorIndex := 19, attributes := #[] }, { accessFlags := 2, nameIndex := 43, descriptorIndex := 19, attributes := #[] }, { accessFlags := 2, nameIndex := 46, descriptorIndex := 19, attributes := #[] }, { accessFlags := 2, nameIndex := 49, descriptorIndex := 50, attributes := #[] }, { accessFlags := 2, nameIndex := 14, descriptorIndex := 15, attributes := #[] }, { accessFlags := 26, nameIndex := 178, descriptorIndex := 15, attributes := #[] }, { accessFlags := 26, nameIndex := 180, descriptorIndex := 15, attributes := #[] }, { accessFlags := 26, nameIndex := 182, descriptorIndex := 183, attributes := #[] }])
  fields := #[{ name := "NATIVE_METHOD", type := (.object "java/lang/String"), accessFlags := 26, slot := 0, constantValue := 0 }, { name := "UNKNOWN_SOURCE", type := (.object "java/lang/String"), accessFlags := 26, slot := 1, constantValue := 0 }, { name := "declaringClassObject", type := (.object "java/lang/Class"), accessFlags := 130, slot := 0, constantValue := 0 }, { name := "classLoaderName", type := (.object "java/lang/String"), accessFlags := 2, slot := 1, constantValue := 0 }, { name := "moduleName", type := (.object "java/lang/String"), accessFlags := 2, slot := 2, constantValue := 0 }, { name := "moduleVersion", type := (.object "java/lang/String"), accessFlags := 2, slot := 3, constantValue := 0 }, { name := "declaringClass", type := (.object "java/lang/String"), accessFlags := 2, slot := 4, constantValue := 0 }, { name := "methodName", type := (.object "java/lang/String"), accessFlags := 2, slot := 5, constantValue := 0 }, { name := "fileName", type := (.object "java/lang/String"), accessFlags := 2, slot := 6, constantValue := 0 }, { name := "lineNumber", type := .int, accessFlags := 2, slot := 7, constantValue := 0 }, { name := "format", type := .byte, accessFlags := 2, slot := 8, constantValue := 0 }, { name := "BUILTIN_CLASS_LOADER", type := .byte, accessFlags := 26, slot := 2, constantValue := 0 }, { name := "JDK_NON_UPGRADEABLE_MODULE", type := .byte, accessFlags := 26, slot := 3, constantValue := 0 }, { name := "serialVersionUID", type := .long, accessFlags := 26, slot := 4, constantValue := 0 }]
  methods := #[k32m0]
  instanceTypes := #[(.object "java/lang/Class"), (.object "java/lang/String"), (.object "java/lang/String"), (.object "java/lang/String"), (.object "java/lang/String"), (.object "java/lang/String"), (.object "java/lang/String"), .int, .byte]
  staticTypes := #[(.object "java/lang/String"), (.object "java/lang/String"), .byte, .byte, .long]
  resolved := Array.replicate 235 none
  statics := none }

def pool33 : Array CpInfo := pool [(1, u "java/lang/Cloneable"), (0, .class_ 1), (0, u "java/lang/Object"), (0, .class_ 3)] 3

/-- java/lang/Cloneable -/
def k33 : Class := { plain "java/lang/Cloneable" (some 0) with
  accessFlags := 1537
  interfaces := #[]
  cf := some (fileOf pool33 2 #[] #[] 1537 4 #[] #[])
  fields := #[]
  methods := #[]
  instanceTypes := #[]
  staticTypes := #[]
  resolved := Array.replicate 8 none
  statics := none }

/-- the primitive byte -/
def k34 : Class := { plain "byte" none with kind := .primitive 'B', accessFlags := 0x411 }
/-- [B -/
def k35 : Class := { plain "[B" (some 0) with kind := .array 34 .byte, interfaces := #[33, 2], accessFlags := 1041 }

/-- the primitive char -/
def k36 : Class := { plain "char" none with kind := .primitive 'C', accessFlags := 0x411 }
/-- [C -/
def k37 : Class := { plain "[C" (some 0) with kind := .array 36 .char, interfaces := #[33, 2], accessFlags := 1041 }

/-- the primitive int -/
def k38 : Class := { plain "int" none with kind := .primitive 'I', accessFlags := 0x411 }
/-- [I -/
def k39 : Class := { plain "[I" (some 0) with kind := .array 38 .int, interfaces := #[33, 2], accessFlags := 1041 }

/-- [Ljava/lang/Object; -/
def k40 : Class := { plain "[Ljava/lang/Object;" (some 0) with kind := .array 0 (.object "java/lang/Object"), interfaces := #[33, 2], accessFlags := 1041 }

/-- [Ljava/lang/StackTraceElement; -/
def k41 : Class := { plain "[Ljava/lang/StackTraceElement;" (some 0) with kind := .array 32 (.object "java/lang/StackTraceElement"), interfaces := #[33, 2], accessFlags := 1041 }

/-- [Ljava/lang/Throwable; -/
def k42 : Class := { plain "[Ljava/lang/Throwable;" (some 0) with kind := .array 9 (.object "java/lang/Throwable"), interfaces := #[33, 2], accessFlags := 1041 }

def heap : Heap := #[{ cls := 7, slots := #[.long 0, .int 1, .null, .int 0, .null, .int 0, .int 0], vm := .statics 7 },
  { cls := 9, slots := #[.long 0, .ref 4, .ref 5, .null, .null, .null, .null, .ref 6, .int 1], vm := .statics 9 },
  { cls := 22, slots := #[.null, .null, .null], vm := .statics 22 },
  { cls := 23, slots := #[.int 0, .int 0, .int 0, .int 0, .int 0, .int 0, .int 0, .int 0, .null, .null, .ref 5, .null], vm := .statics 23 },
  { cls := 41, slots := #[], vm := .none },
  { cls := 31, slots := #[.int 0], vm := .none },
  { cls := 42, slots := #[], vm := .none }]
def classes : Array Class := #[k0, k1, k2, k3, k4, k5, k6, k7, k8, k9, k10, k11, k12, k13, k14, k15, k16, k17, k18, k19, k20, k21, k22, k23, k24, k25, k26, k27, k28, k29, k30, k31, k32, k33, k34, k35, k36, k37, k38, k39, k40, k41, k42]
def interned : List (Array UInt16 × Addr) := []
def slotsUsed : Nat := 32
def theMethod : MethodId := ⟨1, 1⟩
def args0 : Array Value := #[.int 66113, .int 16961]
def aboutOver (below : List Frame) : State where
  vm := { classes := classes, interned := interned.toArray }
  heap := heap
  slotsUsed := slotsUsed
  threads := #[{ frames := .invoking theMethod args0 :: below }]
def below0 : List Frame := [.native { method := ⟨0, 0⟩, args := #[] }]
def about1 : State := aboutOver below0
def p0 : Program := .bare "" "" ""
def e0 : Env := launch0.env 0 0 0
theorem w_frames : about1.frames = Frame.invoking theMethod args0 :: below0 := rfl
set_option maxRecDepth 65536 in
theorem w_args : argsFit about1.vm theMethod args0 = true := by decide +kernel
set_option maxRecDepth 65536 in
theorem w_heap : heapFits about1 = true := by decide +kernel
set_option maxRecDepth 65536 in
theorem w_runnable : about1.curStatus? = some .runnable := by decide +kernel
set_option maxRecDepth 65536 in
theorem w_alone : about1.alone = true := by decide +kernel
set_option maxRecDepth 65536 in
theorem w_named : about1.methodNamed? x = some theMethod := by decide +kernel
set_option maxRecDepth 65536 in
theorem w_hears : about1.hears theMethod below0 = true := by decide +kernel
set_option maxRecDepth 65536 in
theorem w_ripe : about1.ripe theMethod args0 below0 = true := by decide +kernel
theorem w_running : about1.status = .running := rfl
set_option maxRecDepth 65536 in
theorem w_room : about1.hasRoom e0.platform room_1 = true :=
  launch0.hasRoom_least _ room_1 (by decide +kernel) (by decide +kernel) (by decide +kernel) (by decide +kernel) (by decide +kernel) (by decide +kernel)
theorem allAtoms_all (ts : List Jvm.Cond) (a : Array Jvm.Value) (st : Jvm.State) : (allAtoms ts).before a st = ts.all (fun c => c.before a st) := by
  induction ts with
  | nil => rfl
  | cons c t ih =>
    show (Jvm.Cond.and c (allAtoms t)).before a st = _
    rw [Jvm.Cond.before_and, ih, List.all_cons]
def words1 : List Jvm.Cond := Jvm.Cond.code x code maxLocals ret :: tables_1
/-- a 'code' word, met by the world's own term for the bytes: nothing is compared byte by byte -/
theorem code_word {y : MethodName} {bytes : ByteArray} {mx : Nat} {rt : Option FieldType} {a : Array Value} {s : State} {m : MethodId} {meth : Method} {c : Code} (h1 : s.methodNamed? y = some m) (h2 : s.vm.method? m = some meth) (h3 : meth.code = some c) (h4 : c.code = bytes)
    (h5 : (c.maxLocals == mx && c.exceptionTable.isEmpty && decide (c.maxStack ≤ mostOperands) && decide (meth.sig.returnType = rt) && !meth.locks && decide (parseMethodDescriptor y.desc = some meth.sig)) = true) : (Jvm.Cond.code y bytes mx rt).before a s = true := by
  simp only [Bool.and_eq_true, beq_iff_eq, Bool.not_eq_true', decide_eq_true_eq] at h5
  obtain ⟨⟨⟨⟨⟨g1, g2⟩, g3⟩, g4⟩, g5⟩, g6⟩ := h5
  simp [Cond.before, Cond.holds, Cond.value, h1, h2, h3, h4, g1, g2, g3, g4, g5, g6]
def isCode : Jvm.Cond → Bool
  | .code _ _ _ _ => true
  | _ => false
theorem all_split {L : List Jvm.Cond} {P : Jvm.Cond → Bool} (h1 : L.all (fun c => isCode c || P c) = true) (h2 : ∀ c ∈ L.filter isCode, P c = true) : L.all P = true := by
  refine List.all_eq_true.mpr fun c hc => ?_
  have h := List.all_eq_true.mp h1 c hc
  rcases Bool.eq_false_or_eq_true (isCode c) with hi | hi
  · exact h2 c (List.mem_filter.mpr ⟨hc, hi⟩)
  · simpa [hi] using h
set_option maxRecDepth 65536 in
theorem w_c0 : (Jvm.Cond.code x code maxLocals ret).before args0 about1 = true := code_word (m := ⟨1, 1⟩) (meth := k1m1) (c := k1c1) (by decide +kernel) rfl rfl rfl (by decide +kernel)
set_option maxRecDepth 65536 in
theorem w_c1 : (Jvm.Cond.code ({ cls := "java/lang/String", name := "<init>", desc := "([C)V" } : Jvm.MethodName) jdk_42_method_3_code (2 : Nat) (Option.none : Option Jvm.ClassFile.FieldType)).before args0 about1 = true := code_word (m := ⟨7, 1⟩) (meth := k7m1) (c := k7c1) (by decide +kernel) rfl rfl rfl (by decide +kernel)
set_option maxRecDepth 65536 in
theorem w_c2 : (Jvm.Cond.code ({ cls := "java/lang/String", name := "<init>", desc := "([CIILjava/lang/Void;)V" } : Jvm.MethodName) jdk_42_method_149_code (6 : Nat) (Option.none : Option Jvm.ClassFile.FieldType)).before args0 about1 = true := code_word (m := ⟨7, 6⟩) (meth := k7m6) (c := k7c6) (by decide +kernel) rfl rfl rfl (by decide +kernel)
set_option maxRecDepth 65536 in
theorem w_c3 : (Jvm.Cond.code ({ cls := "java/lang/Object", name := "<init>", desc := "()V" } : Jvm.MethodName) object_method_1_code (1 : Nat) (Option.none : Option Jvm.ClassFile.FieldType)).before args0 about1 = true := code_word (m := ⟨0, 0⟩) (meth := k0m0) (c := k0c0) (by decide +kernel) rfl rfl rfl (by decide +kernel)
set_option maxRecDepth 65536 in
theorem w_c4 : (Jvm.Cond.code ({ cls := "java/lang/StringUTF16", name := "compress", desc := "([CII)[B" } : Jvm.MethodName) jdk_52_method_16_code (6 : Nat) (Option.some (Jvm.ClassFile.FieldType.array Jvm.ClassFile.FieldType.byte))).before args0 about1 = true := code_word (m := ⟨8, 2⟩) (meth := k8m2) (c := k8c2) (by decide +kernel) rfl rfl rfl (by decide +kernel)
set_option maxRecDepth 65536 in
theorem w_c5 : (Jvm.Cond.code ({ cls := "java/lang/StringUTF16", name := "compress", desc := "([CI[BII)I" } : Jvm.MethodName) jdk_52_method_21_code (7 : Nat) (Option.some Jvm.ClassFile.FieldType.int)).before args0 about1 = true := code_word (m := ⟨8, 3⟩) (meth := k8m3) (c := k8c3) (by decide +kernel) rfl rfl rfl (by decide +kernel)
set_option maxRecDepth 65536 in
theorem w_c6 : (Jvm.Cond.code ({ cls := "java/lang/StringUTF16", name := "coderFromArrayLen", desc := "([BI)B" } : Jvm.MethodName) jdk_52_method_15_code (2 : Nat) (Option.some Jvm.ClassFile.FieldType.byte)).before args0 about1 = true := code_word (m := ⟨8, 1⟩) (meth := k8m1) (c := k8c1) (by decide +kernel) rfl rfl rfl (by decide +kernel)
set_option maxRecDepth 65536 in
theorem w_c7 : (Jvm.Cond.code ({ cls := "com/example/modelwright/modelwright/FilterException", name := "ofFilterKey", desc := "(Ljava/lang/String;Ljava/lang/String;)Lcom/example/modelwright/modelwright/FilterException;" } : Jvm.MethodName) prog_3_method_2_code (2 : Nat) (Option.some (Jvm.ClassFile.FieldType.object "com/example/modelwright/modelwright/FilterException"))).before args0 about1 = true := code_word (m := ⟨13, 1⟩) (meth := k13m1) (c := k13c1) (by decide +kernel) rfl rfl rfl (by decide +kernel)
set_option maxRecDepth 65536 in
theorem w_c8 : (Jvm.Cond.code ({ cls := "java/lang/StringBuilder", name := "<init>", desc := "()V" } : Jvm.MethodName) jdk_67_method_1_code (1 : Nat) (Option.none : Option Jvm.ClassFile.FieldType)).before args0 about1 = true := code_word (m := ⟨16, 0⟩) (meth := k16m0) (c := k16c0) (by decide +kernel) rfl rfl rfl (by decide +kernel)
set_option maxRecDepth 65536 in
theorem w_c9 : (Jvm.Cond.code ({ cls := "java/lang/AbstractStringBuilder", name := "<init>", desc := "(I)V" } : Jvm.MethodName) jdk_68_method_2_code (2 : Nat) (Option.none : Option Jvm.ClassFile.FieldType)).before args0 about1 = true := code_word (m := ⟨15, 1⟩) (meth := k15m1) (c := k15c1) (by decide +kernel) rfl rfl rfl (by decide +kernel)
set_option maxRecDepth 65536 in
theorem w_c10 : (Jvm.Cond.code ({ cls := "java/lang/StringBuilder", name := "append", desc := "(Ljava/lang/String;)Ljava/lang/StringBuilder;" } : Jvm.MethodName) jdk_67_method_7_code (2 : Nat) (Option.some (Jvm.ClassFile.FieldType.object "java/lang/StringBuilder"))).before args0 about1 = true := code_word (m := ⟨16, 1⟩) (meth := k16m1) (c := k16c1) (by decide +kernel) rfl rfl rfl (by decide +kernel)
set_option maxRecDepth 65536 in
theorem w_c11 : (Jvm.Cond.code ({ cls := "java/lang/AbstractStringBuilder", name := "append", desc := "(Ljava/lang/String;)Ljava/lang/AbstractStringBuilder;" } : Jvm.MethodName) jdk_68_method_22_code (3 : Nat) (Option.some (Jvm.ClassFile.FieldType.object "java/lang/AbstractStringBuilder"))).before args0 about1 = true := code_word (m := ⟨15, 5⟩) (meth := k15m5) (c := k15c5) (by decide +kernel) rfl rfl rfl (by decide +kernel)
set_option maxRecDepth 65536 in
theorem w_c12 : (Jvm.Cond.code ({ cls := "java/lang/String", name := "length", desc := "()I" } : Jvm.MethodName) jdk_42_method_54_code (1 : Nat) (Option.some Jvm.ClassFile.FieldType.int)).before args0 about1 = true := code_word (m := ⟨7, 3⟩) (meth := k7m3) (c := k7c3) (by decide +kernel) rfl rfl rfl (by decide +kernel)
set_option maxRecDepth 65536 in
theorem w_c13 : (Jvm.Cond.code ({ cls := "java/lang/String", name := "coder", desc := "()B" } : Jvm.MethodName) jdk_42_method_152_code (1 : Nat) (Option.some Jvm.ClassFile.FieldType.byte)).before args0 about1 = true := code_word (m := ⟨7, 8⟩) (meth := k7m8) (c := k7c8) (by decide +kernel) rfl rfl rfl (by decide +kernel)
set_option maxRecDepth 65536 in
theorem w_c14 : (Jvm.Cond.code ({ cls := "java/lang/AbstractStringBuilder", name := "ensureCapacityInternal", desc := "(I)V" } : Jvm.MethodName) jdk_68_method_9_code (3 : Nat) (Option.none : Option Jvm.ClassFile.FieldType)).before args0 about1 = true := code_word (m := ⟨15, 3⟩) (meth := k15m3) (c := k15c3) (by decide +kernel) rfl rfl rfl (by decide +kernel)
set_option maxRecDepth 65536 in
theorem w_c15 : (Jvm.Cond.code ({ cls := "java/lang/AbstractStringBuilder", name := "newCapacity", desc := "(I)I" } : Jvm.MethodName) jdk_68_method_10_code (6 : Nat) (Option.some Jvm.ClassFile.FieldType.int)).before args0 about1 = true := code_word (m := ⟨15, 4⟩) (meth := k15m4) (c := k15c4) (by decide +kernel) rfl rfl rfl (by decide +kernel)
set_option maxRecDepth 65536 in
theorem w_c16 : (Jvm.Cond.code ({ cls := "jdk/internal/util/ArraysSupport", name := "newLength", desc := "(III)I" } : Jvm.MethodName) jdk_48_method_27_code (4 : Nat) (Option.some Jvm.ClassFile.FieldType.int)).before args0 about1 = true := code_word (m := ⟨17, 1⟩) (meth := k17m1) (c := k17c1) (by decide +kernel) rfl rfl rfl (by decide +kernel)
set_option maxRecDepth 65536 in
theorem w_c17 : (Jvm.Cond.code ({ cls := "java/lang/Math", name := "max", desc := "(II)I" } : Jvm.MethodName) jdk_29_method_65_code (2 : Nat) (Option.some Jvm.ClassFile.FieldType.int)).before args0 about1 = true := code_word (m := ⟨18, 1⟩) (meth := k18m1) (c := k18c1) (by decide +kernel) rfl rfl rfl (by decide +kernel)
set_option maxRecDepth 65536 in
theorem w_c18 : (Jvm.Cond.code ({ cls := "java/util/Arrays", name := "copyOf", desc := "([BI)[B" } : Jvm.MethodName) jdk_65_method_121_code (3 : Nat) (Option.some (Jvm.ClassFile.FieldType.array Jvm.ClassFile.FieldType.byte))).before args0 about1 = true := code_word (m := ⟨19, 1⟩) (meth := k19m1) (c := k19c1) (by decide +kernel) rfl rfl rfl (by decide +kernel)
set_option maxRecDepth 65536 in
theorem w_c19 : (Jvm.Cond.code ({ cls := "java/lang/Math", name := "min", desc := "(II)I" } : Jvm.MethodName) jdk_29_method_69_code (2 : Nat) (Option.some Jvm.ClassFile.FieldType.int)).before args0 about1 = true := code_word (m := ⟨18, 2⟩) (meth := k18m2) (c := k18c2) (by decide +kernel) rfl rfl rfl (by decide +kernel)
set_option maxRecDepth 65536 in
theorem w_c20 : (Jvm.Cond.code ({ cls := "java/lang/AbstractStringBuilder", name := "putStringAt", desc := "(ILjava/lang/String;)V" } : Jvm.MethodName) jdk_68_method_73_code (3 : Nat) (Option.none : Option Jvm.ClassFile.FieldType)).before args0 about1 = true := code_word (m := ⟨15, 9⟩) (meth := k15m9) (c := k15c9) (by decide +kernel) rfl rfl rfl (by decide +kernel)
set_option maxRecDepth 65536 in
theorem w_c21 : (Jvm.Cond.code ({ cls := "java/lang/AbstractStringBuilder", name := "inflateIfNeededFor", desc := "(Ljava/lang/String;)V" } : Jvm.MethodName) jdk_68_method_71_code (2 : Nat) (Option.none : Option Jvm.ClassFile.FieldType)).before args0 about1 = true := code_word (m := ⟨15, 8⟩) (meth := k15m8) (c := k15c8) (by decide +kernel) rfl rfl rfl (by decide +kernel)
set_option maxRecDepth 65536 in
theorem w_c22 : (Jvm.Cond.code ({ cls := "java/lang/String", name := "getBytes", desc := "([BIB)V" } : Jvm.MethodName) jdk_42_method_147_code (4 : Nat) (Option.none : Option Jvm.ClassFile.FieldType)).before args0 about1 = true := code_word (m := ⟨7, 5⟩) (meth := k7m5) (c := k7c5) (by decide +kernel) rfl rfl rfl (by decide +kernel)
set_option maxRecDepth 65536 in
theorem w_c23 : (Jvm.Cond.code ({ cls := "java/lang/StringBuilder", name := "toString", desc := "()Ljava/lang/String;" } : Jvm.MethodName) jdk_67_method_42_code (1 : Nat) (Option.some (Jvm.ClassFile.FieldType.object "java/lang/String"))).before args0 about1 = true := code_word (m := ⟨16, 2⟩) (meth := k16m2) (c := k16c2) (by decide +kernel) rfl rfl rfl (by decide +kernel)
set_option maxRecDepth 65536 in
theorem w_c24 : (Jvm.Cond.code ({ cls := "java/lang/String", name := "<init>", desc := "(Ljava/lang/StringBuilder;)V" } : Jvm.MethodName) jdk_42_method_53_code (2 : Nat) (Option.none : Option Jvm.ClassFile.FieldType)).before args0 about1 = true := code_word (m := ⟨7, 2⟩) (meth := k7m2) (c := k7c2) (by decide +kernel) rfl rfl rfl (by decide +kernel)
set_option maxRecDepth 65536 in
theorem w_c25 : (Jvm.Cond.code ({ cls := "java/lang/String", name := "<init>", desc := "(Ljava/lang/AbstractStringBuilder;Ljava/lang/Void;)V" } : Jvm.MethodName) jdk_42_method_150_code (5 : Nat) (Option.none : Option Jvm.ClassFile.FieldType)).before args0 about1 = true := code_word (m := ⟨7, 7⟩) (meth := k7m7) (c := k7c7) (by decide +kernel) rfl rfl rfl (by decide +kernel)
set_option maxRecDepth 65536 in
theorem w_c26 : (Jvm.Cond.code ({ cls := "java/lang/AbstractStringBuilder", name := "getValue", desc := "()[B" } : Jvm.MethodName) jdk_68_method_64_code (1 : Nat) (Option.some (Jvm.ClassFile.FieldType.array Jvm.ClassFile.FieldType.byte))).before args0 about1 = true := code_word (m := ⟨15, 6⟩) (meth := k15m6) (c := k15c6) (by decide +kernel) rfl rfl rfl (by decide +kernel)
set_option maxRecDepth 65536 in
theorem w_c27 : (Jvm.Cond.code ({ cls := "java/lang/StringBuilder", name := "length", desc := "()I" } : Jvm.MethodName) jdk_67_method_93_code (1 : Nat) (Option.some Jvm.ClassFile.FieldType.int)).before args0 about1 = true := code_word (m := ⟨16, 3⟩) (meth := k16m3) (c := k16c3) (by decide +kernel) rfl rfl rfl (by decide +kernel)
set_option maxRecDepth 65536 in
theorem w_c28 : (Jvm.Cond.code ({ cls := "java/lang/AbstractStringBuilder", name := "length", desc := "()I" } : Jvm.MethodName) jdk_68_method_6_code (1 : Nat) (Option.some Jvm.ClassFile.FieldType.int)).before args0 about1 = true := code_word (m := ⟨15, 2⟩) (meth := k15m2) (c := k15c2) (by decide +kernel) rfl rfl rfl (by decide +kernel)
set_option maxRecDepth 65536 in
theorem w_c29 : (Jvm.Cond.code ({ cls := "java/lang/AbstractStringBuilder", name := "isLatin1", desc := "()Z" } : Jvm.MethodName) jdk_68_method_68_code (1 : Nat) (Option.some Jvm.ClassFile.FieldType.boolean)).before args0 about1 = true := code_word (m := ⟨15, 7⟩) (meth := k15m7) (c := k15c7) (by decide +kernel) rfl rfl rfl (by decide +kernel)
set_option maxRecDepth 65536 in
theorem w_c30 : (Jvm.Cond.code ({ cls := "java/util/Arrays", name := "copyOfRange", desc := "([BII)[B" } : Jvm.MethodName) jdk_65_method_132_code (3 : Nat) (Option.some (Jvm.ClassFile.FieldType.array Jvm.ClassFile.FieldType.byte))).before args0 about1 = true := code_word (m := ⟨19, 3⟩) (meth := k19m3) (c := k19c3) (by decide +kernel) rfl rfl rfl (by decide +kernel)
set_option maxRecDepth 65536 in
theorem w_c31 : (Jvm.Cond.code ({ cls := "java/util/Arrays", name := "copyOfRangeByte", desc := "([BII)[B" } : Jvm.MethodName) jdk_65_method_133_code (5 : Nat) (Option.some (Jvm.ClassFile.FieldType.array Jvm.ClassFile.FieldType.byte))).before args0 about1 = true := code_word (m := ⟨19, 4⟩) (meth := k19m4) (c := k19c4) (by decide +kernel) rfl rfl rfl (by decide +kernel)
set_option maxRecDepth 65536 in
theorem w_c32 : (Jvm.Cond.code ({ cls := "java/util/Arrays", name := "checkLength", desc := "(II)V" } : Jvm.MethodName) jdk_65_method_131_code (2 : Nat) (Option.none : Option Jvm.ClassFile.FieldType)).before args0 about1 = true := code_word (m := ⟨19, 2⟩) (meth := k19m2) (c := k19c2) (by decide +kernel) rfl rfl rfl (by decide +kernel)
set_option maxRecDepth 65536 in
theorem w_c33 : (Jvm.Cond.code ({ cls := "com/example/modelwright/modelwright/FilterException", name := "<init>", desc := "(Ljava/lang/String;Ljava/lang/String;)V" } : Jvm.MethodName) prog_3_method_1_code (3 : Nat) (Option.none : Option Jvm.ClassFile.FieldType)).before args0 about1 = true := code_word (m := ⟨13, 0⟩) (meth := k13m0) (c := k13c0) (by decide +kernel) rfl rfl rfl (by decide +kernel)
set_option maxRecDepth 65536 in
theorem w_c34 : (Jvm.Cond.code ({ cls := "java/lang/IllegalArgumentException", name := "<init>", desc := "(Ljava/lang/String;)V" } : Jvm.MethodName) jdk_57_method_2_code (2 : Nat) (Option.none : Option Jvm.ClassFile.FieldType)).before args0 about1 = true := code_word (m := ⟨12, 1⟩) (meth := k12m1) (c := k12c1) (by decide +kernel) rfl rfl rfl (by decide +kernel)
set_option maxRecDepth 65536 in
theorem w_c35 : (Jvm.Cond.code ({ cls := "java/lang/RuntimeException", name := "<init>", desc := "(Ljava/lang/String;)V" } : Jvm.MethodName) jdk_58_method_2_code (2 : Nat) (Option.none : Option Jvm.ClassFile.FieldType)).before args0 about1 = true := code_word (m := ⟨11, 1⟩) (meth := k11m1) (c := k11c1) (by decide +kernel) rfl rfl rfl (by decide +kernel)
set_option maxRecDepth 65536 in
theorem w_c36 : (Jvm.Cond.code ({ cls := "java/lang/Exception", name := "<init>", desc := "(Ljava/lang/String;)V" } : Jvm.MethodName) jdk_59_method_2_code (2 : Nat) (Option.none : Option Jvm.ClassFile.FieldType)).before args0 about1 = true := code_word (m := ⟨10, 1⟩) (meth := k10m1) (c := k10c1) (by decide +kernel) rfl rfl rfl (by decide +kernel)
set_option maxRecDepth 65536 in
theorem w_c37 : (Jvm.Cond.code ({ cls := "java/lang/Throwable", name := "<init>", desc := "(Ljava/lang/String;)V" } : Jvm.MethodName) jdk_78_method_2_code (2 : Nat) (Option.none : Option Jvm.ClassFile.FieldType)).before args0 about1 = true := code_word (m := ⟨9, 1⟩) (meth := k9m1) (c := k9c1) (by decide +kernel) rfl rfl rfl (by decide +kernel)
set_option maxRecDepth 65536 in
theorem w_c38 : (Jvm.Cond.code ({ cls := "java/lang/Throwable", name := "<init>", desc := "()V" } : Jvm.MethodName) jdk_78_method_1_code (1 : Nat) (Option.none : Option Jvm.ClassFile.FieldType)).before args0 about1 = true := code_word (m := ⟨9, 0⟩) (meth := k9m0) (c := k9c0) (by decide +kernel) rfl rfl rfl (by decide +kernel)
set_option maxRecDepth 65536 in
theorem w_c39 : (Jvm.Cond.code ({ cls := "java/lang/Throwable", name := "getMessage", desc := "()Ljava/lang/String;" } : Jvm.MethodName) jdk_78_method_6_code (1 : Nat) (Option.some (Jvm.ClassFile.FieldType.object "java/lang/String"))).before args0 about1 = true := code_word (m := ⟨9, 2⟩) (meth := k9m2) (c := k9c2) (by decide +kernel) rfl rfl rfl (by decide +kernel)
set_option maxRecDepth 65536 in
theorem w_c40 : (Jvm.Cond.code ({ cls := "java/lang/String", name := "equals", desc := "(Ljava/lang/Object;)Z" } : Jvm.MethodName) jdk_42_method_66_code (3 : Nat) (Option.some Jvm.ClassFile.FieldType.boolean)).before args0 about1 = true := code_word (m := ⟨7, 4⟩) (meth := k7m4) (c := k7c4) (by decide +kernel) rfl rfl rfl (by decide +kernel)
set_option maxRecDepth 65536 in
theorem w_c41 : (Jvm.Cond.code ({ cls := "java/lang/StringLatin1", name := "equals", desc := "([B[B)Z" } : Jvm.MethodName) jdk_43_method_13_code (3 : Nat) (Option.some Jvm.ClassFile.FieldType.boolean)).before args0 about1 = true := code_word (m := ⟨21, 1⟩) (meth := k21m1) (c := k21c1) (by decide +kernel) rfl rfl rfl (by decide +kernel)
set_option maxRecDepth 65536 in
theorem w_c42 : (Jvm.Cond.code ({ cls := "com/example/modelwright/modelwright/FilterException", name := "key", desc := "()Ljava/lang/String;" } : Jvm.MethodName) prog_3_method_4_code (1 : Nat) (Option.some (Jvm.ClassFile.FieldType.object "java/lang/String"))).before args0 about1 = true := code_word (m := ⟨13, 2⟩) (meth := k13m2) (c := k13c2) (by decide +kernel) rfl rfl rfl (by decide +kernel)
def codes1 : List Jvm.Cond := [Jvm.Cond.code x code maxLocals ret, Jvm.Cond.code ({ cls := "java/lang/String", name := "<init>", desc := "([C)V" } : Jvm.MethodName) jdk_42_method_3_code (2 : Nat) (Option.none : Option Jvm.ClassFile.FieldType), Jvm.Cond.code ({ cls := "java/lang/String", name := "<init>", desc := "([CIILjava/lang/Void;)V" } : Jvm.MethodName) jdk_42_method_149_code (6 : Nat) (Option.none : Option Jvm.ClassFile.FieldType), Jvm.Cond.code ({ cls := "java/lang/Object", name := "<init>", desc := "()V" } : Jvm.MethodName) object_method_1_code (1 : Nat) (Option.none : Option Jvm.ClassFile.FieldType), Jvm.Cond.code ({ cls := "java/lang/StringUTF16", name := "compress", desc := "([CII)[B" } : Jvm.MethodName) jdk_52_method_16_code (6 : Nat) (Option.some (Jvm.ClassFile.FieldType.array Jvm.ClassFile.FieldType.byte)), Jvm.Cond.code ({ cls := "java/lang/StringUTF16", name := "compress", desc := "([CI[BII)I" } : Jvm.MethodName) jdk_52_method_21_code (7 : Nat) (Option.some Jvm.ClassFile.FieldType.int), Jvm.Cond.code ({ cls := "java/lang/StringUTF16", name := "coderFromArrayLen", desc := "([BI)B" } : Jvm.MethodName) jdk_52_method_15_code (2 : Nat) (Option.some Jvm.ClassFile.FieldType.byte), Jvm.Cond.code ({ cls := "com/example/modelwright/modelwright/FilterException", name := "ofFilterKey", desc := "(Ljava/lang/String;Ljava/lang/String;)Lcom/example/modelwright/modelwright/FilterException;" } : Jvm.MethodName) prog_3_method_2_code (2 : Nat) (Option.some (Jvm.ClassFile.FieldType.object "com/example/modelwright/modelwright/FilterException")), Jvm.Cond.code ({ cls := "java/lang/StringBuilder", name := "<init>", desc := "()V" } : Jvm.MethodName) jdk_67_method_1_code (1 : Nat) (Option.none : Option Jvm.ClassFile.FieldType), Jvm.Cond.code ({ cls := "java/lang/AbstractStringBuilder", name := "<init>", desc := "(I)V" } : Jvm.MethodName) jdk_68_method_2_code (2 : Nat) (Option.none : Option Jvm.ClassFile.FieldType), Jvm.Cond.code ({ cls := "java/lang/StringBuilder", name := "append", desc := "(Ljava/lang/String;)Ljava/lang/StringBuilder;" } : Jvm.MethodName) jdk_67_method_7_code (2 : Nat) (Option.some (Jvm.ClassFile.FieldType.object "java/lang/StringBuilder")), Jvm.Cond.code ({ cls := "java/lang/AbstractStringBuilder", name := "append", desc := "(Ljava/lang/String;)Ljava/lang/AbstractStringBuilder;" } : Jvm.MethodName) jdk_68_method_22_code (3 : Nat) (Option.some (Jvm.ClassFile.FieldType.object "java/lang/AbstractStringBuilder")), Jvm.Cond.code ({ cls := "java/lang/String", name := "length", desc := "()I" } : Jvm.MethodName) jdk_42_method_54_code (1 : Nat) (Option.some Jvm.ClassFile.FieldType.int), Jvm.Cond.code ({ cls := "java/lang/String", name := "coder", desc := "()B" } : Jvm.MethodName) jdk_42_method_152_code (1 : Nat) (Option.some Jvm.ClassFile.FieldType.byte), Jvm.Cond.code ({ cls := "java/lang/AbstractStringBuilder", name := "ensureCapacityInternal", desc := "(I)V" } : Jvm.MethodName) jdk_68_method_9_code (3 : Nat) (Option.none : Option Jvm.ClassFile.FieldType), Jvm.Cond.code ({ cls := "java/lang/AbstractStringBuilder", name := "newCapacity", desc := "(I)I" } : Jvm.MethodName) jdk_68_method_10_code (6 : Nat) (Option.some Jvm.ClassFile.FieldType.int), Jvm.Cond.code ({ cls := "jdk/internal/util/ArraysSupport", name := "newLength", desc := "(III)I" } : Jvm.MethodName) jdk_48_method_27_code (4 : Nat) (Option.some Jvm.ClassFile.FieldType.int), Jvm.Cond.code ({ cls := "java/lang/Math", name := "max", desc := "(II)I" } : Jvm.MethodName) jdk_29_method_65_code (2 : Nat) (Option.some Jvm.ClassFile.FieldType.int), Jvm.Cond.code ({ cls := "java/util/Arrays", name := "copyOf", desc := "([BI)[B" } : Jvm.MethodName) jdk_65_method_121_code (3 : Nat) (Option.some (Jvm.ClassFile.FieldType.array Jvm.ClassFile.FieldType.byte)), Jvm.Cond.code ({ cls := "java/lang/Math", name := "min", desc := "(II)I" } : Jvm.MethodName) jdk_29_method_69_code (2 : Nat) (Option.some Jvm.ClassFile.FieldType.int), Jvm.Cond.code ({ cls := "java/lang/AbstractStringBuilder", name := "putStringAt", desc := "(ILjava/lang/String;)V" } : Jvm.MethodName) jdk_68_method_73_code (3 : Nat) (Option.none : Option Jvm.ClassFile.FieldType), Jvm.Cond.code ({ cls := "java/lang/AbstractStringBuilder", name := "inflateIfNeededFor", desc := "(Ljava/lang/String;)V" } : Jvm.MethodName) jdk_68_method_71_code (2 : Nat) (Option.none : Option Jvm.ClassFile.FieldType), Jvm.Cond.code ({ cls := "java/lang/String", name := "getBytes", desc := "([BIB)V" } : Jvm.MethodName) jdk_42_method_147_code (4 : Nat) (Option.none : Option Jvm.ClassFile.FieldType), Jvm.Cond.code ({ cls := "java/lang/StringBuilder", name := "toString", desc := "()Ljava/lang/String;" } : Jvm.MethodName) jdk_67_method_42_code (1 : Nat) (Option.some (Jvm.ClassFile.FieldType.object "java/lang/String")), Jvm.Cond.code ({ cls := "java/lang/String", name := "<init>", desc := "(Ljava/lang/StringBuilder;)V" } : Jvm.MethodName) jdk_42_method_53_code (2 : Nat) (Option.none : Option Jvm.ClassFile.FieldType), Jvm.Cond.code ({ cls := "java/lang/String", name := "<init>", desc := "(Ljava/lang/AbstractStringBuilder;Ljava/lang/Void;)V" } : Jvm.MethodName) jdk_42_method_150_code (5 : Nat) (Option.none : Option Jvm.ClassFile.FieldType), Jvm.Cond.code ({ cls := "java/lang/AbstractStringBuilder", name := "getValue", desc := "()[B" } : Jvm.MethodName) jdk_68_method_64_code (1 : Nat) (Option.some (Jvm.ClassFile.FieldType.array Jvm.ClassFile.FieldType.byte)), Jvm.Cond.code ({ cls := "java/lang/StringBuilder", name := "length", desc := "()I" } : Jvm.MethodName) jdk_67_method_93_code (1 : Nat) (Option.some Jvm.ClassFile.FieldType.int), Jvm.Cond.code ({ cls := "java/lang/AbstractStringBuilder", name := "length", desc := "()I" } : Jvm.MethodName) jdk_68_method_6_code (1 : Nat) (Option.some Jvm.ClassFile.FieldType.int), Jvm.Cond.code ({ cls := "java/lang/AbstractStringBuilder", name := "isLatin1", desc := "()Z" } : Jvm.MethodName) jdk_68_method_68_code (1 : Nat) (Option.some Jvm.ClassFile.FieldType.boolean), Jvm.Cond.code ({ cls := "java/util/Arrays", name := "copyOfRange", desc := "([BII)[B" } : Jvm.MethodName) jdk_65_method_132_code (3 : Nat) (Option.some (Jvm.ClassFile.FieldType.array Jvm.ClassFile.FieldType.byte)), Jvm.Cond.code ({ cls := "java/util/Arrays", name := "copyOfRangeByte", desc := "([BII)[B" } : Jvm.MethodName) jdk_65_method_133_code (5 : Nat) (Option.some (Jvm.ClassFile.FieldType.array Jvm.ClassFile.FieldType.byte)), Jvm.Cond.code ({ cls := "java/util/Arrays", name := "checkLength", desc := "(II)V" } : Jvm.MethodName) jdk_65_method_131_code (2 : Nat) (Option.none : Option Jvm.ClassFile.FieldType), Jvm.Cond.code ({ cls := "com/example/modelwright/modelwright/FilterException", name := "<init>", desc := "(Ljava/lang/String;Ljava/lang/String;)V" } : Jvm.MethodName) prog_3_method_1_code (3 : Nat) (Option.none : Option Jvm.ClassFile.FieldType), Jvm.Cond.code ({ cls := "java/lang/IllegalArgumentException", name := "<init>", desc := "(Ljava/lang/String;)V" } : Jvm.MethodName) jdk_57_method_2_code (2 : Nat) (Option.none : Option Jvm.ClassFile.FieldType), Jvm.Cond.code ({ cls := "java/lang/RuntimeException", name := "<init>", desc := "(Ljava/lang/String;)V" } : Jvm.MethodName) jdk_58_method_2_code (2 : Nat) (Option.none : Option Jvm.ClassFile.FieldType), Jvm.Cond.code ({ cls := "java/lang/Exception", name := "<init>", desc := "(Ljava/lang/String;)V" } : Jvm.MethodName) jdk_59_method_2_code (2 : Nat) (Option.none : Option Jvm.ClassFile.FieldType), Jvm.Cond.code ({ cls := "java/lang/Throwable", name := "<init>", desc := "(Ljava/lang/String;)V" } : Jvm.MethodName) jdk_78_method_2_code (2 : Nat) (Option.none : Option Jvm.ClassFile.FieldType), Jvm.Cond.code ({ cls := "java/lang/Throwable", name := "<init>", desc := "()V" } : Jvm.MethodName) jdk_78_method_1_code (1 : Nat) (Option.none : Option Jvm.ClassFile.FieldType), Jvm.Cond.code ({ cls := "java/lang/Throwable", name := "getMessage", desc := "()Ljava/lang/String;" } : Jvm.MethodName) jdk_78_method_6_code (1 : Nat) (Option.some (Jvm.ClassFile.FieldType.object "java/lang/String")), Jvm.Cond.code ({ cls := "java/lang/String", name := "equals", desc := "(Ljava/lang/Object;)Z" } : Jvm.MethodName) jdk_42_method_66_code (3 : Nat) (Option.some Jvm.ClassFile.FieldType.boolean), Jvm.Cond.code ({ cls := "java/lang/StringLatin1", name := "equals", desc := "([B[B)Z" } : Jvm.MethodName) jdk_43_method_13_code (3 : Nat) (Option.some Jvm.ClassFile.FieldType.boolean), Jvm.Cond.code ({ cls := "com/example/modelwright/modelwright/FilterException", name := "key", desc := "()Ljava/lang/String;" } : Jvm.MethodName) prog_3_method_4_code (1 : Nat) (Option.some (Jvm.ClassFile.FieldType.object "java/lang/String"))]
set_option maxRecDepth 65536 in
theorem codes_eq : words1.filter isCode = codes1 := rfl
theorem w_codes : ∀ c ∈ words1.filter isCode, c.before args0 about1 = true := by
  rw [codes_eq]
  intro c hc
  simp only [codes1, List.mem_cons, List.not_mem_nil, or_false] at hc
  rcases hc with rfl | rfl | rfl | rfl | rfl | rfl | rfl | rfl | rfl | rfl | rfl | rfl | rfl | rfl | rfl | rfl | rfl | rfl | rfl | rfl | rfl | rfl | rfl | rfl | rfl | rfl | rfl | rfl | rfl | rfl | rfl | rfl | rfl | rfl | rfl | rfl | rfl | rfl | rfl | rfl | rfl | rfl | rfl
  · exact w_c0
  · exact w_c1
  · exact w_c2
  · exact w_c3
  · exact w_c4
  · exact w_c5
  · exact w_c6
  · exact w_c7
  · exact w_c8
  · exact w_c9
  · exact w_c10
  · exact w_c11
  · exact w_c12
  · exact w_c13
  · exact w_c14
  · exact w_c15
  · exact w_c16
  · exact w_c17
  · exact w_c18
  · exact w_c19
  · exact w_c20
  · exact w_c21
  · exact w_c22
  · exact w_c23
  · exact w_c24
  · exact w_c25
  · exact w_c26
  · exact w_c27
  · exact w_c28
  · exact w_c29
  · exact w_c30
  · exact w_c31
  · exact w_c32
  · exact w_c33
  · exact w_c34
  · exact w_c35
  · exact w_c36
  · exact w_c37
  · exact w_c38
  · exact w_c39
  · exact w_c40
  · exact w_c41
  · exact w_c42
set_option maxRecDepth 65536 in
theorem w_t1 : (words1.take 24).all (fun c => isCode c || c.before args0 about1) = true := by decide +kernel
set_option maxRecDepth 65536 in
theorem w_t2 : ((words1.drop 24).take 24).all (fun c => isCode c || c.before args0 about1) = true := by decide +kernel
set_option maxRecDepth 65536 in
theorem w_t3 : (((words1.drop 24).drop 24).take 24).all (fun c => isCode c || c.before args0 about1) = true := by decide +kernel
set_option maxRecDepth 65536 in
theorem w_t4 : ((((words1.drop 24).drop 24).drop 24).take 24).all (fun c => isCode c || c.before args0 about1) = true := by decide +kernel
set_option maxRecDepth 65536 in
theorem w_t5 : (((((words1.drop 24).drop 24).drop 24).drop 24).take 24).all (fun c => isCode c || c.before args0 about1) = true := by decide +kernel
set_option maxRecDepth 65536 in
theorem w_t6 : ((((((words1.drop 24).drop 24).drop 24).drop 24).drop 24).take 24).all (fun c => isCode c || c.before args0 about1) = true := by decide +kernel
set_option maxRecDepth 65536 in
theorem w_t7 : (((((((words1.drop 24).drop 24).drop 24).drop 24).drop 24).drop 24).take 24).all (fun c => isCode c || c.before args0 about1) = true := by decide +kernel
set_option maxRecDepth 65536 in
theorem w_t8 : ((((((((words1.drop 24).drop 24).drop 24).drop 24).drop 24).drop 24).drop 24).take 24).all (fun c => isCode c || c.before args0 about1) = true := by decide +kernel
set_option maxRecDepth 65536 in
theorem w_t9 : (((((((((words1.drop 24).drop 24).drop 24).drop 24).drop 24).drop 24).drop 24).drop 24).take 24).all (fun c => isCode c || c.before args0 about1) = true := by decide +kernel
set_option maxRecDepth 65536 in
theorem w_t10 : ((((((((((words1.drop 24).drop 24).drop 24).drop 24).drop 24).drop 24).drop 24).drop 24).drop 24).take 24).all (fun c => isCode c || c.before args0 about1) = true := by decide +kernel
set_option maxRecDepth 65536 in
theorem w_t11 : ((((((((((words1.drop 24).drop 24).drop 24).drop 24).drop 24).drop 24).drop 24).drop 24).drop 24).drop 24).all (fun c => isCode c || c.before args0 about1) = true := by decide +kernel
theorem w_tables : (allAtoms (Jvm.Cond.code x code maxLocals ret :: tables_1)).before args0 about1 = true := by
  rw [allAtoms_all]
  show words1.all (fun c => c.before args0 about1) = true
  refine all_split ?_ w_codes
  rw [← List.take_append_drop 24 words1, List.all_append, w_t1, ← List.take_append_drop 24 (words1.drop 24), List.all_append, w_t2, ← List.take_append_drop 24 ((words1.drop 24).drop 24), List.all_append, w_t3, ← List.take_append_drop 24 (((words1.drop 24).drop 24).drop 24), List.all_append, w_t4, ← List.take_append_drop 24 ((((words1.drop 24).drop 24).drop 24).drop 24), List.all_append, w_t5, ← List.take_append_drop 24 (((((words1.drop 24).drop 24).drop 24).drop 24).drop 24), List.all_append, w_t6, ← List.take_append_drop 24 ((((((words1.drop 24).drop 24).drop 24).drop 24).drop 24).drop 24), List.all_append, w_t7, ← List.take_append_drop 24 (((((((words1.drop 24).drop 24).drop 24).drop 24).drop 24).drop 24).drop 24), List.all_append, w_t8, ← List.take_append_drop 24 ((((((((words1.drop 24).drop 24).drop 24).drop 24).drop 24).drop 24).drop 24).drop 24), List.all_append, w_t9, ← List.take_append_drop 24 (((((((((words1.drop 24).drop 24).drop 24).drop 24).drop 24).drop 24).drop 24).drop 24).drop 24), List.all_append, w_t10, w_t11]
  rfl
set_option maxRecDepth 65536 in
theorem w_rest : rest_1_c.before args0 about1 = true := by decide +kernel
set_option maxRecDepth 65536 in
theorem w_case : (Jvm.Cond.and given_1 narrow_1).before args0 about1 = true := by decide +kernel
set_option maxRecDepth 65536 in
theorem w_consts : constsHeld consts_1 about1 := Jvm.Lit.constsHeldB_iff.mp (by decide +kernel)
theorem w_applies : (headSpec (Jvm.Cond.code x code maxLocals ret :: tables_1) room_1).applies x e0.platform about1 = true :=
  (Spec.applies_iff w_frames).mpr ⟨w_running, w_runnable, w_alone, w_named, w_hears, w_ripe, w_room, w_tables⟩
theorem atStart : AtStart classFile x code maxLocals ret World_1 tables_1 room_1 Calls_1 rest_1 Pre_1 launch0 p0 e0 about1 theMethod args0 below0 :=
  ⟨lists_1, trivial, launch0.admits_env _ _ _, launch0.least_env, fairChoices_fair.cas, fairChoices_fair.clock, w_frames, w_args, w_heap, w_applies, ⟨(by decide +kernel : framesKnown about1 = true), ⟨(by decide +kernel : tablesKnown about1 = true), ⟨w_consts, trivial⟩⟩⟩, w_rest, w_case⟩
end start1
theorem witness_1 : WitnessClaimed_1 := ⟨start1.p0, start1.e0, start1.about1, start1.theMethod, start1.args0, start1.below0, start1.atStart⟩
end Jvm.Pilot.@@N@@
