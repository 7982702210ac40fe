import JvmDerived
import JvmDerived.Pilot.@@N@@Statement
import JvmDerived.Pilot.@@N@@Code
set_option linter.unusedVariables false
set_option linter.unusedSimpArgs false
namespace Jvm.RoadKit
open Sem ClassFile Op Lib Jvm.Stand Jvm.Free Jvm.LawKit
section New
variable {p : Program} {l : Launch} {e : Env} {R : Room} {s : State} {m : MethodId} {args : Array Value} {below : List Frame} {meth : Method} {c : Code} {T : State} {locs : List Loc} {cells slots : Nat}
theorem retI (X : Stand p l e R s m args below meth c T locs cells slots) (hx : p.tables.exec = Jvm.exec) {pc : Nat} {Ls : Array Slot} {z : Int32} {rest : List Value} (hret : meth.sig.returnType = some .int) (hd : decode c.code pc = .ok (.ireturn, 1)) {fs : List Frame}
    (hl : ∀ (f : JFrame) (acts : List Action), f.method = m → f.locked = none → f.entered = [] → (doReturn e (T.setTop f) acts (some (.int z))).1 = T.setFrames fs) : Steps p.tables e below (T.setTop (mkF m pc Ls (.int z :: rest))) (T.setFrames fs) :=
  retOut X hx hret rfl (Or.inl ⟨rfl, Or.inl rfl, _, rfl⟩) hd hl
end New
end Jvm.RoadKit
/- laws to paste: Road.backV, Road.lenW, Road.chN, Road.codOf (cut by pick.py; bodies as the Statement names them) -/
namespace Jvm.Pilot.@@N@@
namespace StrChars
open Jvm Sem ClassFile Op Lib Jvm.Stand Jvm.Free.XT Jvm.Free.ALB Jvm.Free.JM Jvm.Free
open Jvm.Lib.Cold (StaticIs)
/-- a char array whose places are chars -/
def Ch (a : Addr) (A : Cell) (U : State) : Prop := Arr .char a A U ∧ Typed .char A
theorem Ch.mv {a : Addr} {A : Cell} {U U' : State} (h : Ch a A U) (hal : U.vm.Alike U'.vm) (hh : U'.heap = U.heap) : Ch a A U' := ⟨h.1.mv hal hh, h.2⟩
theorem Ch.keep {a : Addr} {A : Cell} {U U' : State} (h : Ch a A U) (hal : U.vm.Alike U'.vm) (hk : U'.heap[a]? = some A) : Ch a A U' := ⟨h.1.keep hal hk, h.2⟩
/-- what place i of a char[]'s cell holds -/
def cv (A : Cell) (i : Nat) : Int32 := match A.slots[i]? with | some (.int x) => x | _ => 0
theorem Ch.get {a : Addr} {A : Cell} {U : State} (h : Ch a A U) {i : Nat} (hi : i < A.slots.size) : A.slots[i]? = some (.int (cv A i)) := by
  have e := Array.getElem?_eq_getElem hi
  have f := h.2 i _ e
  unfold cv; rw [e]
  generalize A.slots[i] = v at f
  cases v <;> simp [fits] at f ⊢
/-- the byte that i2b leaves of a char -/
def lo8 (x : Int32) : Int32 := x.toInt8.toInt32
theorem fits_lo8 (y : Int32) : fits .byte (.int (lo8 y)) = true := by
  have h1 := y.toInt8.le_toInt
  have h2 := y.toInt8.toInt_lt
  simp only [lo8, fits, Bool.and_eq_true, decide_eq_true_eq, Int32.le_iff_toInt_le, Int8.toInt_toInt32, show (-128 : Int32).toInt = -128 from by decide, show (127 : Int32).toInt = 127 from by decide]
  omega
/-- A' is A but that each place j of lo .. hi - 1 holds f j -/
def Laid (A A' : Cell) (lo hi : Nat) (f : Nat → Value) : Prop := A'.cls = A.cls ∧ A'.vm = A.vm ∧ A'.slots.size = A.slots.size ∧ ∀ i, A'.slots[i]? = if lo ≤ i ∧ i < hi then some (f i) else A.slots[i]?
theorem Laid.zero (A : Cell) (lo : Nat) (f : Nat → Value) : Laid A A lo (lo + 0) f := ⟨rfl, rfl, rfl, fun i => by rw [if_neg (by omega)]⟩
theorem Laid.step {A Ak : Cell} {lo k : Nat} {f : Nat → Value} {v : Value} (h : Laid A Ak lo k f) (hlo : lo ≤ k) (hk : k < Ak.slots.size) (hv : v = f k) : Laid A (Ak.setSlot k v) lo (k + 1) f := by
  refine ⟨h.1, h.2.1, by simpa [Cell.setSlot] using h.2.2.1, fun i => ?_⟩
  by_cases e : k = i
  · subst e; rw [Cell.slots_setSlot_self v hk, if_pos (by omega), hv]
  · rw [Cell.slots_setSlot_ne v e, h.2.2.2 i]
    by_cases q : lo ≤ i ∧ i < k
    · rw [if_pos q, if_pos (by omega)]
    · rw [if_neg q, if_neg (by omega)]
def U16 : String := "java/lang/StringUTF16"
namespace Cmp5
def yN : MethodName := ⟨"java/lang/StringUTF16", "compress", "([CI[BII)I"⟩
abbrev yB : ByteArray := jdk_52_method_21_code
theorem d0 : decode yB 0 = .ok (.iconst 0, 1) := by decide +kernel
theorem d1 : decode yB 1 = .ok (.istore 5, 2) := by decide +kernel
theorem d3 : decode yB 3 = .ok (.iload 5, 2) := by decide +kernel
theorem d5 : decode yB 5 = .ok (.iload 4, 2) := by decide +kernel
theorem d7 : decode yB 7 = .ok (.if_icmp (.ge) 37, 3) := by decide +kernel
theorem d10 : decode yB 10 = .ok (.aload_n 0, 1) := by decide +kernel
theorem d11 : decode yB 11 = .ok (.iload_n 1, 1) := by decide +kernel
theorem d12 : decode yB 12 = .ok (.caload, 1) := by decide +kernel
theorem d13 : decode yB 13 = .ok (.istore 6, 2) := by decide +kernel
theorem d15 : decode yB 15 = .ok (.iload 6, 2) := by decide +kernel
theorem d17 : decode yB 17 = .ok (.sipush 255, 3) := by decide +kernel
theorem d20 : decode yB 20 = .ok (.if_icmp (.le) 6, 3) := by decide +kernel
theorem d26 : decode yB 26 = .ok (.aload_n 2, 1) := by decide +kernel
theorem d27 : decode yB 27 = .ok (.iload_n 3, 1) := by decide +kernel
theorem d28 : decode yB 28 = .ok (.iload 6, 2) := by decide +kernel
theorem d30 : decode yB 30 = .ok (.i2b, 1) := by decide +kernel
theorem d31 : decode yB 31 = .ok (.bastore, 1) := by decide +kernel
theorem d32 : decode yB 32 = .ok (.iinc 1 1, 3) := by decide +kernel
theorem d35 : decode yB 35 = .ok (.iinc 3 1, 3) := by decide +kernel
theorem d38 : decode yB 38 = .ok (.iinc 5 1, 3) := by decide +kernel
theorem d41 : decode yB 41 = .ok (.goto (-38), 3) := by decide +kernel
theorem d44 : decode yB 44 = .ok (.iload 4, 2) := by decide +kernel
theorem d46 : decode yB 46 = .ok (.ireturn, 1) := by decide +kernel
def site : List Cond := []
def tab : Cond := tabOf yN yB 7 (some .int) site
def P (b : Addr) (A : Cell) (d : Addr) (B : Cell) (o q len : Nat) (args : Array Value) (s : State) : Prop := args = #[.ref b, .int (Int32.ofNat o), .ref d, .int (Int32.ofNat q), .int (Int32.ofNat len)] ∧ Ch b A s ∧ Arr .byte d B s ∧ b ≠ d ∧ o + len ≤ A.slots.size ∧ q + len ≤ B.slots.size ∧ ∀ i, i < len → ¬ 255 < cv A (o + i)
def E (b : Addr) (A : Cell) (d : Addr) (B : Cell) (o q len : Nat) (r : Option Value) (s u : State) : Prop := r = some (.int (Int32.ofNat len)) ∧ ∃ B', Put d B' s u ∧ Laid B B' q (q + len) (fun j => Value.int (lo8 (cv A (o + (j - q)))))
/-- no char of the range above 255: len; the places written hold each char's low byte -/
theorem law (l : Launch) (b : Addr) (A : Cell) (d : Addr) (B : Cell) (o q len : Nat) : Law l yN 5 5 0 0 yB 7 (some .int) site (P b A d B o q len) (E b A d B o q len) (copyLocs d q len) 0 0 := by
  refine Law.of_walk (plainFor_of_name (by decide +kernel)) (by decide +kernel) (by decide +kernel) (by decide) (fun _ _ h => by rw [h.1]; rfl) (fun _ U U' hal hh h => ⟨h.1, h.2.1.mv hal hh, h.2.2.1.mv hal hh, h.2.2.2⟩) (fun r U U' V V' h1 hal h2 h => ⟨h.1, h.2.elim fun B' q => ⟨B', q.1.mv h1 h2, q.2⟩⟩) ?_
  intro p e s m args below meth c s₁ X0 hexec hbytes hml hret hlk hnm hown hh0 W hP
  obtain ⟨rfl, hA, hB, hne, l1, l2, hp⟩ := hP
  have c1 : Steps p.tables e below (s₁.setTop (entryFrame m #[.ref b, .int (Int32.ofNat o), .ref d, .int (Int32.ofNat q), .int (Int32.ofNat len)] 7)) (s₁.setTop (mkF m 0 #[.val (.ref b), .val (.int (Int32.ofNat o)), .val (.ref d), .val (.int (Int32.ofNat q)), .val (.int (Int32.ofNat len)), .unset, .unset] [])) := entry rfl
  have hA0 := hA.1.mv X0.warmed.alike hh0
  have hB0 := hB.mv X0.warmed.alike hh0
  have a31 := hA.1.2.2.2
  have c2 : Steps p.tables e below (s₁.setTop (entryFrame m #[.ref b, .int (Int32.ofNat o), .ref d, .int (Int32.ofNat q), .int (Int32.ofNat len)] 7)) (s₁.setTop (mkF m 3 #[.val (.ref b), .val (.int (Int32.ofNat o)), .val (.ref d), .val (.int (Int32.ofNat q)), .val (.int (Int32.ofNat len)), .val (.int 0), .unset] [])) := c1.trans (by
    refine iconstV X0.here hexec rfl 0 (hb hbytes d0) (by decide) ?_
    refine XS.istore X0.here hexec rfl (hb hbytes d1) rfl rfl ?_
    exact Steps.refl _)
  have loop : ∀ (r i : Nat), i + r = len → ∀ (z : Slot), (z = .unset ∨ ∃ w, z = .val w ∧ w.category = 1) → ∀ (Tl : State) (Bk : Cell), Stand p l e { frames := 0, locals := 0, cells := 0, slots := 0 } s m #[.ref b, .int (Int32.ofNat o), .ref d, .int (Int32.ofNat q), .int (Int32.ofNat len)] below meth c Tl ([] ++ copyLocs d q i) 0 0 → Put d Bk s₁ Tl → Laid B Bk q (q + i) (fun j => Value.int (lo8 (cv A (o + (j - q))))) →
      Steps p.tables e below (s₁.setTop (entryFrame m #[.ref b, .int (Int32.ofNat o), .ref d, .int (Int32.ofNat q), .int (Int32.ofNat len)] 7)) (Tl.setTop (mkF m 3 #[.val (.ref b), .val (.int (Int32.ofNat (o + i))), .val (.ref d), .val (.int (Int32.ofNat (q + i))), .val (.int (Int32.ofNat len)), .val (.int (Int32.ofNat i)), z] [])) → ∃ (T' : State) (B' : Cell) (z' : Slot), Stand p l e { frames := 0, locals := 0, cells := 0, slots := 0 } s m #[.ref b, .int (Int32.ofNat o), .ref d, .int (Int32.ofNat q), .int (Int32.ofNat len)] below meth c T' ([] ++ copyLocs d q len) 0 0 ∧ Put d B' s₁ T' ∧ Laid B B' q (q + len) (fun j => Value.int (lo8 (cv A (o + (j - q))))) ∧
      Steps p.tables e below (s₁.setTop (entryFrame m #[.ref b, .int (Int32.ofNat o), .ref d, .int (Int32.ofNat q), .int (Int32.ofNat len)] 7)) (T'.setTop (mkF m 3 #[.val (.ref b), .val (.int (Int32.ofNat (o + len))), .val (.ref d), .val (.int (Int32.ofNat (q + len))), .val (.int (Int32.ofNat len)), .val (.int (Int32.ofNat len)), z'] [])) := by
    intro r
    induction r with
    | zero =>
      intro i hi z hz Tl Bk Xl pl fl cl
      have hil : i = len := by omega
      rw [hil] at Xl fl cl
      exact ⟨Tl, Bk, z, Xl, pl, fl, cl⟩
    | succ r ih =>
      intro i hi z hz Tl Bk Xl pl fl cl
      have all := X0.warmed.alike.symm.trans Xl.warmed.alike
      have hAl := hA0.keep all (pl.other hne hA0.1)
      have hBk := hB0.like all pl.1 fl.1 fl.2.1 fl.2.2.1
      have hlt : q + i < Bk.slots.size := by rw [fl.2.2.1]; omega
      have c3 : Steps p.tables e below (s₁.setTop (entryFrame m #[.ref b, .int (Int32.ofNat o), .ref d, .int (Int32.ofNat q), .int (Int32.ofNat len)] 7)) (Tl.setTop (mkF m 12 #[.val (.ref b), .val (.int (Int32.ofNat (o + i))), .val (.ref d), .val (.int (Int32.ofNat (q + i))), .val (.int (Int32.ofNat len)), .val (.int (Int32.ofNat i)), z] [.int (Int32.ofNat (o + i)), .ref b])) := cl.trans (by
        refine XS.iload Xl.here hexec rfl (hb hbytes d3) rfl ?_
        refine XS.iload Xl.here hexec rfl (hb hbytes d5) rfl ?_
        refine XS.icmpNo Xl.here hexec rfl (hb hbytes d7) rfl (ii_ge_f (lt32 (by omega) (by omega))) ?_
        refine XS.aloadN Xl.here hexec rfl (hb hbytes d10) rfl rfl ?_
        refine XS.iloadN Xl.here hexec rfl (hb hbytes d11) rfl ?_
        exact Steps.refl _)
      have c4 : Steps p.tables e below (s₁.setTop (entryFrame m #[.ref b, .int (Int32.ofNat o), .ref d, .int (Int32.ofNat q), .int (Int32.ofNat len)] 7)) (Tl.setTop (mkF m 13 #[.val (.ref b), .val (.int (Int32.ofNat (o + i))), .val (.ref d), .val (.int (Int32.ofNat (q + i))), .val (.int (Int32.ofNat len)), .val (.int (Int32.ofNat i)), z] [.int (cv A (o + i))])) := c3.trans (by
        refine Xl.aget hexec hAl rfl (hA.get (i := o + i) (by omega)) rfl rfl (hb hbytes d12) ?_
        exact Steps.refl _)
      have c5 : Steps p.tables e below (s₁.setTop (entryFrame m #[.ref b, .int (Int32.ofNat o), .ref d, .int (Int32.ofNat q), .int (Int32.ofNat len)] 7)) (Tl.setTop (mkF m 15 #[.val (.ref b), .val (.int (Int32.ofNat (o + i))), .val (.ref d), .val (.int (Int32.ofNat (q + i))), .val (.int (Int32.ofNat len)), .val (.int (Int32.ofNat i)), .val (.int (cv A (o + i)))] [])) := c4.trans (by
        refine XS.istoreS Xl.here hexec rfl (hb hbytes d13) rfl rfl hz ?_
        exact Steps.refl _)
      have c6 : Steps p.tables e below (s₁.setTop (entryFrame m #[.ref b, .int (Int32.ofNat o), .ref d, .int (Int32.ofNat q), .int (Int32.ofNat len)] 7)) (Tl.setTop (mkF m 31 #[.val (.ref b), .val (.int (Int32.ofNat (o + i))), .val (.ref d), .val (.int (Int32.ofNat (q + i))), .val (.int (Int32.ofNat len)), .val (.int (Int32.ofNat i)), .val (.int (cv A (o + i)))] [.int (lo8 (cv A (o + i))), .int (Int32.ofNat (q + i)), .ref d])) := c5.trans (by
        refine XS.iload Xl.here hexec rfl (hb hbytes d15) rfl ?_
        refine sipushV Xl.here hexec rfl 255 (hb hbytes d17) (by decide) ?_
        refine XS.icmpYes Xl.here hexec rfl (pc0 := 20) rfl (hb hbytes d20) rfl (ii_le_t (hp i (by omega))) (by decide) rfl ?_
        refine XS.aloadN Xl.here hexec rfl (hb hbytes d26) rfl rfl ?_
        refine XS.iloadN Xl.here hexec rfl (hb hbytes d27) rfl ?_
        refine XS.iload Xl.here hexec rfl (hb hbytes d28) rfl ?_
        refine i2b Xl.here hexec rfl (hb hbytes d30) rfl ?_
        exact Steps.refl _)
      obtain ⟨T7, X7, p7, st7⟩ := Xl.aput hexec hBk rfl hlt rfl (fits_lo8 (cv A (o + i))) (g := (mkF m 31 #[.val (.ref b), .val (.int (Int32.ofNat (o + i))), .val (.ref d), .val (.int (Int32.ofNat (q + i))), .val (.int (Int32.ofNat len)), .val (.int (Int32.ofNat i)), .val (.int (cv A (o + i)))] [.int (lo8 (cv A (o + i))), .int (Int32.ofNat (q + i)), .ref d])) rfl (rest := []) rfl (hb hbytes d31)
      have c8 : Steps p.tables e below (s₁.setTop (entryFrame m #[.ref b, .int (Int32.ofNat o), .ref d, .int (Int32.ofNat q), .int (Int32.ofNat len)] 7)) (T7.setTop (mkF m 32 #[.val (.ref b), .val (.int (Int32.ofNat (o + i))), .val (.ref d), .val (.int (Int32.ofNat (q + i))), .val (.int (Int32.ofNat len)), .val (.int (Int32.ofNat i)), .val (.int (cv A (o + i)))] [])) := c6.trans (st7 _ (Steps.refl _))
      have c9 : Steps p.tables e below (s₁.setTop (entryFrame m #[.ref b, .int (Int32.ofNat o), .ref d, .int (Int32.ofNat q), .int (Int32.ofNat len)] 7)) (T7.setTop (mkF m 3 #[.val (.ref b), .val (.int (Int32.ofNat (o + i) + 1)), .val (.ref d), .val (.int (Int32.ofNat (q + i) + 1)), .val (.int (Int32.ofNat len)), .val (.int (Int32.ofNat i + 1)), .val (.int (cv A (o + i)))] [])) := c8.trans (by
        refine iincV X7.here hexec rfl 1 (hb hbytes d32) (by decide) rfl rfl ?_
        refine iincV X7.here hexec rfl 1 (hb hbytes d35) (by decide) rfl rfl ?_
        refine iincV X7.here hexec rfl 1 (hb hbytes d38) (by decide) rfl rfl ?_
        refine XS.goto X7.here hexec rfl (pc0 := 41) rfl (hb hbytes d41) (by decide) rfl ?_
        exact Steps.refl _)
      have c10 : Steps p.tables e below (s₁.setTop (entryFrame m #[.ref b, .int (Int32.ofNat o), .ref d, .int (Int32.ofNat q), .int (Int32.ofNat len)] 7)) (T7.setTop (mkF m 3 #[.val (.ref b), .val (.int (Int32.ofNat (o + (i + 1)))), .val (.ref d), .val (.int (Int32.ofNat (q + (i + 1)))), .val (.int (Int32.ofNat len)), .val (.int (Int32.ofNat (i + 1))), .val (.int (cv A (o + i)))] [])) := by
        have := c9
        rw [succ32, succ32, succ32] at this
        exact this
      exact ih (i + 1) (by omega) _ (Or.inr ⟨_, rfl, rfl⟩) T7 _ (by rw [copyLocs_step, ← List.append_assoc]; exact X7) (pl.trans p7) (fl.step (by omega) hlt (by simp)) c10
  obtain ⟨T9, B9, z9, X9, p9, f9, g9⟩ := loop len 0 (by omega) .unset (Or.inl rfl) s₁ B (by simpa [copyLocs] using X0) ⟨hB0.1, fun _ _ => rfl, rfl⟩ (Laid.zero _ _ _) c2
  have c11 : Steps p.tables e below (s₁.setTop (entryFrame m #[.ref b, .int (Int32.ofNat o), .ref d, .int (Int32.ofNat q), .int (Int32.ofNat len)] 7)) (T9.setTop (mkF m 46 #[.val (.ref b), .val (.int (Int32.ofNat (o + len))), .val (.ref d), .val (.int (Int32.ofNat (q + len))), .val (.int (Int32.ofNat len)), .val (.int (Int32.ofNat len)), z9] [.int (Int32.ofNat len)])) := g9.trans (by
    refine XS.iload X9.here hexec rfl (hb hbytes d3) rfl ?_
    refine XS.iload X9.here hexec rfl (hb hbytes d5) rfl ?_
    refine XS.icmpYes X9.here hexec rfl (pc0 := 7) rfl (hb hbytes d7) rfl (ii_ge_t (nlt32 (by omega) (Nat.le_refl _))) (by decide) rfl ?_
    refine XS.iload X9.here hexec rfl (hb hbytes d44) rfl ?_
    exact Steps.refl _)
  exact ⟨T9, some (.int (Int32.ofNat len)), _, _, _, X9, by simp, rfl, rfl, (fun h => by cases h), ⟨rfl, B9, p9.from hh0, f9⟩, fun fs hl => c11.trans (X9.ireturnOut hexec hret rfl (Or.inl rfl) (hb hbytes d46) hl)⟩
end Cmp5
namespace Cmp3
def yN : MethodName := ⟨"java/lang/StringUTF16", "compress", "([CII)[B"⟩
abbrev yB : ByteArray := jdk_52_method_16_code
theorem d0 : decode yB 0 = .ok (.iload_n 2, 1) := by decide +kernel
theorem d1 : decode yB 1 = .ok (.newarray .byte, 2) := by decide +kernel
theorem d3 : decode yB 3 = .ok (.astore_n 3, 1) := by decide +kernel
theorem d4 : decode yB 4 = .ok (.aload_n 0, 1) := by decide +kernel
theorem d5 : decode yB 5 = .ok (.iload_n 1, 1) := by decide +kernel
theorem d6 : decode yB 6 = .ok (.aload_n 3, 1) := by decide +kernel
theorem d7 : decode yB 7 = .ok (.iconst 0, 1) := by decide +kernel
theorem d8 : decode yB 8 = .ok (.iload_n 2, 1) := by decide +kernel
theorem d9 : decode yB 9 = .ok (.invokestatic 115, 3) := by decide +kernel
theorem d12 : decode yB 12 = .ok (.istore 4, 2) := by decide +kernel
theorem d14 : decode yB 14 = .ok (.iload 4, 2) := by decide +kernel
theorem d16 : decode yB 16 = .ok (.iload_n 2, 1) := by decide +kernel
theorem d17 : decode yB 17 = .ok (.if_icmp (.eq) 40, 3) := by decide +kernel
theorem d57 : decode yB 57 = .ok (.aload_n 3, 1) := by decide +kernel
theorem d58 : decode yB 58 = .ok (.areturn, 1) := by decide +kernel
def site : List Cond := [.arrayClass .byte, Cmp5.tab] ++ staticW U16 115 Cmp5.yN
def tab : Cond := tabOf yN yB 6 (some (.array .byte)) site
def P (b : Addr) (A : Cell) (o len : Nat) (args : Array Value) (s : State) : Prop := args = #[.ref b, .int (Int32.ofNat o), .int (Int32.ofNat len)] ∧ Ch b A s ∧ o + len ≤ A.slots.size ∧ len ≤ 536870912 ∧ ∀ i, i < len → ¬ 255 < cv A (o + i)
def E (b : Addr) (A : Cell) (o len : Nat) (r : Option Value) (s u : State) : Prop := NewArr .byte "[B" len (fun j => .int (lo8 (cv A (o + j)))) r s u ∧ u.heap.size = s.heap.size + 1
/-- no char of the range above 255: a new byte[] of their low bytes -/
theorem law (l : Launch) (b : Addr) (A : Cell) (o len : Nat) : Law l yN 3 3 1 18 yB 6 (some (.array .byte)) site (P b A o len) (E b A o len) [] 1 len := by
  refine Law.of_walk (plainFor_of_name (by decide +kernel)) (by decide +kernel) (by decide +kernel) (by decide) (fun _ _ h => by rw [h.1]; rfl) (fun _ U U' hal hh h => ⟨h.1, h.2.1.mv hal hh, h.2.2⟩) (fun r U U' V V' h1 hal h2 h => ⟨NewArr.mv r U U' V V' h1 hal h2 h.1, by rw [h1, h2]; exact h.2⟩) ?_
  intro p e s m args below meth c s₁ X0 hexec hbytes hml hret hlk hnm hown hh0 W hP
  obtain ⟨rfl, hA, l1, l2, hp⟩ := hP
  have a31 := hA.1.2.2.2
  have c1 : Steps p.tables e below (s₁.setTop (entryFrame m #[.ref b, .int (Int32.ofNat o), .int (Int32.ofNat len)] 6)) (s₁.setTop (mkF m 0 #[.val (.ref b), .val (.int (Int32.ofNat o)), .val (.int (Int32.ofNat len)), .unset, .unset, .unset] [])) := entry rfl
  have c2 : Steps p.tables e below (s₁.setTop (entryFrame m #[.ref b, .int (Int32.ofNat o), .int (Int32.ofNat len)] 6)) (s₁.setTop (mkF m 1 #[.val (.ref b), .val (.int (Int32.ofNat o)), .val (.int (Int32.ofNat len)), .unset, .unset, .unset] [.int (Int32.ofNat len)])) := c1.trans (by
    refine XS.iloadN X0.here hexec rfl (hb hbytes d0) rfl ?_
    exact Steps.refl _)
  obtain ⟨T3, B3, X3, ba3, bs3, bv3, bh3, bf3, st3⟩ := X0.anew hexec (atype := .byte) (wk W (.arrayClass .byte)) rfl (by show len * 1 ≤ _; omega) (by omega) (g := (mkF m 1 #[.val (.ref b), .val (.int (Int32.ofNat o)), .val (.int (Int32.ofNat len)), .unset, .unset, .unset] [.int (Int32.ofNat len)])) rfl (hb hbytes d1) (rest := []) rfl (Nat.le_refl _) (by show 0 + len ≤ len; omega)
  rw [hh0] at ba3 st3
  have kp3 : XT.Kept s T3 := (XT.Kept.of_eq hh0).push bh3
  have hA3 := hA.keep X3.warmed.alike (kp3 _ _ hA.1.1)
  have hne : b ≠ s.heap.size := hA.1.ne
  have c4 : Steps p.tables e below (s₁.setTop (entryFrame m #[.ref b, .int (Int32.ofNat o), .int (Int32.ofNat len)] 6)) (T3.setTop (mkF m 3 #[.val (.ref b), .val (.int (Int32.ofNat o)), .val (.int (Int32.ofNat len)), .unset, .unset, .unset] [.ref s.heap.size])) := c2.trans (st3 _ (Steps.refl _))
  have c5 : Steps p.tables e below (s₁.setTop (entryFrame m #[.ref b, .int (Int32.ofNat o), .int (Int32.ofNat len)] 6)) (T3.setTop (mkF m 9 #[.val (.ref b), .val (.int (Int32.ofNat o)), .val (.int (Int32.ofNat len)), .val (.ref s.heap.size), .unset, .unset] [.int (Int32.ofNat len), .int 0, .ref s.heap.size, .int (Int32.ofNat o), .ref b])) := c4.trans (by
    refine XS.astoreN X3.here hexec rfl (hb hbytes d3) rfl rfl rfl ?_
    refine XS.aloadN X3.here hexec rfl (hb hbytes d4) rfl rfl ?_
    refine XS.iloadN X3.here hexec rfl (hb hbytes d5) rfl ?_
    refine XS.aloadN X3.here hexec rfl (hb hbytes d6) rfl rfl ?_
    refine iconstV X3.here hexec rfl 0 (hb hbytes d7) (by decide) ?_
    refine XS.iloadN X3.here hexec rfl (hb hbytes d8) rfl ?_
    exact Steps.refl _)
  obtain ⟨v6, T6, X6, E6, g6⟩ := X3.callS hexec (Cmp5.law l b A s.heap.size B3 o 0 len) hown (wks W (staticW U16 115 Cmp5.yN)) (wk W Cmp5.tab) (W := 0) (Nat.le_of_ble_eq_true rfl) (Nat.le_of_ble_eq_true rfl) (Nat.le_refl _) (by show 0 + len + 0 ≤ len; omega) (g := (mkF m 9 #[.val (.ref b), .val (.int (Int32.ofNat o)), .val (.int (Int32.ofNat len)), .val (.ref s.heap.size), .unset, .unset] [.int (Int32.ofNat len), .int (Int32.ofNat 0), .ref s.heap.size, .int (Int32.ofNat o), .ref b])) rfl (by rw [hml]; rfl) c5 (argsL := [.ref b, .int (Int32.ofNat o), .ref s.heap.size, .int (Int32.ofNat 0), .int (Int32.ofNat len)]) (rest := []) rfl rfl (by show 2 * 0 + 0 ≤ _; decide) (hb hbytes d9) (⟨rfl, hA3, ba3, hne, l1, by rw [bs3]; simp, hp⟩)
  obtain ⟨rfl, B6, p6, f6⟩ := E6
  have c7 : Steps p.tables e below (s₁.setTop (entryFrame m #[.ref b, .int (Int32.ofNat o), .int (Int32.ofNat len)] 6)) (T6.setTop (mkF m 12 #[.val (.ref b), .val (.int (Int32.ofNat o)), .val (.int (Int32.ofNat len)), .val (.ref s.heap.size), .unset, .unset] [.int (Int32.ofNat len)])) := g6
  have c8 : Steps p.tables e below (s₁.setTop (entryFrame m #[.ref b, .int (Int32.ofNat o), .int (Int32.ofNat len)] 6)) (T6.setTop (mkF m 58 #[.val (.ref b), .val (.int (Int32.ofNat o)), .val (.int (Int32.ofNat len)), .val (.ref s.heap.size), .val (.int (Int32.ofNat len)), .unset] [.ref s.heap.size])) := c7.trans (by
    refine XS.istore X6.here hexec rfl (hb hbytes d12) rfl rfl ?_
    refine XS.iload X6.here hexec rfl (hb hbytes d14) rfl ?_
    refine XS.iloadN X6.here hexec rfl (hb hbytes d16) rfl ?_
    refine XS.icmpYes X6.here hexec rfl (pc0 := 17) rfl (hb hbytes d17) rfl (ii_eq_t rfl) (by decide) rfl ?_
    refine XS.aloadN X6.here hexec rfl (hb hbytes d57) rfl rfl ?_
    exact Steps.refl _)
  have X8 := X6.wide (L' := []) (cells' := 1) (slots' := len) (fun x hx hlt => by
    simp only [List.nil_append, copyLocs, List.mem_map, List.mem_range] at hx
    obtain ⟨i, -, rfl⟩ := hx
    exact absurd hlt (Nat.lt_irrefl _)) (Nat.le_refl _) (by omega)
  exact ⟨T6, some (.ref s.heap.size), _, _, _, X8, rfl, rfl, rfl, (fun h => by cases h), ⟨⟨rfl, B6, ba3.like (X3.warmed.alike.symm.trans X6.warmed.alike) p6.1 f6.1 f6.2.1 f6.2.2.1, f6.2.1.trans bv3, by rw [X6.warmed.alike.findClass, f6.1]; exact bf3, by rw [f6.2.2.1, bs3]; simp, fun j hj => by rw [f6.2.2.2 j, if_pos (by omega)]; rfl, kp3.put p6 (Nat.le_refl _)⟩, by rw [p6.2.2, bh3, hh0]; simp⟩, fun fs hl => c8.trans (X8.areturnOut hexec rfl hret rfl (hb hbytes d58) hl)⟩
end Cmp3
namespace CodL
def yN : MethodName := ⟨"java/lang/StringUTF16", "coderFromArrayLen", "([BI)B"⟩
abbrev yB : ByteArray := jdk_52_method_15_code
theorem d0 : decode yB 0 = .ok (.iload_n 1, 1) := by decide +kernel
theorem d1 : decode yB 1 = .ok (.aload_n 0, 1) := by decide +kernel
theorem d2 : decode yB 2 = .ok (.arraylength, 1) := by decide +kernel
theorem d3 : decode yB 3 = .ok (.isub, 1) := by decide +kernel
theorem d4 : decode yB 4 = .ok (.bipush 31, 2) := by decide +kernel
theorem d6 : decode yB 6 = .ok (.iushr, 1) := by decide +kernel
theorem d7 : decode yB 7 = .ok (.i2b, 1) := by decide +kernel
theorem d8 : decode yB 8 = .ok (.ireturn, 1) := by decide +kernel
def site : List Cond := []
def tab : Cond := tabOf yN yB 2 (some .byte) site
def P (d : Addr) (B : Cell) (args : Array Value) (s : State) : Prop := args = #[.ref d, .int (Int32.ofNat B.slots.size)] ∧ Arr .byte d B s
def E (r : Option Value) (s u : State) : Prop := XT.PureE (some (.int 0)) r s u
/-- an array as long as the number of chars: LATIN1 -/
theorem law (l : Launch) (d : Addr) (B : Cell) : Law l yN 2 2 0 0 yB 2 (some .byte) site (P d B) E [] 0 0 := by
  refine Law.of_walk (plainFor_of_name (by decide +kernel)) (by decide +kernel) (by decide +kernel) (by decide) (fun _ _ h => by rw [h.1]; rfl) (fun _ U U' hal hh h => ⟨h.1, h.2.mv hal hh⟩) (fun r U U' V V' h1 hal h2 h => XT.PureE.mv r U U' V V' h1 hal h2 h) ?_
  intro p e s m args below meth c s₁ X0 hexec hbytes hml hret hlk hnm hown hh0 W hP
  obtain ⟨rfl, hB⟩ := hP
  have hB0 := hB.mv X0.warmed.alike hh0
  have c1 : Steps p.tables e below (s₁.setTop (entryFrame m #[.ref d, .int (Int32.ofNat B.slots.size)] 2)) (s₁.setTop (mkF m 0 #[.val (.ref d), .val (.int (Int32.ofNat B.slots.size))] [])) := entry rfl
  have c2 : Steps p.tables e below (s₁.setTop (entryFrame m #[.ref d, .int (Int32.ofNat B.slots.size)] 2)) (s₁.setTop (mkF m 2 #[.val (.ref d), .val (.int (Int32.ofNat B.slots.size))] [.ref d, .int (Int32.ofNat B.slots.size)])) := c1.trans (by
    refine XS.iloadN X0.here hexec rfl (hb hbytes d0) rfl ?_
    refine XS.aloadN X0.here hexec rfl (hb hbytes d1) rfl rfl ?_
    exact Steps.refl _)
  have c3 : Steps p.tables e below (s₁.setTop (entryFrame m #[.ref d, .int (Int32.ofNat B.slots.size)] 2)) (s₁.setTop (mkF m 8 #[.val (.ref d), .val (.int (Int32.ofNat B.slots.size))] [.int (lo8 (ushr (Int32.ofNat B.slots.size - Int32.ofNat B.slots.size) 31))])) := c2.trans (by
    refine X0.alen hexec hB0 rfl rfl (hb hbytes d2) ?_
    refine XS.isub X0.here hexec rfl (hb hbytes d3) rfl ?_
    refine bipushV X0.here hexec rfl 31 (hb hbytes d4) (by decide) ?_
    refine iushr X0.here hexec rfl (hb hbytes d6) rfl ?_
    refine i2b X0.here hexec rfl (hb hbytes d7) rfl ?_
    exact Steps.refl _)
  have e0 : lo8 (ushr (Int32.ofNat B.slots.size - Int32.ofNat B.slots.size) 31) = 0 := by rw [Int32.sub_self]; decide
  rw [e0] at c3
  exact ⟨s₁, some (.int 0), _, _, _, X0, rfl, rfl, rfl, (fun h => by cases h), ⟨rfl, hh0⟩, fun fs hl => c3.trans (X0.ireturnOut hexec hret rfl (Or.inr (Or.inr (Or.inl rfl))) (hb hbytes d8) hl)⟩
end CodL
/-- the String at a is Latin-1 over a new byte[] (the heap's one new cell): the low bytes of the len chars of A from o on; every cell but a is kept -/
def Got (a : Addr) (D : Cell) (fV fC : Field) (A : Cell) (o len : Nat) (r : Option Value) (s u : State) : Prop := r = none ∧ ∃ D' V : Cell, Blank "java/lang/String" a D' u ∧ Same D D' [fV.slot, fC.slot] ∧ D'.slots[fV.slot]? = some (.ref s.heap.size) ∧ D'.slots[fC.slot]? = some (.int 0) ∧ Arr .byte s.heap.size V u ∧ V.vm = .none ∧ u.vm.findClass "[B" = some V.cls ∧ V.slots.size = len ∧ (∀ j, j < len → V.slots[j]? = some (.int (lo8 (cv A (o + j))))) ∧ (∀ (y : Addr) (c : Cell), y ≠ a → s.heap[y]? = some c → u.heap[y]? = some c) ∧ u.heap.size = s.heap.size + 1
theorem Got.mv {a : Addr} {D A : Cell} {fV fC : Field} {o len : Nat} : ∀ r (U U' V V' : State), U'.heap = U.heap → V.vm.Alike V'.vm → V'.heap = V.heap → Got a D fV fC A o len r U V → Got a D fV fC A o len r U' V' :=
  fun r U U' V V' h1 hal h2 ⟨e0, D', X, a1, a2, a3, a4, a5, a6, a7, a8, a9, a10, a11⟩ => ⟨e0, D', X, a1.mv hal h2, a2, by rw [h1]; exact a3, a4, by rw [h1]; exact a5.mv hal h2, a6, by rw [hal.findClass]; exact a7, a8, a9, by rw [h1, h2]; exact a10, by rw [h1, h2]; exact a11⟩
namespace New4
def yN : MethodName := ⟨"java/lang/String", "<init>", "([CIILjava/lang/Void;)V"⟩
abbrev yB : ByteArray := jdk_42_method_149_code
theorem d0 : decode yB 0 = .ok (.aload_n 0, 1) := by decide +kernel
theorem d1 : decode yB 1 = .ok (.invokespecial 1, 3) := by decide +kernel
theorem d4 : decode yB 4 = .ok (.iload_n 3, 1) := by decide +kernel
theorem d5 : decode yB 5 = .ok (.ifCond (.ne) 22, 3) := by decide +kernel
theorem d27 : decode yB 27 = .ok (.getstatic 38, 3) := by decide +kernel
theorem d30 : decode yB 30 = .ok (.ifCond (.eq) 28, 3) := by decide +kernel
theorem d33 : decode yB 33 = .ok (.aload_n 1, 1) := by decide +kernel
theorem d34 : decode yB 34 = .ok (.iload_n 2, 1) := by decide +kernel
theorem d35 : decode yB 35 = .ok (.iload_n 3, 1) := by decide +kernel
theorem d36 : decode yB 36 = .ok (.invokestatic 177, 3) := by decide +kernel
theorem d39 : decode yB 39 = .ok (.astore 5, 2) := by decide +kernel
theorem d41 : decode yB 41 = .ok (.aload_n 0, 1) := by decide +kernel
theorem d42 : decode yB 42 = .ok (.aload 5, 2) := by decide +kernel
theorem d44 : decode yB 44 = .ok (.iload_n 3, 1) := by decide +kernel
theorem d45 : decode yB 45 = .ok (.invokestatic 47, 3) := by decide +kernel
theorem d48 : decode yB 48 = .ok (.putfield 15, 3) := by decide +kernel
theorem d51 : decode yB 51 = .ok (.aload_n 0, 1) := by decide +kernel
theorem d52 : decode yB 52 = .ok (.aload 5, 2) := by decide +kernel
theorem d54 : decode yB 54 = .ok (.putfield 9, 3) := by decide +kernel
theorem d57 : decode yB 57 = .ok (.return_, 1) := by decide +kernel
def site : List Cond := [.fieldLink "java/lang/String" 38 "java/lang/String" "COMPACT_STRINGS" "Z", Cmp3.tab, CodL.tab, .laysFinal "java/lang/String" "java/lang/String" "value" "[B", .fieldLink "java/lang/String" 9 "java/lang/String" "value" "[B", .laysFinal "java/lang/String" "java/lang/String" "coder" "B", .fieldLink "java/lang/String" 15 "java/lang/String" "coder" "B"] ++ objW "java/lang/String" 1 ++ staticW "java/lang/String" 177 Cmp3.yN ++ staticW "java/lang/String" 47 CodL.yN
def tab : Cond := tabOf yN yB 6 none site
def P (a : Addr) (D : Cell) (fV fC : Field) (b : Addr) (A : Cell) (z : Int32) (o len : Nat) (args : Array Value) (s : State) : Prop := args = #[.ref a, .ref b, .int (Int32.ofNat o), .int (Int32.ofNat len), .null] ∧ Blank "java/lang/String" a D s ∧ Found "java/lang/String" "value" "[B" fV s ∧ Found "java/lang/String" "coder" "B" fC s ∧ Ch b A s ∧ StaticIs s "java/lang/String" "COMPACT_STRINGS" "Z" (.int z) ∧ ¬ z = 0 ∧ 0 < len ∧ o + len ≤ A.slots.size ∧ len ≤ 536870912 ∧ ∀ i, i < len → ¬ 255 < cv A (o + i)
def E (a : Addr) (D : Cell) (fV fC : Field) (A : Cell) (o len : Nat) (r : Option Value) (s u : State) : Prop := Got a D fV fC A o len r s u
/-- len > 0, no char of the range above 255: a Latin-1 String of their low bytes -/
theorem law (l : Launch) (a : Addr) (D : Cell) (fV fC : Field) (b : Addr) (A : Cell) (z : Int32) (o len : Nat) : Law l yN 5 4 2 35 yB 6 none site (P a D fV fC b A z o len) (E a D fV fC A o len) [⟨a, fC.slot⟩, ⟨a, fV.slot⟩] 1 len := by
  refine Law.of_walk (plainFor_of_name (by decide +kernel)) (by decide +kernel) (by decide +kernel) (by decide) (fun _ _ h => by rw [h.1]; rfl) (fun _ U U' hal hh h => ⟨h.1, h.2.1.mv hal hh, h.2.2.1.al hal, h.2.2.2.1.al hal, h.2.2.2.2.1.mv hal hh, h.2.2.2.2.2.1.there hal hh, h.2.2.2.2.2.2⟩) (fun r U U' V V' h1 hal h2 h => Got.mv r U U' V V' h1 hal h2 h) ?_
  intro p e s m args below meth c s₁ X0 hexec hbytes hml hret hlk hnm hown hh0 W hP
  obtain ⟨rfl, hB, f1, f2, hA, s1, hz, l0, l1, l2, hp⟩ := hP
  have a31 := hA.1.2.2.2
  have c1 : Steps p.tables e below (s₁.setTop (entryFrame m #[.ref a, .ref b, .int (Int32.ofNat o), .int (Int32.ofNat len), .null] 6)) (s₁.setTop (mkF m 0 #[.val (.ref a), .val (.ref b), .val (.int (Int32.ofNat o)), .val (.int (Int32.ofNat len)), .val .null, .unset] [])) := entry rfl
  have c2 : Steps p.tables e below (s₁.setTop (entryFrame m #[.ref a, .ref b, .int (Int32.ofNat o), .int (Int32.ofNat len), .null] 6)) (s₁.setTop (mkF m 1 #[.val (.ref a), .val (.ref b), .val (.int (Int32.ofNat o)), .val (.int (Int32.ofNat len)), .val .null, .unset] [.ref a])) := c1.trans (by
    refine XS.aloadN X0.here hexec rfl (hb hbytes d0) rfl rfl ?_
    exact Steps.refl _)
  obtain ⟨T3, X3, q3, st3⟩ := X0.oinit hexec hown (wks W (objW "java/lang/String" 1)) (g := (mkF m 1 #[.val (.ref a), .val (.ref b), .val (.int (Int32.ofNat o)), .val (.int (Int32.ofNat len)), .val .null, .unset] [.ref a])) rfl (by rw [hml]; rfl) (rest := []) rfl (hb hbytes d1) (W := 0) (by show 2 * 0 + 0 ≤ _; decide) (Nat.le_of_ble_eq_true rfl) (Nat.le_of_ble_eq_true rfl)
  have hh3 := q3.trans hh0
  have c4 : Steps p.tables e below (s₁.setTop (entryFrame m #[.ref a, .ref b, .int (Int32.ofNat o), .int (Int32.ofNat len), .null] 6)) (T3.setTop (mkF m 27 #[.val (.ref a), .val (.ref b), .val (.int (Int32.ofNat o)), .val (.int (Int32.ofNat len)), .val .null, .unset] [])) := (c2.trans (st3 _ (Steps.refl _))).trans (by
    refine XS.iloadN X3.here hexec rfl (hb hbytes d4) rfl ?_
    refine XS.ifYes X3.here hexec rfl (pc0 := 5) rfl (hb hbytes d5) rfl (i0_ne_t (nz32 (by omega) l0)) (by decide) rfl ?_
    exact Steps.refl _)
  obtain ⟨T5, X5, q5, st5⟩ := X3.sget hexec hown (wk W (.fieldLink "java/lang/String" 38 "java/lang/String" "COMPACT_STRINGS" "Z")) s1 (fun _ _ h => by rw [hh3]; exact h) (g := (mkF m 27 #[.val (.ref a), .val (.ref b), .val (.int (Int32.ofNat o)), .val (.int (Int32.ofNat len)), .val .null, .unset] [])) rfl (hb hbytes d27)
  have hh5 := q5.trans hh3
  have c6 : Steps p.tables e below (s₁.setTop (entryFrame m #[.ref a, .ref b, .int (Int32.ofNat o), .int (Int32.ofNat len), .null] 6)) (T5.setTop (mkF m 30 #[.val (.ref a), .val (.ref b), .val (.int (Int32.ofNat o)), .val (.int (Int32.ofNat len)), .val .null, .unset] [.int z])) := c4.trans (st5 _ (Steps.refl _))
  have c7 : Steps p.tables e below (s₁.setTop (entryFrame m #[.ref a, .ref b, .int (Int32.ofNat o), .int (Int32.ofNat len), .null] 6)) (T5.setTop (mkF m 36 #[.val (.ref a), .val (.ref b), .val (.int (Int32.ofNat o)), .val (.int (Int32.ofNat len)), .val .null, .unset] [.int (Int32.ofNat len), .int (Int32.ofNat o), .ref b])) := c6.trans (by
    refine XS.ifNo X5.here hexec rfl (hb hbytes d30) rfl (i0_eq_f hz) ?_
    refine XS.aloadN X5.here hexec rfl (hb hbytes d33) rfl rfl ?_
    refine XS.iloadN X5.here hexec rfl (hb hbytes d34) rfl ?_
    refine XS.iloadN X5.here hexec rfl (hb hbytes d35) rfl ?_
    exact Steps.refl _)
  obtain ⟨v8, T8, X8, E8, g8⟩ := X5.callS hexec (Cmp3.law l b A o len) hown (wks W (staticW "java/lang/String" 177 Cmp3.yN)) (wk W Cmp3.tab) (W := 0) (Nat.le_of_ble_eq_true rfl) (Nat.le_of_ble_eq_true rfl) (Nat.le_refl _) (by show 0 + len ≤ len; omega) (g := (mkF m 36 #[.val (.ref a), .val (.ref b), .val (.int (Int32.ofNat o)), .val (.int (Int32.ofNat len)), .val .null, .unset] [.int (Int32.ofNat len), .int (Int32.ofNat o), .ref b])) rfl (by rw [hml]; rfl) c7 (argsL := [.ref b, .int (Int32.ofNat o), .int (Int32.ofNat len)]) (rest := []) rfl rfl (by show 2 * 0 + 0 ≤ _; decide) (hb hbytes d36) (⟨rfl, hA.mv X5.warmed.alike hh5, l1, l2, hp⟩)
  obtain ⟨e8, z8⟩ := E8
  obtain ⟨rfl, N, n1, n2, n3, n4, n5, n6⟩ := NewArr.mv _ T5 s _ _ hh5.symm (Vm.Alike.refl _) rfl e8
  rw [hh5] at z8
  have hB1 := hB.keep X8.warmed.alike (n6 _ _ hB.1)
  have hne : s.heap.size ≠ a := (Nat.ne_of_lt (Array.getElem?_eq_some_iff.mp hB.1).1).symm
  have c9 : Steps p.tables e below (s₁.setTop (entryFrame m #[.ref a, .ref b, .int (Int32.ofNat o), .int (Int32.ofNat len), .null] 6)) (T8.setTop (mkF m 39 #[.val (.ref a), .val (.ref b), .val (.int (Int32.ofNat o)), .val (.int (Int32.ofNat len)), .val .null, .unset] [.ref s.heap.size])) := g8
  have c10 : Steps p.tables e below (s₁.setTop (entryFrame m #[.ref a, .ref b, .int (Int32.ofNat o), .int (Int32.ofNat len), .null] 6)) (T8.setTop (mkF m 45 #[.val (.ref a), .val (.ref b), .val (.int (Int32.ofNat o)), .val (.int (Int32.ofNat len)), .val .null, .val (.ref s.heap.size)] [.int (Int32.ofNat N.slots.size), .ref s.heap.size, .ref a])) := by
    have hc : Steps p.tables e below (s₁.setTop (entryFrame m #[.ref a, .ref b, .int (Int32.ofNat o), .int (Int32.ofNat len), .null] 6)) (T8.setTop (mkF m 45 #[.val (.ref a), .val (.ref b), .val (.int (Int32.ofNat o)), .val (.int (Int32.ofNat len)), .val .null, .val (.ref s.heap.size)] [.int (Int32.ofNat len), .ref s.heap.size, .ref a])) := c9.trans (by
      refine XS.astore X8.here hexec rfl (hb hbytes d39) rfl rfl rfl ?_
      refine XS.aloadN X8.here hexec rfl (hb hbytes d41) rfl rfl ?_
      refine XS.aload X8.here hexec rfl (hb hbytes d42) rfl rfl ?_
      refine XS.iloadN X8.here hexec rfl (hb hbytes d44) rfl ?_
      exact Steps.refl _)
    rw [n4]; exact hc
  obtain ⟨v11, T11, X11, E11, g11⟩ := X8.callS hexec (CodL.law l s.heap.size N) hown (wks W (staticW "java/lang/String" 47 CodL.yN)) (wk W CodL.tab) (W := 1) (Nat.le_of_ble_eq_true rfl) (Nat.le_of_ble_eq_true rfl) (Nat.le_refl _) (by show 0 + len + 0 ≤ len; omega) (g := (mkF m 45 #[.val (.ref a), .val (.ref b), .val (.int (Int32.ofNat o)), .val (.int (Int32.ofNat len)), .val .null, .val (.ref s.heap.size)] [.int (Int32.ofNat N.slots.size), .ref s.heap.size, .ref a])) rfl (by rw [hml]; rfl) c10 (argsL := [.ref s.heap.size, .int (Int32.ofNat N.slots.size)]) (rest := [.ref a]) rfl rfl (by show 2 * 0 + (1 + 0) ≤ _; decide) (hb hbytes d45) (⟨rfl, n1⟩)
  obtain ⟨rfl, q11⟩ := E11
  have hB11 := hB1.mv (X8.warmed.alike.symm.trans X11.warmed.alike) q11
  have c12 : Steps p.tables e below (s₁.setTop (entryFrame m #[.ref a, .ref b, .int (Int32.ofNat o), .int (Int32.ofNat len), .null] 6)) (T11.setTop (mkF m 48 #[.val (.ref a), .val (.ref b), .val (.int (Int32.ofNat o)), .val (.int (Int32.ofNat len)), .val .null, .val (.ref s.heap.size)] [.int 0, .ref a])) := g11
  obtain ⟨T13, X13, p13, bl13, sl13, st13⟩ := X11.finit hexec hown (wk W (.fieldLink "java/lang/String" 15 "java/lang/String" "coder" "B")) (Or.inr ⟨_, (wk W (.laysFinal "java/lang/String" "java/lang/String" "coder" "B"))⟩) (Or.inl ⟨rfl, hnm⟩) f2 (Or.inl rfl) hB11 (t := .byte) (by decide +kernel) rfl (g := (mkF m 48 #[.val (.ref a), .val (.ref b), .val (.int (Int32.ofNat o)), .val (.int (Int32.ofNat len)), .val .null, .val (.ref s.heap.size)] [.int 0, .ref a])) rfl (rest := []) rfl (hb hbytes d48)
  have c14 : Steps p.tables e below (s₁.setTop (entryFrame m #[.ref a, .ref b, .int (Int32.ofNat o), .int (Int32.ofNat len), .null] 6)) (T13.setTop (mkF m 54 #[.val (.ref a), .val (.ref b), .val (.int (Int32.ofNat o)), .val (.int (Int32.ofNat len)), .val .null, .val (.ref s.heap.size)] [.ref s.heap.size, .ref a])) := (c12.trans (st13 _ (Steps.refl _))).trans (by
    refine XS.aloadN X13.here hexec rfl (hb hbytes d51) rfl rfl ?_
    refine XS.aload X13.here hexec rfl (hb hbytes d52) rfl rfl ?_
    exact Steps.refl _)
  obtain ⟨T15, X15, p15, bl15, sl15, st15⟩ := X13.finit hexec hown (wk W (.fieldLink "java/lang/String" 9 "java/lang/String" "value" "[B")) (Or.inr ⟨_, (wk W (.laysFinal "java/lang/String" "java/lang/String" "value" "[B"))⟩) (Or.inl ⟨rfl, hnm⟩) f1 (Or.inl rfl) bl13 (t := (.array .byte)) (by decide +kernel) rfl (g := (mkF m 54 #[.val (.ref a), .val (.ref b), .val (.int (Int32.ofNat o)), .val (.int (Int32.ofNat len)), .val .null, .val (.ref s.heap.size)] [.ref s.heap.size, .ref a])) rfl (rest := []) rfl (hb hbytes d54)
  have c16 : Steps p.tables e below (s₁.setTop (entryFrame m #[.ref a, .ref b, .int (Int32.ofNat o), .int (Int32.ofNat len), .null] 6)) (T15.setTop (mkF m 57 #[.val (.ref a), .val (.ref b), .val (.int (Int32.ofNat o)), .val (.int (Int32.ofNat len)), .val .null, .val (.ref s.heap.size)] [])) := c14.trans (st15 _ (Steps.refl _))
  have ap := apart (Or.inr ⟨_, (wk W (.laysFinal "java/lang/String" "java/lang/String" "value" "[B"))⟩) (Or.inr ⟨_, (wk W (.laysFinal "java/lang/String" "java/lang/String" "coder" "B"))⟩) f1 f2 (t₁ := .array .byte) (t₂ := .byte) (by decide +kernel) (by decide +kernel) (by decide)
  have al := X8.warmed.alike.symm.trans X15.warmed.alike
  have n7 : T11.heap[s.heap.size]? = some N := by rw [q11]; exact n1.1
  exact ⟨T15, none, _, _, _, X15, by simp, rfl, by omega, (fun _ => rfl), ⟨rfl, _, N, bl15, ((Same.refl D _).set _ (by simp)).set _ (by simp), sl15, (Cell.slots_setSlot_ne _ ap).trans sl13, n1.keep al (p15.other hne (p13.other hne n7)), n2, by rw [al.findClass]; exact n3, n4, n5, fun y c h1 h2 => p15.other h1 (p13.other h1 (by rw [q11]; exact n6 y c h2)), by rw [p15.2.2, p13.2.2, q11]; exact z8⟩, fun fs hl => c16.trans (X15.returnOut hexec hret (hb hbytes d57) hl)⟩
end New4
namespace New1
def yN : MethodName := ⟨"java/lang/String", "<init>", "([C)V"⟩
abbrev yB : ByteArray := jdk_42_method_3_code
theorem d0 : decode yB 0 = .ok (.aload_n 0, 1) := by decide +kernel
theorem d1 : decode yB 1 = .ok (.aload_n 1, 1) := by decide +kernel
theorem d2 : decode yB 2 = .ok (.iconst 0, 1) := by decide +kernel
theorem d3 : decode yB 3 = .ok (.aload_n 1, 1) := by decide +kernel
theorem d4 : decode yB 4 = .ok (.arraylength, 1) := by decide +kernel
theorem d5 : decode yB 5 = .ok (.aconst_null, 1) := by decide +kernel
theorem d6 : decode yB 6 = .ok (.invokespecial 27, 3) := by decide +kernel
theorem d9 : decode yB 9 = .ok (.return_, 1) := by decide +kernel
def site : List Cond := [New4.tab] ++ initW "java/lang/String" 27 New4.yN
def tab : Cond := tabOf yN yB 2 none site
def P (a : Addr) (D : Cell) (fV fC : Field) (b : Addr) (A : Cell) (z : Int32) (args : Array Value) (s : State) : Prop := args = #[.ref a, .ref b] ∧ Blank "java/lang/String" a D s ∧ Found "java/lang/String" "value" "[B" fV s ∧ Found "java/lang/String" "coder" "B" fC s ∧ Ch b A s ∧ StaticIs s "java/lang/String" "COMPACT_STRINGS" "Z" (.int z) ∧ ¬ z = 0 ∧ 0 < A.slots.size ∧ A.slots.size ≤ 536870912 ∧ ∀ i, i < A.slots.size → ¬ 255 < cv A i
def E (a : Addr) (D : Cell) (fV fC : Field) (A : Cell) (r : Option Value) (s u : State) : Prop := Got a D fV fC A 0 A.slots.size r s u
/-- new String(chars), not empty, no char above 255: a Latin-1 String of their low bytes -/
theorem law (l : Launch) (a : Addr) (D : Cell) (fV fC : Field) (b : Addr) (A : Cell) (z : Int32) : Law l yN 2 1 3 52 yB 2 none site (P a D fV fC b A z) (E a D fV fC A) [⟨a, fC.slot⟩, ⟨a, fV.slot⟩] 1 A.slots.size := by
  refine Law.of_walk (plainFor_of_name (by decide +kernel)) (by decide +kernel) (by decide +kernel) (by decide) (fun _ _ h => by rw [h.1]; rfl) (fun _ U U' hal hh h => ⟨h.1, h.2.1.mv hal hh, h.2.2.1.al hal, h.2.2.2.1.al hal, h.2.2.2.2.1.mv hal hh, h.2.2.2.2.2.1.there hal hh, h.2.2.2.2.2.2⟩) (fun r U U' V V' h1 hal h2 h => Got.mv r U U' V V' h1 hal h2 h) ?_
  intro p e s m args below meth c s₁ X0 hexec hbytes hml hret hlk hnm hown hh0 W hP
  obtain ⟨rfl, hB, f1, f2, hA, s1, hz, l0, l2, hp⟩ := hP
  have c1 : Steps p.tables e below (s₁.setTop (entryFrame m #[.ref a, .ref b] 2)) (s₁.setTop (mkF m 0 #[.val (.ref a), .val (.ref b)] [])) := entry rfl
  have c2 : Steps p.tables e below (s₁.setTop (entryFrame m #[.ref a, .ref b] 2)) (s₁.setTop (mkF m 6 #[.val (.ref a), .val (.ref b)] [.null, .int (Int32.ofNat A.slots.size), .int 0, .ref b, .ref a])) := c1.trans (by
    refine XS.aloadN X0.here hexec rfl (hb hbytes d0) rfl rfl ?_
    refine XS.aloadN X0.here hexec rfl (hb hbytes d1) rfl rfl ?_
    refine iconstV X0.here hexec rfl 0 (hb hbytes d2) (by decide) ?_
    refine XS.aloadN X0.here hexec rfl (hb hbytes d3) rfl rfl ?_
    refine X0.alen hexec (hA.1.mv X0.warmed.alike hh0) rfl rfl (hb hbytes d4) ?_
    refine XS.aconstNull X0.here hexec rfl (hb hbytes d5) ?_
    exact Steps.refl _)
  obtain ⟨v3, T3, X3, E3, g3⟩ := X0.callN hexec (New4.law l a D fV fC b A z 0 A.slots.size) rfl hown (wks W (initW "java/lang/String" 27 New4.yN)) (W New4.tab (by simp only [site, List.mem_cons, List.mem_append, true_or, or_true])) (W := 0) (Nat.le_of_ble_eq_true rfl) (Nat.le_of_ble_eq_true rfl) (Nat.le_refl _) (by show 0 + A.slots.size ≤ A.slots.size; omega) (g := (mkF m 6 #[.val (.ref a), .val (.ref b)] [.null, .int (Int32.ofNat A.slots.size), .int (Int32.ofNat 0), .ref b, .ref a])) rfl (by rw [hml]; rfl) c2 (argsL := [.ref b, .int (Int32.ofNat 0), .int (Int32.ofNat A.slots.size), .null]) (rest := []) rfl rfl (by show 2 * 0 + 0 ≤ _; decide) (hb hbytes d6) (⟨rfl, hB.mv X0.warmed.alike hh0, f1.al X0.warmed.alike, f2.al X0.warmed.alike, hA.mv X0.warmed.alike hh0, s1.there X0.warmed.alike hh0, hz, l0, by omega, l2, fun i hi => by rw [Nat.zero_add]; exact hp i hi⟩)
  have e0 := Got.mv _ s₁ s _ _ hh0.symm (Vm.Alike.refl _) rfl E3
  obtain rfl := e0.1
  have c4 : Steps p.tables e below (s₁.setTop (entryFrame m #[.ref a, .ref b] 2)) (T3.setTop (mkF m 9 #[.val (.ref a), .val (.ref b)] [])) := g3
  exact ⟨T3, none, _, _, _, X3, by simp, rfl, by omega, (fun _ => rfl), e0, fun fs hl => c4.trans (X3.returnOut hexec hret (hb hbytes d9) hl)⟩
theorem pays {l : Launch} {R : Room} {p : Program} {e : Env} {below : List Frame} {s : State} {sargs : Array Value} {len W : Nat} (a : Addr) (D : Cell) (fV fC : Field) (b : Addr) (A : Cell) (z : Int32) (htab : tab.before sargs s = true) (hfr : 4 ≤ R.frames) (hlo : W + 65 ≤ R.locals) :
    Back l R p e below s sargs yN len W (fun A₁ a₁ => A₁.cells + 1 ≤ R.cells ∧ A₁.slots + A.slots.size ≤ R.slots ∧ P a D fV fC b A z a₁ A₁.U) (fun A₁ _ v₁ B₁ => E a D fV fC A v₁ A₁.U B₁.U ∧ B₁.locs = A₁.locs ++ [⟨a, fC.slot⟩, ⟨a, fV.slot⟩] ∧ B₁.cells = A₁.cells + 1 ∧ B₁.slots = A₁.slots + A.slots.size) :=
  (law l a D fV fC b A z).pays htab hfr (by omega)
end New1
/-- the byte, read back as charAt reads it, is the char -/
theorem lo8_mask {x : Int32} (h0 : ¬ x < 0) (h1 : ¬ 255 < x) : lo8 x &&& 255 = x := by
  have t : ∀ k : Fin 256, lo8 (Int32.ofNat k.val) &&& 255 = Int32.ofNat k.val := by decide +kernel
  rw [Int32.lt_iff_toInt_lt] at h0 h1
  have e0 : (0 : Int32).toInt = 0 := rfl
  have e1 : (255 : Int32).toInt = 255 := rfl
  obtain ⟨k, hk⟩ : ∃ k : Nat, x.toInt = k := ⟨x.toInt.toNat, by omega⟩
  have hx : x = Int32.ofNat k := Int32.toInt_inj.mp (by rw [hk, Int32.toInt_ofNat_small (by omega)])
  rw [hx]
  exact t ⟨k, by omega⟩
end StrChars
namespace StrChars.Road
open Jvm Sem ClassFile Op Lib Jvm.Stand Jvm.Free Jvm.Free.XT
open Jvm.Lib.Cold (StaticIs)
abbrev ST : String := "java/lang/String"
/-- every table word that New1's law asks, flat -/
abbrev words : List Jvm.Cond := [.code New1.yN New1.yB 2 none, .initialized ST, .methodLink ST 27 New4.yN, .instanceMethod New4.yN,
  .code New4.yN New4.yB 6 none, .fieldLink ST 38 ST "COMPACT_STRINGS" "Z", .laysFinal ST ST "value" "[B", .fieldLink ST 9 ST "value" "[B", .laysFinal ST ST "coder" "B", .fieldLink ST 15 ST "coder" "B",
  .methodLink ST 1 Lib.objectInit, .instanceMethod Lib.objectInit, .code Lib.objectInit ⟨#[0xb1]⟩ 1 none, .methodLink ST 177 Cmp3.yN, .static Cmp3.yN, .methodLink ST 47 CodL.yN, .static CodL.yN,
  .code Cmp3.yN Cmp3.yB 6 (some (.array .byte)), .initialized U16, .arrayClass .byte, .methodLink U16 115 Cmp5.yN, .static Cmp5.yN, .code Cmp5.yN Cmp5.yB 7 (some .int), .code CodL.yN CodL.yB 2 (some .byte)]
theorem tab_of {a : Array Value} {s : State} (h : ∀ w ∈ words, w.before a s = true) : New1.tab.before a s = true := by
  have h5 : Cmp5.tab.before a s = true := unparts (wk h (.code Cmp5.yN Cmp5.yB 7 (some .int))) (wks h (.initialized Cmp5.yN.cls :: Cmp5.site))
  have hc : CodL.tab.before a s = true := unparts (wk h (.code CodL.yN CodL.yB 2 (some .byte))) (wks h (.initialized CodL.yN.cls :: CodL.site))
  have q5 : ∀ w ∈ Cmp5.tab :: words, w.before a s = true := fun w hw => (List.mem_cons.mp hw).elim (fun e => e ▸ h5) (h w)
  have h3 : Cmp3.tab.before a s = true := unparts (wk q5 (.code Cmp3.yN Cmp3.yB 6 (some (.array .byte)))) (wks q5 (.initialized Cmp3.yN.cls :: Cmp3.site))
  have q3 : ∀ w ∈ Cmp3.tab :: CodL.tab :: words, w.before a s = true := fun w hw => (List.mem_cons.mp hw).elim (fun e => e ▸ h3) fun hw => (List.mem_cons.mp hw).elim (fun e => e ▸ hc) (h w)
  have h4 : New4.tab.before a s = true := unparts (wk q3 (.code New4.yN New4.yB 6 none)) (wks q3 (.initialized New4.yN.cls :: New4.site))
  have q4 : ∀ w ∈ New4.tab :: words, w.before a s = true := fun w hw => (List.mem_cons.mp hw).elim (fun e => e ▸ h4) (h w)
  exact unparts (wk q4 (.code New1.yN New1.yB 2 none)) (wks q4 (.initialized New1.yN.cls :: New1.site))
/-- the words ride from the start Z to the walk's own state -/
theorem moved {Z s : State} {a0 args : Array Value} (hZ : Z.Warmed39 s.vm) (hw : ∀ d ∈ words, d.before a0 Z = true) : ∀ d ∈ words, d.before args s = true := fun d hd => by
  have q := hw d hd
  have t : ∀ d ∈ words, d = .arrayClass .byte ∨ (d.onTables && d.keepsFace) = true := by decide +kernel
  rcases t d hd with rfl | t
  · exact RoadKit.mvA hZ q
  · exact RoadKit.mv hZ q t
/-- WHAT COMES BACK, over the tables of the start Z: h the heap at the call, h' behind it -/
def Q (Z : State) (x : Addr) (A : Cell) (h : Heap) (v : Option Value) (h' : Heap) (L : List Loc) : Prop := v = none ∧ (∀ y ∈ L, y.base = x) ∧ RoadKit.Keep h h' [x] ∧ h'.size = h.size + 1 ∧ RoadKit.Exa Z h' x ST ∧ RoadKit.Fld Z h' x ST "value" "[B" (.ref h.size) ∧ RoadKit.Fld Z h' x ST "coder" "B" (.int 0) ∧
  (∃ V : Cell, RoadKit.Arr Z h' h.size V .byte ∧ V.vm = .none ∧ Z.vm.findClass "[B" = some V.cls ∧ V.slots.size = A.slots.size ∧ ∀ j, j < A.slots.size → V.slots[j]? = some (.int (lo8 (cv A j)))) ∧
  ∀ (O n d : String) (w : Value), RoadKit.Fld Z h x O n d w → RoadKit.slotOf Z O n d ≠ RoadKit.slotOf Z ST "value" "[B" → RoadKit.slotOf Z O n d ≠ RoadKit.slotOf Z ST "coder" "B" → RoadKit.Fld Z h' x O n d w
/-- **new String(chars) AT A CALL, IN THE ROAD'S FORM**: for specialBack behind newO: x the fresh String, b the char[] with the cell A -/
theorem back {p : Program} {l : Launch} {e : Env} {R : Room} {s : State} {args : Array Value} {below : List Frame} {len W : Nat} {Z : State} {a0 : Array Value} {h : Heap} (hZ : Z.Warmed39 s.vm) (hw : ∀ d ∈ words, d.before a0 Z = true) {kI : Nat} (wi : (Jvm.Cond.instantiable ST kI).before a0 Z = true)
    {x b : Addr} {A : Cell} {z : Int32} {v0 c0 : Value} (E : RoadKit.Exa Z h x ST) (V : RoadKit.Fld Z h x ST "value" "[B" v0) (C : RoadKit.Fld Z h x ST "coder" "B" c0) (K : RoadKit.Arr Z h b A .char) (hty : Typed .char A) (S : RoadKit.Sta Z h ST "COMPACT_STRINGS" "Z" (.int z)) (hz : ¬ z = 0)
    (l0 : 0 < A.slots.size) (l2 : A.slots.size ≤ 536870912) (hp : ∀ i, i < A.slots.size → ¬ 255 < cv A i) (hfr : 4 ≤ R.frames) (hlo : W + 65 ≤ R.locals) :
    Back l R p e below s args New1.yN len W (fun P a => a = #[.ref x, .ref b] ∧ P.U.heap = h ∧ P.cells + 1 ≤ R.cells ∧ P.slots + A.slots.size ≤ R.slots)
      (fun P _ v B => ∃ L, Q Z x A h v B.U.heap L ∧ B.locs = P.locs ++ L ∧ B.cells = P.cells + 1 ∧ B.slots = P.slots + A.slots.size) := by
  intro m meth c P g ig mk a X hg hsize hdg hW hn hp'
  obtain ⟨rfl, rfl, r1, r2⟩ := hp'
  have al : Z.vm.Alike P.U.vm := hZ.alike.trans X.warmed.alike
  obtain ⟨D, cfV, kV, iV, fV, hD, gV, stV, knV, obV, asV, slV⟩ := id V
  obtain ⟨D', cfC, kC, iC, fC, hD', gC, stC, -, -, asC, slC⟩ := id C
  cases hD.symm.trans hD'
  obtain ⟨D2, kD, e1, e2, e3, e4, e5⟩ := id E
  cases hD.symm.trans e1
  obtain ⟨c2, k2, i1, i2, i3, -⟩ := Cond.instantiable_spec wi
  cases e2.symm.trans i1
  cases e3.symm.trans i2
  obtain ⟨kU, u1, u2⟩ := al.2.2 _ _ e3
  have hB : Blank ST x D P.U := ⟨hD, ⟨knV, fun q hq => by rw [hq] at obV; cases obV⟩, by rw [al.findClass]; exact e2, kU, u1, by rw [u2]; exact i3, by rw [u2]; exact e5 i3⟩
  have F1 : Found ST "value" "[B" fV P.U := ⟨SBG.found_only al ⟨cfV, kV, iV, gV⟩, stV⟩
  have F2 : Found ST "coder" "B" fC P.U := ⟨SBG.found_only al ⟨cfC, kC, iC, gC⟩, stC⟩
  have hA : Ch b A P.U := ⟨⟨K.1, State.isArrayOf_alike al K.2.1, K.2.2, by omega⟩, hty⟩
  have hS : StaticIs P.U ST "COMPACT_STRINGS" "Z" (.int z) := by
    obtain ⟨cfS, iS, kS, fS, st, cS, t1, t2, t3, t4, t5, t6, t7⟩ := S
    exact StaticIs.there (s := { Z with heap := P.U.heap }) ⟨cfS, iS, kS, fS, st, cS, t1, t2, t3, t4, t5, (fun q => by rw [q] at t6; cases t6), t7⟩ al rfl
  obtain ⟨v, B, X', ⟨⟨hv, E', V', q1, q2, q3, q4, q5, q6, q7, q8, q9, q10, q11⟩, hl, hc, hs⟩, st⟩ := New1.pays x D fV fC b A z (tab_of (moved hZ hw)) hfr hlo m meth c P g ig mk _ X hg hsize hdg hW hn ⟨r1, r2, rfl, hB, F1, F2, hA, hS, hz, l0, l2, hp⟩
  have al' : Z.vm.Alike B.U.vm := hZ.alike.trans X'.warmed.alike
  have hsz : E'.slots.size = D.slots.size := by
    obtain ⟨-, -, -, kB, w1, w2, w3⟩ := q1
    obtain ⟨kB', y1, y2⟩ := al'.2.2 _ _ e3
    rw [q2.2.1] at w1
    cases w1.symm.trans y1
    rw [w3, e5 i3, y2]
  refine ⟨v, B, X', ⟨_, ⟨hv, ?_, ⟨by omega, fun y cy hy hn' => q10 y cy (by simpa using hn') hy, fun y cy hy => ?_⟩, q11, ⟨E', _, q1.1, by rw [q2.2.1]; exact e2, by rw [q2.2.1]; exact e3, by rw [q2.1]; exact obV, fun _ => by rw [hsz]; exact e5 i3⟩,
    ⟨E', cfV, kV, iV, fV, q1.1, gV, stV, by rw [q2.1]; exact knV, by rw [q2.1]; exact obV, by rw [q2.2.1]; exact asV, q3⟩, ⟨E', cfC, kC, iC, fC, q1.1, gC, stC, by rw [q2.1]; exact knV, by rw [q2.1]; exact obV, by rw [q2.2.1]; exact asC, q4⟩,
    ⟨V', ⟨q5.1, State.isArrayOf_alike al'.symm q5.2.1, q5.2.2.1⟩, q6, by rw [← al'.findClass]; exact q7, q8, fun j hj => by have := q9 j hj; rwa [Nat.zero_add] at this⟩, fun O n d w F n1 n2 => ?_⟩, hl, hc, hs⟩, st⟩
  · intro y hy
    simp only [List.mem_cons, List.not_mem_nil, or_false] at hy
    rcases hy with rfl | rfl <;> rfl
  · by_cases q : y = x
    · subst q
      cases hD.symm.trans hy
      exact ⟨E', q1.1, q2.2.1, q2.1, hsz⟩
    · exact ⟨cy, q10 y cy q hy, rfl, rfl, rfl⟩
  · obtain ⟨D3, cf, k, i, f, g1, g2, g3, g4, g5, g6, g7⟩ := F
    cases hD.symm.trans g1
    simp only [RoadKit.slotOf, g2, gV, gC, Option.map_some, Option.getD_some] at n1 n2
    exact ⟨E', cf, k, i, f, q1.1, g2, g3, by rw [q2.1]; exact g4, by rw [q2.1]; exact g5, by rw [q2.2.1]; exact g6, by rw [q2.2.2 f.slot (by simp [n1, n2])]; exact g7⟩
end StrChars.Road
namespace StrChars.Road
open Jvm Sem ClassFile Op Lib Jvm.Stand Jvm.Free Jvm.Free.XT
/-- WHAT COMES BACK, the byte[] as a list of values -/
def QA (Z : State) (x : Addr) (zn : Int32) (cs : List Int32) (h : Heap) (v : Option Value) (h' : Heap) (L : List Loc) : Prop := v = none ∧ (∀ y ∈ L, y.base = x) ∧ RoadKit.Keep h h' [x] ∧ h'.size = h.size + 1 ∧ RoadKit.Exa Z h' x ST ∧ RoadKit.Fld Z h' x ST "value" "[B" (.ref h.size) ∧ RoadKit.Fld Z h' x ST "coder" "B" (.int 0) ∧
  (∃ kb, Z.vm.findClass "[B" = some kb ∧ RoadKit.Arv Z h' h.size kb .byte zn (cs.map fun c => .int (lo8 c)) (.int 0)) ∧
  ∀ (O n d : String) (w : Value), RoadKit.Fld Z h x O n d w → RoadKit.slotOf Z O n d ≠ RoadKit.slotOf Z ST "value" "[B" → RoadKit.slotOf Z O n d ≠ RoadKit.slotOf Z ST "coder" "B" → RoadKit.Fld Z h' x O n d w
/-- **new String(chars) AT A CALL, THE ARRAYS AS LISTS**: the char[] at b holds cs, not empty, no char above 255 -/
theorem backArv {p : Program} {l : Launch} {e : Env} {R : Room} {s : State} {args : Array Value} {below : List Frame} {len W : Nat} {Z : State} {a0 : Array Value} {h : Heap} (hZ : Z.Warmed39 s.vm) (hw : ∀ d ∈ words, d.before a0 Z = true) {kI : Nat} (wi : (Jvm.Cond.instantiable ST kI).before a0 Z = true)
    {x b : Addr} {k : ClassId} {zn z : Int32} {cs : List Int32} {dv v0 c0 : Value} (E : RoadKit.Exa Z h x ST) (V : RoadKit.Fld Z h x ST "value" "[B" v0) (C : RoadKit.Fld Z h x ST "coder" "B" c0) (K : RoadKit.Arv Z h b k .char zn (cs.map Value.int) dv) (S : RoadKit.Sta Z h ST "COMPACT_STRINGS" "Z" (.int z)) (hz : ¬ z = 0)
    (hlen : zn.toNatClampNeg = cs.length) (h0 : 0 < cs.length) (hbig : cs.length ≤ 536870912) (hall : ∀ c ∈ cs, ¬ 255 < c) (hfr : 4 ≤ R.frames) (hlo : W + 65 ≤ R.locals) :
    Back l R p e below s args New1.yN len W (fun P a => a = #[.ref x, .ref b] ∧ P.U.heap = h ∧ P.cells + 1 ≤ R.cells ∧ P.slots + cs.length ≤ R.slots)
      (fun P _ v B => ∃ L, QA Z x zn cs h v B.U.heap L ∧ B.locs = P.locs ++ L ∧ B.cells = P.cells + 1 ∧ B.slots = P.slots + cs.length) := by
  obtain ⟨A, K1, K2, K3, K4, K5, K6⟩ := K
  have e : A.slots.size = cs.length := K3.trans hlen
  have hat : ∀ (i : Nat) (hi : i < cs.length), A.slots[i]? = some (.int cs[i]) := fun i hi => by rw [K5 i (by omega)]; simp [List.getD_eq_getElem?_getD, hi]
  have hcv : ∀ (i : Nat) (hi : i < cs.length), cv A i = cs[i] := fun i hi => by unfold cv; rw [hat i hi]
  have hty : Typed .char A := fun i v hv => by
    have hi : i < A.slots.size := (Array.getElem?_eq_some_iff.mp hv).1
    have q := K5 i hi
    rw [hv] at q
    rw [Option.some.inj q]
    exact K6 i hi
  refine Back.mono (back hZ hw wi E V C K1 hty S hz (by omega) (by omega) (fun i hi => by rw [hcv i (by omega)]; exact hall _ (List.getElem_mem _)) hfr hlo) (fun P a hp => ⟨hp.1, hp.2.1, hp.2.2.1, by rw [e]; exact hp.2.2.2⟩) (fun P a v B hp hq => ?_)
  obtain ⟨L, ⟨q1, q2, q3, q4, q5, q6, q7, ⟨V', v1, v2, v3, v4, v5⟩, q9⟩, hl, hc, hs⟩ := hq
  refine ⟨L, ⟨q1, q2, q3, q4, q5, q6, q7, ⟨V'.cls, v3, V', v1, rfl, by rw [v4, e, hlen], K4, fun i hi => ?_, fun i hi => ?_⟩, q9⟩, hl, hc, by rw [hs, e]⟩
  · have hi' : i < cs.length := by omega
    rw [v5 i (by omega), hcv i hi']; simp [List.getD_eq_getElem?_getD, hi']
  · have hi' : i < cs.length := by omega
    simp only [List.getD_eq_getElem?_getD, List.getElem?_map, List.getElem?_eq_getElem hi', Option.map_some, Option.getD_some]
    exact fits_lo8 _
end StrChars.Road
namespace StrChars.Road
open Jvm Sem ClassFile Op Lib Jvm.Stand Jvm.Free Jvm.Free.XT
/-- WHAT COMES BACK, in the writer's own shape -/
def QV (Z : State) (x : Addr) (N : Int32) (bs : List Int32) (h : Heap) (n0 : Nat) (v : Option Value) (h' : Heap) (L : List Loc) : Prop := v = none ∧ RoadKit.Fr n0 L ∧ RoadKit.Keep h h' [x] ∧ RoadKit.Exa Z h' x ST ∧ RoadKit.Fld Z h' x ST "coder" "B" (.int 0) ∧
  ∃ (t : Addr) (kb : ClassId), n0 ≤ t ∧ h.size ≤ t ∧ ¬ t = x ∧ RoadKit.Fld Z h' x ST "value" "[B" (.ref t) ∧ RoadKit.Arv Z h' t kb .byte N (bs.map Value.int) (.int 0)
/-- **new String(chars) AT A CALL, FOR THE WRITER**: a char[] of n known ints, each 0 to 255 -/
theorem backV {p : Program} {l : Launch} {e : Env} {R : Room} {s : State} {args : Array Value} {below : List Frame} {len W : Nat} {Z : State} {a0 : Array Value} {h : Heap} (hZ : Z.Warmed39 s.vm) (hw : ∀ d ∈ words, d.before a0 Z = true) {kI : Nat} (wi : (Jvm.Cond.instantiable ST kI).before a0 Z = true)
    {x b : Addr} {kC : ClassId} {cs bs : List Int32} {d v0 c0 : Value} {z N : Int32} {n n0 : Nat} (hx0 : n0 ≤ x) (hh0 : n0 ≤ h.size) (E : RoadKit.Exa Z h x ST) (V : RoadKit.Fld Z h x ST "value" "[B" v0) (C : RoadKit.Fld Z h x ST "coder" "B" c0) (K : RoadKit.Arv Z h b kC .char N (cs.map Value.int) d) (S : RoadKit.Sta Z h ST "COMPACT_STRINGS" "Z" (.int z)) (hz : ¬ z = 0)
    (hn : cs.length = n) (hN : N = Int32.ofNat n) (l0 : 0 < n) (l2 : n ≤ 4000) (hp : ∀ c ∈ cs, ¬ c < 0 ∧ ¬ (255 : Int32) < c) (hb : bs = cs.map (fun c => c.toInt8.toInt32)) (hfr : 4 ≤ R.frames) (hlo : W + 65 ≤ R.locals) :
    Back l R p e below s args (⟨"java/lang/String", "<init>", "([C)V"⟩ : MethodName) len W (fun P a => a = #[.ref x, .ref b] ∧ P.U.heap = h ∧ P.cells + 1 ≤ R.cells ∧ P.slots + n ≤ R.slots)
      (fun P _ v B => ∃ L, QV Z x N bs h n0 v B.U.heap L ∧ B.locs = P.locs ++ L ∧ B.cells = P.cells + 1 ∧ B.slots = P.slots + n) := by
  subst hn hN hb
  refine Back.mono (backArv hZ hw wi E V C K S hz (n32 (by omega)) l0 (by omega) (fun c hc => (hp c hc).2) hfr hlo) (fun P a hp => hp) (fun P a v B hp hq => ?_)
  obtain ⟨L, ⟨q1, q2, q3, q4, q5, q6, q7, ⟨kb, v1, v2⟩, q9⟩, hl, hc, hs⟩ := hq
  exact ⟨L, ⟨q1, fun y hy => by rw [q2 y hy]; exact hx0, q3, q5, q7, h.size, kb, hh0, Nat.le_refl _, Nat.ne_of_gt E.lt, q6, by rw [List.map_map]; exact v2⟩, hl, hc, hs⟩
end StrChars.Road
namespace StrChars
open Jvm Sem ClassFile Op Lib Jvm.Stand Jvm.Free.XT Jvm.Free.ALB Jvm.Free.JM Jvm.Free
open Jvm.Lib.Cold (StaticIs)
def hi8 (x : Int32) : Int32 := lo8 (x >>> ((8 : Int32) &&& 31))
/-- what StringUTF16.getChar makes of two bytes -/
def pairCh (u v : Int32) : Int32 := (((u &&& 255) <<< ((0 : Int32) &&& 31)) ||| ((v &&& 255) <<< ((8 : Int32) &&& 31))).toUInt32.toUInt16.toUInt32.toInt32
theorem shr0 (c : Int32) : c >>> ((0 : Int32) &&& 31) = c := by
  have e : ((0 : Int32) &&& 31) = 0 := by decide
  rw [e]
  apply Int32.toBitVec_inj.mp
  rw [Int32.toBitVec_shiftRight]
  have e1 : ((0 : Int32).toBitVec.smod 32) = 0#32 := by decide
  rw [e1, BitVec.sshiftRight_eq']
  exact BitVec.sshiftRight_zero
theorem lo8_and (x : Int32) : (lo8 x &&& 255).toBitVec.toNat = x.toBitVec.toNat % 256 := by
  have h : (lo8 x).toBitVec = (x.toBitVec.signExtend 8).signExtend 32 := by rw [lo8, Int8.toBitVec_toInt32, Int32.toBitVec_toInt8]
  rw [Int32.toBitVec_and, BitVec.toNat_and, h]
  have e : ((x.toBitVec.signExtend 8).signExtend 32).toNat % 256 = x.toBitVec.toNat % 256 := by
    rw [BitVec.toNat_signExtend]
    have hlt := x.toBitVec.isLt
    simp only [BitVec.toNat_setWidth, BitVec.toNat_signExtend]
    split <;> split <;> omega
  rw [← e]
  exact Nat.and_two_pow_sub_one_eq_mod _ 8
theorem pair_says {c : Int32} (h0 : ¬ c < 0) (h1 : ¬ 65535 < c) : pairCh (lo8 c) (hi8 c) = c := by
  rw [Int32.lt_iff_toInt_lt] at h0 h1
  have e0 : (0 : Int32).toInt = 0 := rfl
  have e1 : (65535 : Int32).toInt = 65535 := rfl
  have hc : c.toInt = c.toBitVec.toNat := by
    have := c.toBitVec.isLt
    have e : c.toInt = c.toBitVec.toInt := rfl
    rw [e] at h0 h1
    rw [e]
    rw [BitVec.toInt_eq_toNat_cond] at h0 h1 ⊢
    split at h0 <;> split <;> omega
  have hn : c.toBitVec.toNat < 65536 := by omega
  have a1 := lo8_and c
  have a2 : (hi8 c &&& 255).toBitVec.toNat = c.toBitVec.toNat / 256 := by
    rw [hi8, lo8_and]
    have e : ((8 : Int32) &&& 31) = 8 := by decide
    rw [e, Int32.toBitVec_shiftRight]
    have e2 : ((8 : Int32).toBitVec.smod 32) = 8#32 := by decide
    rw [e2, BitVec.sshiftRight_eq', BitVec.toNat_sshiftRight_of_msb_false (by rw [BitVec.msb_eq_false_iff_two_mul_lt]; omega)]
    show c.toBitVec.toNat >>> 8 % 256 = _
    rw [Nat.shiftRight_eq_div_pow]
    omega
  unfold pairCh
  apply Int32.toBitVec_inj.mp
  apply BitVec.eq_of_toNat_eq
  have f0 : ((0 : Int32) &&& 31) = 0 := by decide
  have f8 : ((8 : Int32) &&& 31) = 8 := by decide
  rw [f0, f8]
  have g : (((lo8 c &&& 255) <<< (0 : Int32)) ||| ((hi8 c &&& 255) <<< (8 : Int32))).toBitVec.toNat = c.toBitVec.toNat := by
    rw [Int32.toBitVec_or, Int32.toBitVec_shiftLeft, Int32.toBitVec_shiftLeft]
    have s0 : ((0 : Int32).toBitVec.smod 32) = 0#32 := by decide
    have s8 : ((8 : Int32).toBitVec.smod 32) = 8#32 := by decide
    rw [s0, s8, BitVec.toNat_or]
    simp only [BitVec.shiftLeft_eq', BitVec.toNat_shiftLeft, a1, a2]
    show (c.toBitVec.toNat % 256) <<< 0 % 2 ^ 32 ||| (c.toBitVec.toNat / 256) <<< 8 % 2 ^ 32 = _
    rw [Nat.shiftLeft_zero, Nat.mod_eq_of_lt (show c.toBitVec.toNat % 256 < 2 ^ 32 by omega), Nat.mod_eq_of_lt (show (c.toBitVec.toNat / 256) <<< 8 < 2 ^ 32 by rw [Nat.shiftLeft_eq]; omega), Nat.or_comm, ← Nat.shiftLeft_add_eq_or_of_lt (by omega), Nat.shiftLeft_eq]
    omega
  show BitVec.toNat (((((lo8 c &&& 255) <<< (0 : Int32)) ||| ((hi8 c &&& 255) <<< (8 : Int32))).toBitVec.setWidth 16).setWidth 32) = _
  rw [BitVec.toNat_setWidth, BitVec.toNat_setWidth, g]
  omega
end StrChars
namespace StrChars
open Jvm Sem ClassFile Op Lib Jvm.Stand Jvm.Free.XT Jvm.Free.ALB Jvm.Free.JM Jvm.Free
open Jvm.Lib.Cold (StaticIs)
theorem shr1 {n : Nat} (h : 2 * n < 2 ^ 31) : Int32.ofNat (2 * n) >>> ((1 : Int32) &&& 31) = Int32.ofNat n := by
  have e : ((1 : Int32) &&& 31) = 1 := by decide
  rw [e]
  apply Int32.toBitVec_inj.mp
  rw [Int32.toBitVec_shiftRight]
  have e1 : ((1 : Int32).toBitVec.smod 32) = 1#32 := by decide
  have hm : (BitVec.ofNat 32 (2 * n)).toNat = 2 * n := by rw [BitVec.toNat_ofNat, Nat.mod_eq_of_lt (by omega)]
  rw [e1, BitVec.sshiftRight_eq']
  apply BitVec.eq_of_toNat_eq
  show ((BitVec.ofNat 32 (2 * n)).sshiftRight 1).toNat = (BitVec.ofNat 32 n).toNat
  rw [BitVec.toNat_sshiftRight_of_msb_false (by rw [BitVec.msb_eq_false_iff_two_mul_lt, hm]; omega), hm, BitVec.toNat_ofNat, Nat.shiftRight_eq_div_pow]
  omega
/-- charAt's cast of a byte read back -/
def chr8 (u : Int32) : Int32 := (u &&& 255).toUInt32.toUInt16.toUInt32.toInt32
theorem chr8_lo8 {c : Int32} (h0 : ¬ c < 0) (h1 : ¬ 255 < c) : chr8 (lo8 c) = c := by
  have t : ∀ k : Fin 256, (Int32.ofNat k.val).toUInt32.toUInt16.toUInt32.toInt32 = Int32.ofNat k.val := by decide +kernel
  unfold chr8
  rw [lo8_mask h0 h1]
  rw [Int32.lt_iff_toInt_lt] at h0 h1
  have e0 : (0 : Int32).toInt = 0 := rfl
  have e1 : (255 : Int32).toInt = 255 := rfl
  obtain ⟨k, hk⟩ : ∃ k : Nat, c.toInt = k := ⟨c.toInt.toNat, by omega⟩
  have hx : c = Int32.ofNat k := Int32.toInt_inj.mp (by rw [hk, Int32.toInt_ofNat_small (by omega)])
  rw [hx]
  exact t ⟨k, by omega⟩
theorem narrow_ch {c : Int32} (h0 : ¬ c < 0) (h1 : ¬ 65535 < c) : narrow .char (.int c) = .int c := by
  have q : narrow .char (.int (pairCh (lo8 c) (hi8 c))) = .int (pairCh (lo8 c) (hi8 c)) := narrow_c _
  rwa [pair_says h0 h1] at q
/-- the array's cell V codes the n chars f 0 .. f (n - 1) by the coder cd, as the JDK does: coder 1 just where some char is above 255 -/
def Cod (cd : Int32) (n : Nat) (f : Nat → Int32) (V : Cell) : Prop := (cd = 0 ∧ V.slots.size = n ∧ ∀ j, j < n → V.slots[j]? = some (.int (lo8 (f j))) ∧ ¬ 255 < f j) ∨ (cd = 1 ∧ V.slots.size = 2 * n ∧ (∀ j, j < n → V.slots[2 * j]? = some (.int (lo8 (f j))) ∧ V.slots[2 * j + 1]? = some (.int (hi8 (f j)))) ∧ ∃ j, j < n ∧ 255 < f j)
theorem Cod.cd {cd : Int32} {n : Nat} {f : Nat → Int32} {V : Cell} (h : Cod cd n f V) : cd = 0 ∨ cd = 1 := h.imp (fun q => q.1) fun q => q.1
theorem Cod.len {cd : Int32} {n : Nat} {f : Nat → Int32} {V : Cell} (h : Cod cd n f V) (hs : V.slots.size < 2 ^ 31) : Int32.ofNat V.slots.size >>> (cd &&& 31) = Int32.ofNat n := by
  rcases h with ⟨rfl, h, -⟩ | ⟨rfl, h, -⟩
  · rw [shr0, h]
  · rw [h, shr1 (by omega)]
/-- **x is a String of the n chars f 0 .. f (n - 1)**, Latin-1 or UTF-16; its array at t has the cell V -/
def Txt (x t : Addr) (V : Cell) (cd : Int32) (n : Nat) (f : Nat → Int32) (U : State) : Prop := Exact "java/lang/String" x U ∧ Has x "java/lang/String" "value" "[B" (.ref t) U ∧ Has x "java/lang/String" "coder" "B" (.int cd) U ∧ XT.Arr .byte t V U ∧ Cod cd n f V ∧ ∀ j, j < n → ¬ f j < 0 ∧ ¬ 65535 < f j
theorem Txt.mv {x t : Addr} {V : Cell} {cd : Int32} {n : Nat} {f : Nat → Int32} {U U' : State} (h : Txt x t V cd n f U) (hal : U.vm.Alike U'.vm) (hh : U'.heap = U.heap) : Txt x t V cd n f U' := ⟨h.1.mv hal hh, h.2.1.mv hal hh, h.2.2.1.mv hal hh, h.2.2.2.1.mv hal hh, h.2.2.2.2⟩
namespace Cdr
def yN : MethodName := ⟨"java/lang/String", "coder", "()B"⟩
abbrev yB : ByteArray := jdk_42_method_152_code
theorem d0 : decode yB 0 = .ok (.getstatic 38, 3) := by decide +kernel
theorem d3 : decode yB 3 = .ok (.ifCond (.eq) 10, 3) := by decide +kernel
theorem d6 : decode yB 6 = .ok (.aload_n 0, 1) := by decide +kernel
theorem d7 : decode yB 7 = .ok (.getfield 15, 3) := by decide +kernel
theorem d10 : decode yB 10 = .ok (.goto 4, 3) := by decide +kernel
theorem d14 : decode yB 14 = .ok (.ireturn, 1) := by decide +kernel
def site : List Cond := [.fieldLink "java/lang/String" 38 "java/lang/String" "COMPACT_STRINGS" "Z", .fieldLink "java/lang/String" 15 "java/lang/String" "coder" "B"]
def tab : Cond := tabOf yN yB 1 (some .byte) site
def P (x : Addr) (cd z : Int32) (args : Array Value) (s : State) : Prop := args = #[.ref x] ∧ Has x "java/lang/String" "coder" "B" (.int cd) s ∧ (cd = 0 ∨ cd = 1) ∧ StaticIs s "java/lang/String" "COMPACT_STRINGS" "Z" (.int z) ∧ ¬ z = 0
def E (cd : Int32) (r : Option Value) (s u : State) : Prop := XT.PureE (some (.int cd)) r s u
theorem law (l : Launch) (x : Addr) (cd z : Int32) : Law l yN 1 0 0 0 yB 1 (some .byte) site (P x cd z) (E cd) [] 0 0 := by
  refine Law.of_walk (plainFor_of_name (by decide +kernel)) (by decide +kernel) (by decide +kernel) (by decide) (fun _ _ h => by rw [h.1]; rfl) (fun _ U U' hal hh h => ⟨h.1, h.2.1.mv hal hh, h.2.2.1, h.2.2.2.1.there hal hh, h.2.2.2.2⟩) (fun r U U' V V' h1 hal h2 h => XT.PureE.mv r U U' V V' h1 hal h2 h) ?_
  intro p e s m args below meth c s₁ X0 hexec hbytes hml hret hlk hnm hown hh0 W hP
  obtain ⟨rfl, hx, hc, s1, hz⟩ := hP
  have c1 : Steps p.tables e below (s₁.setTop (entryFrame m #[.ref x] 1)) (s₁.setTop (mkF m 0 #[.val (.ref x)] [])) := entry rfl
  obtain ⟨T2, X2, q2, st2⟩ := X0.sget hexec hown (wk W (.fieldLink "java/lang/String" 38 "java/lang/String" "COMPACT_STRINGS" "Z")) s1 (fun _ _ h => by rw [hh0]; exact h) (g := (mkF m 0 #[.val (.ref x)] [])) rfl (hb hbytes d0)
  have hh2 := q2.trans hh0
  have c3 : Steps p.tables e below (s₁.setTop (entryFrame m #[.ref x] 1)) (T2.setTop (mkF m 7 #[.val (.ref x)] [.ref x])) := (c1.trans (st2 _ (Steps.refl _))).trans (by
    refine XS.ifNo X2.here hexec rfl (hb hbytes d3) rfl (i0_eq_f hz) ?_
    refine XS.aloadN X2.here hexec rfl (hb hbytes d6) rfl rfl ?_
    exact Steps.refl _)
  obtain ⟨T4, X4, q4, st4⟩ := X2.hget hexec hown (wk W (.fieldLink "java/lang/String" 15 "java/lang/String" "coder" "B")) (hx.mv X2.warmed.alike hh2) (g := (mkF m 7 #[.val (.ref x)] [.ref x])) rfl (rest := []) rfl (hb hbytes d7)
  have c5 : Steps p.tables e below (s₁.setTop (entryFrame m #[.ref x] 1)) (T4.setTop (mkF m 14 #[.val (.ref x)] [.int cd])) := (c3.trans (st4 _ (Steps.refl _))).trans (by
    refine XS.goto X4.here hexec rfl (pc0 := 10) rfl (hb hbytes d10) (by decide) rfl ?_
    exact Steps.refl _)
  exact ⟨T4, some (.int cd), _, _, _, X4, rfl, rfl, rfl, (fun h => by cases h), ⟨rfl, q4.trans hh2⟩, fun fs hl => c5.trans (X4.ireturnOut hexec hret (by rcases hc with rfl | rfl <;> rfl) (Or.inr (Or.inr (Or.inl rfl))) (hb hbytes d14) hl)⟩
end Cdr
namespace Len
def yN : MethodName := ⟨"java/lang/String", "length", "()I"⟩
abbrev yB : ByteArray := jdk_42_method_54_code
theorem d0 : decode yB 0 = .ok (.aload_n 0, 1) := by decide +kernel
theorem d1 : decode yB 1 = .ok (.getfield 9, 3) := by decide +kernel
theorem d4 : decode yB 4 = .ok (.arraylength, 1) := by decide +kernel
theorem d5 : decode yB 5 = .ok (.aload_n 0, 1) := by decide +kernel
theorem d6 : decode yB 6 = .ok (.invokevirtual 335, 3) := by decide +kernel
theorem d9 : decode yB 9 = .ok (.ishr, 1) := by decide +kernel
theorem d10 : decode yB 10 = .ok (.ireturn, 1) := by decide +kernel
def site : List Cond := [.fieldLink "java/lang/String" 9 "java/lang/String" "value" "[B", Cdr.tab] ++ virtW "java/lang/String" 335 "java/lang/String" Cdr.yN Cdr.yN
def tab : Cond := tabOf yN yB 1 (some .int) site
def P (x t : Addr) (V : Cell) (cd : Int32) (n : Nat) (f : Nat → Int32) (z : Int32) (args : Array Value) (s : State) : Prop := args = #[.ref x] ∧ Txt x t V cd n f s ∧ StaticIs s "java/lang/String" "COMPACT_STRINGS" "Z" (.int z) ∧ ¬ z = 0
def E (n : Nat) (r : Option Value) (s u : State) : Prop := XT.PureE (some (.int (Int32.ofNat n))) r s u
/-- length() of a String of n chars, in either coding -/
theorem law (l : Launch) (x t : Addr) (V : Cell) (cd : Int32) (n : Nat) (f : Nat → Int32) (z : Int32) : Law l yN 1 0 1 13 yB 1 (some .int) site (P x t V cd n f z) (E n) [] 0 0 := by
  refine Law.of_walk (plainFor_of_name (by decide +kernel)) (by decide +kernel) (by decide +kernel) (by decide) (fun _ _ h => by rw [h.1]; rfl) (fun _ U U' hal hh h => ⟨h.1, h.2.1.mv hal hh, h.2.2.1.there hal hh, h.2.2.2⟩) (fun r U U' V V' h1 hal h2 h => XT.PureE.mv r U U' V V' h1 hal h2 h) ?_
  intro p e s m args below meth c s₁ X0 hexec hbytes hml hret hlk hnm hown hh0 W hP
  obtain ⟨rfl, hx, s1, hz⟩ := hP
  have v31 := hx.2.2.2.1.2.2.2
  have c1 : Steps p.tables e below (s₁.setTop (entryFrame m #[.ref x] 1)) (s₁.setTop (mkF m 1 #[.val (.ref x)] [.ref x])) := Steps.trans (entry rfl) (by
    show Steps p.tables e below (s₁.setTop (mkF m 0 #[.val (.ref x)] [])) _
    refine XS.aloadN X0.here hexec rfl (hb hbytes d0) rfl rfl ?_
    exact Steps.refl _)
  obtain ⟨T2, X2, q2, st2⟩ := X0.hget hexec hown (wk W (.fieldLink "java/lang/String" 9 "java/lang/String" "value" "[B")) (hx.mv X0.warmed.alike hh0).2.1 (g := (mkF m 1 #[.val (.ref x)] [.ref x])) rfl (rest := []) rfl (hb hbytes d1)
  have hh2 := q2.trans hh0
  have hx2 := hx.mv X2.warmed.alike hh2
  have c3 : Steps p.tables e below (s₁.setTop (entryFrame m #[.ref x] 1)) (T2.setTop (mkF m 6 #[.val (.ref x)] [.ref x, .int (Int32.ofNat V.slots.size)])) := (c1.trans (st2 _ (Steps.refl _))).trans (by
    refine X2.alen hexec hx2.2.2.2.1 rfl rfl (hb hbytes d4) ?_
    refine XS.aloadN X2.here hexec rfl (hb hbytes d5) rfl rfl ?_
    exact Steps.refl _)
  obtain ⟨v4, T4, X4, E4, g4⟩ := X2.callV hexec (Cdr.law l x cd z) hown (wks W (virtW "java/lang/String" 335 "java/lang/String" Cdr.yN Cdr.yN)) rfl (by decide) (wk W Cdr.tab) (W := 1) (Nat.le_of_ble_eq_true rfl) (Nat.le_of_ble_eq_true rfl) (Nat.le_refl _) (Nat.le_refl _) (hx2.1.fc X2.warmed.alike) hx2.1.is (g := (mkF m 6 #[.val (.ref x)] [.ref x, .int (Int32.ofNat V.slots.size)])) rfl (by rw [hml]; rfl) c3 (argsL := []) (rest := [.int (Int32.ofNat V.slots.size)]) rfl rfl (by show 2 * 0 + (1 + 0) ≤ _; decide) (hb hbytes d6) (⟨rfl, hx2.2.2.1, hx.2.2.2.2.1.cd, s1.there X2.warmed.alike hh2, hz⟩)
  obtain ⟨rfl, q4⟩ := E4
  have c5 : Steps p.tables e below (s₁.setTop (entryFrame m #[.ref x] 1)) (T4.setTop (mkF m 10 #[.val (.ref x)] [.int (Int32.ofNat V.slots.size >>> (cd &&& 31))])) := Steps.trans g4 (by
    refine ishr X4.here hexec rfl (hb hbytes d9) rfl ?_
    exact Steps.refl _)
  rw [hx.2.2.2.2.1.len v31] at c5
  exact ⟨T4, some (.int (Int32.ofNat n)), _, _, _, X4, rfl, rfl, rfl, (fun h => by cases h), ⟨rfl, q4.trans hh2⟩, fun fs hl => c5.trans (X4.ireturnOut hexec hret rfl (Or.inl rfl) (hb hbytes d10) hl)⟩
theorem pays {l : Launch} {R : Room} {p : Program} {e : Env} {below : List Frame} {s : State} {sargs : Array Value} {len W : Nat} (x t : Addr) (V : Cell) (cd : Int32) (n : Nat) (f : Nat → Int32) (z : Int32) (htab : tab.before sargs s = true) (hfr : 2 ≤ R.frames) (hlo : W + 25 ≤ R.locals) :
    Back l R p e below s sargs yN len W (fun A₁ a₁ => A₁.cells + 0 ≤ R.cells ∧ A₁.slots + 0 ≤ R.slots ∧ P x t V cd n f z a₁ A₁.U) (fun A₁ _ v₁ B₁ => E n v₁ A₁.U B₁.U ∧ B₁.locs = A₁.locs ++ [] ∧ B₁.cells = A₁.cells + 0 ∧ B₁.slots = A₁.slots + 0) :=
  (law l x t V cd n f z).pays htab hfr (by omega)
end Len
namespace IsL
def yN : MethodName := ⟨"java/lang/String", "isLatin1", "()Z"⟩
abbrev yB : ByteArray := jdk_42_method_154_code
theorem d0 : decode yB 0 = .ok (.getstatic 38, 3) := by decide +kernel
theorem d3 : decode yB 3 = .ok (.ifCond (.eq) 14, 3) := by decide +kernel
theorem d6 : decode yB 6 = .ok (.aload_n 0, 1) := by decide +kernel
theorem d7 : decode yB 7 = .ok (.getfield 15, 3) := by decide +kernel
theorem d10 : decode yB 10 = .ok (.ifCond (.ne) 7, 3) := by decide +kernel
theorem d13 : decode yB 13 = .ok (.iconst 1, 1) := by decide +kernel
theorem d14 : decode yB 14 = .ok (.goto 4, 3) := by decide +kernel
theorem d17 : decode yB 17 = .ok (.iconst 0, 1) := by decide +kernel
theorem d18 : decode yB 18 = .ok (.ireturn, 1) := by decide +kernel
def site : List Cond := [.fieldLink "java/lang/String" 38 "java/lang/String" "COMPACT_STRINGS" "Z", .fieldLink "java/lang/String" 15 "java/lang/String" "coder" "B"]
def tab : Cond := tabOf yN yB 1 (some .boolean) site
def P (x : Addr) (cd z : Int32) (args : Array Value) (s : State) : Prop := args = #[.ref x] ∧ Has x "java/lang/String" "coder" "B" (.int cd) s ∧ (cd = 0 ∨ cd = 1) ∧ StaticIs s "java/lang/String" "COMPACT_STRINGS" "Z" (.int z) ∧ ¬ z = 0
def E (cd : Int32) (r : Option Value) (s u : State) : Prop := XT.PureE (some (.int (1 - cd))) r s u
theorem law (l : Launch) (x : Addr) (cd z : Int32) : Law l yN 1 0 0 0 yB 1 (some .boolean) site (P x cd z) (E cd) [] 0 0 := by
  refine Law.of_walk (plainFor_of_name (by decide +kernel)) (by decide +kernel) (by decide +kernel) (by decide) (fun _ _ h => by rw [h.1]; rfl) (fun _ U U' hal hh h => ⟨h.1, h.2.1.mv hal hh, h.2.2.1, h.2.2.2.1.there hal hh, h.2.2.2.2⟩) (fun r U U' V V' h1 hal h2 h => XT.PureE.mv r U U' V V' h1 hal h2 h) ?_
  intro p e s m args below meth c s₁ X0 hexec hbytes hml hret hlk hnm hown hh0 W hP
  obtain ⟨rfl, hx, hc, s1, hz⟩ := hP
  have c1 : Steps p.tables e below (s₁.setTop (entryFrame m #[.ref x] 1)) (s₁.setTop (mkF m 0 #[.val (.ref x)] [])) := entry rfl
  obtain ⟨T2, X2, q2, st2⟩ := X0.sget hexec hown (wk W (.fieldLink "java/lang/String" 38 "java/lang/String" "COMPACT_STRINGS" "Z")) s1 (fun _ _ h => by rw [hh0]; exact h) (g := (mkF m 0 #[.val (.ref x)] [])) rfl (hb hbytes d0)
  have hh2 := q2.trans hh0
  have c3 : Steps p.tables e below (s₁.setTop (entryFrame m #[.ref x] 1)) (T2.setTop (mkF m 7 #[.val (.ref x)] [.ref x])) := (c1.trans (st2 _ (Steps.refl _))).trans (by
    refine XS.ifNo X2.here hexec rfl (hb hbytes d3) rfl (i0_eq_f hz) ?_
    refine XS.aloadN X2.here hexec rfl (hb hbytes d6) rfl rfl ?_
    exact Steps.refl _)
  obtain ⟨T4, X4, q4, st4⟩ := X2.hget hexec hown (wk W (.fieldLink "java/lang/String" 15 "java/lang/String" "coder" "B")) (hx.mv X2.warmed.alike hh2) (g := (mkF m 7 #[.val (.ref x)] [.ref x])) rfl (rest := []) rfl (hb hbytes d7)
  have c5 : Steps p.tables e below (s₁.setTop (entryFrame m #[.ref x] 1)) (T4.setTop (mkF m 10 #[.val (.ref x)] [.int cd])) := c3.trans (st4 _ (Steps.refl _))
  have c6 : Steps p.tables e below (s₁.setTop (entryFrame m #[.ref x] 1)) (T4.setTop (mkF m 18 #[.val (.ref x)] [.int (1 - cd)])) := by
    rcases hc with rfl | rfl
    · exact c5.trans (by
        refine XS.ifNo X4.here hexec rfl (hb hbytes d10) rfl (i0_ne_f rfl) ?_
        refine iconstV X4.here hexec rfl 1 (hb hbytes d13) (by decide) ?_
        refine XS.goto X4.here hexec rfl (pc0 := 14) rfl (hb hbytes d14) (by decide) rfl ?_
        exact Steps.refl _)
    · exact c5.trans (by
        refine XS.ifYes X4.here hexec rfl (pc0 := 10) rfl (hb hbytes d10) rfl (i0_ne_t (by decide)) (by decide) rfl ?_
        refine iconstV X4.here hexec rfl 0 (hb hbytes d17) (by decide) ?_
        exact Steps.refl _)
  exact ⟨T4, some (.int (1 - cd)), _, _, _, X4, rfl, rfl, rfl, (fun h => by cases h), ⟨rfl, q4.trans hh2⟩, fun fs hl => c6.trans (X4.ireturnOut hexec hret (by rcases hc with rfl | rfl <;> rfl) (Or.inr (Or.inl rfl)) (hb hbytes d18) hl)⟩
end IsL
namespace LChA
def yN : MethodName := ⟨"java/lang/StringLatin1", "charAt", "([BI)C"⟩
abbrev yB : ByteArray := jdk_43_method_2_code
theorem d0 : decode yB 0 = .ok (.iload_n 1, 1) := by decide +kernel
theorem d1 : decode yB 1 = .ok (.aload_n 0, 1) := by decide +kernel
theorem d2 : decode yB 2 = .ok (.arraylength, 1) := by decide +kernel
theorem d3 : decode yB 3 = .ok (.invokestatic 9, 3) := by decide +kernel
theorem d6 : decode yB 6 = .ok (.aload_n 0, 1) := by decide +kernel
theorem d7 : decode yB 7 = .ok (.iload_n 1, 1) := by decide +kernel
theorem d8 : decode yB 8 = .ok (.baload, 1) := by decide +kernel
theorem d9 : decode yB 9 = .ok (.sipush 255, 3) := by decide +kernel
theorem d12 : decode yB 12 = .ok (.iand, 1) := by decide +kernel
theorem d13 : decode yB 13 = .ok (.i2c, 1) := by decide +kernel
theorem d14 : decode yB 14 = .ok (.ireturn, 1) := by decide +kernel
def site : List Cond := [JO.Str_checkIndex.tab] ++ staticW "java/lang/StringLatin1" 9 JO.Str_checkIndex.yN
def tab : Cond := tabOf yN yB 2 (some .char) site
def P (t : Addr) (V : Cell) (i : Nat) (u : Int32) (fm : Value) (args : Array Value) (s : State) : Prop := args = #[.ref t, .int (Int32.ofNat i)] ∧ XT.Arr .byte t V s ∧ V.slots[i]? = some (.int u) ∧ (StaticIs s "jdk/internal/util/Preconditions" "SIOOBE_FORMATTER" "Ljava/util/function/BiFunction;" fm ∧ fm.isRef = true)
def E (u : Int32) (r : Option Value) (s w : State) : Prop := XT.PureE (some (.int (chr8 u))) r s w
theorem law (l : Launch) (t : Addr) (V : Cell) (i : Nat) (u : Int32) (fm : Value) : Law l yN 2 2 2 27 yB 2 (some .char) site (P t V i u fm) (E u) [] 0 0 := by
  refine Law.of_walk (plainFor_of_name (by decide +kernel)) (by decide +kernel) (by decide +kernel) (by decide) (fun _ _ h => by rw [h.1]; rfl) (fun _ U U' hal hh h => ⟨h.1, h.2.1.mv hal hh, h.2.2.1, h.2.2.2.1.there hal hh, h.2.2.2.2⟩) (fun r U U' V V' h1 hal h2 h => XT.PureE.mv r U U' V V' h1 hal h2 h) ?_
  intro p e s m args below meth c s₁ X0 hexec hbytes hml hret hlk hnm hown hh0 W hP
  obtain ⟨rfl, hV, hu, s1, rf⟩ := hP
  have v31 := hV.2.2.2
  have hi : i < V.slots.size := (Array.getElem?_eq_some_iff.mp hu).1
  have c1 : Steps p.tables e below (s₁.setTop (entryFrame m #[.ref t, .int (Int32.ofNat i)] 2)) (s₁.setTop (mkF m 0 #[.val (.ref t), .val (.int (Int32.ofNat i))] [])) := entry rfl
  have c2 : Steps p.tables e below (s₁.setTop (entryFrame m #[.ref t, .int (Int32.ofNat i)] 2)) (s₁.setTop (mkF m 3 #[.val (.ref t), .val (.int (Int32.ofNat i))] [.int (Int32.ofNat V.slots.size), .int (Int32.ofNat i)])) := c1.trans (by
    refine XS.iloadN X0.here hexec rfl (hb hbytes d0) rfl ?_
    refine XS.aloadN X0.here hexec rfl (hb hbytes d1) rfl rfl ?_
    refine X0.alen hexec (hV.mv X0.warmed.alike hh0) rfl rfl (hb hbytes d2) ?_
    exact Steps.refl _)
  obtain ⟨v3, T3, X3, E3, g3⟩ := X0.callS hexec (JO.Str_checkIndex.law l (Int32.ofNat i) (Int32.ofNat V.slots.size) fm) hown (wks W (staticW "java/lang/StringLatin1" 9 JO.Str_checkIndex.yN)) (wk W JO.Str_checkIndex.tab) (W := 0) (Nat.le_of_ble_eq_true rfl) (Nat.le_of_ble_eq_true rfl) (Nat.le_refl _) (Nat.le_refl _) (g := (mkF m 3 #[.val (.ref t), .val (.int (Int32.ofNat i))] [.int (Int32.ofNat V.slots.size), .int (Int32.ofNat i)])) rfl (by rw [hml]; rfl) c2 (argsL := [.int (Int32.ofNat i), .int (Int32.ofNat V.slots.size)]) (rest := []) rfl rfl (by show 2 * 0 + 0 ≤ _; decide) (hb hbytes d3) (⟨rfl, rf, s1.there X0.warmed.alike hh0, Int32.ofNat_not_neg (by omega), lt32 v31 hi⟩)
  obtain ⟨rfl, q3⟩ := E3
  have hh3 := q3.trans hh0
  have c4 : Steps p.tables e below (s₁.setTop (entryFrame m #[.ref t, .int (Int32.ofNat i)] 2)) (T3.setTop (mkF m 14 #[.val (.ref t), .val (.int (Int32.ofNat i))] [.int (chr8 u)])) := Steps.trans g3 (by
    refine XS.aloadN X3.here hexec rfl (hb hbytes d6) rfl rfl ?_
    refine XS.iloadN X3.here hexec rfl (hb hbytes d7) rfl ?_
    refine X3.aget hexec (hV.mv X3.warmed.alike hh3) rfl hu rfl rfl (hb hbytes d8) ?_
    refine sipushV X3.here hexec rfl 255 (hb hbytes d9) (by decide) ?_
    refine XS.iand X3.here hexec rfl (hb hbytes d12) rfl ?_
    refine i2c X3.here hexec rfl (hb hbytes d13) rfl ?_
    exact Steps.refl _)
  exact ⟨T3, some (.int (chr8 u)), _, _, _, X3, rfl, rfl, rfl, (fun h => by cases h), ⟨rfl, hh3⟩, fun fs hl => c4.trans (X3.ireturnOut hexec hret (narrow_c _) (Or.inr (Or.inr (Or.inr (Or.inl rfl)))) (hb hbytes d14) hl)⟩
end LChA
end StrChars
namespace StrChars.Road
open Jvm Sem ClassFile Op Lib Jvm.Stand Jvm.Free Jvm.Free.XT
open Jvm.Lib.Cold (StaticIs)
theorem consq {a : Array Value} {s : State} {c : Jvm.Cond} {L : List Jvm.Cond} (h0 : c.before a s = true) (h : ∀ w ∈ L, w.before a s = true) : ∀ w ∈ c :: L, w.before a s = true := fun w hw => (List.mem_cons.mp hw).elim (fun e => e ▸ h0) (h w)
/-- the words of String.length(), either coding -/
abbrev wordsLen : List Jvm.Cond := [.code Len.yN Len.yB 1 (some .int), .initialized ST, .fieldLink ST 9 ST "value" "[B", .fieldLink ST 38 ST "COMPACT_STRINGS" "Z", .fieldLink ST 15 ST "coder" "B", .code Cdr.yN Cdr.yB 1 (some .byte), .methodLink ST 335 Cdr.yN, .declares Cdr.yN, .selects ST Cdr.yN Cdr.yN, .instanceMethod Cdr.yN]
theorem tabLen_of {a : Array Value} {s : State} (h : ∀ w ∈ wordsLen, w.before a s = true) : Len.tab.before a s = true := by
  have hc : Cdr.tab.before a s = true := unparts (wk h (.code Cdr.yN Cdr.yB 1 (some .byte))) (wks h (.initialized Cdr.yN.cls :: Cdr.site))
  have q := consq hc h
  exact unparts (wk q (.code Len.yN Len.yB 1 (some .int))) (wks q (.initialized Len.yN.cls :: Len.site))
theorem movedLen {Z s : State} {a0 args : Array Value} (hZ : Z.Warmed39 s.vm) (hw : ∀ d ∈ wordsLen, d.before a0 Z = true) : ∀ d ∈ wordsLen, d.before args s = true := fun d hd => by
  have q := hw d hd
  have t : ∀ d ∈ wordsLen, d = .arrayClass .byte ∨ (d.onTables && d.keepsFace) = true := by decide +kernel
  rcases t d hd with rfl | t
  · exact RoadKit.mvA hZ q
  · exact RoadKit.mv hZ q t
/-- the bytes of the chars cs, low before high -/
def wideBytes : List Int32 → List Value
  | [] => []
  | c :: cs => .int (lo8 c) :: .int (hi8 c) :: wideBytes cs
theorem wide_lo (d : Value) : ∀ (cs : List Int32) (j : Nat), j < cs.length → (wideBytes cs).getD (2 * j) d = .int (lo8 (cs.getD j 0))
  | [], j, h => absurd h (Nat.not_lt_zero j)
  | c :: cs, 0, _ => rfl
  | c :: cs, j + 1, h => by
    have q := wide_lo d cs j (by simpa using h)
    rw [show 2 * (j + 1) = 2 * j + 1 + 1 from by omega]
    simpa [wideBytes] using q
theorem wide_hi (d : Value) : ∀ (cs : List Int32) (j : Nat), j < cs.length → (wideBytes cs).getD (2 * j + 1) d = .int (hi8 (cs.getD j 0))
  | [], j, h => absurd h (Nat.not_lt_zero j)
  | c :: cs, 0, _ => rfl
  | c :: cs, j + 1, h => by
    have q := wide_hi d cs j (by simpa using h)
    rw [show 2 * (j + 1) + 1 = 2 * j + 1 + 1 + 1 from by omega]
    simpa [wideBytes] using q
theorem low_at (d : Value) (cs : List Int32) (j : Nat) (h : j < cs.length) : (cs.map fun c => Value.int (lo8 c)).getD j d = .int (lo8 (cs.getD j 0)) := by
  simp [List.getD_eq_getElem?_getD, h]
/-- an array of N2 bytes vs codes the chars cs by the coder cd -/
def CodA (cs : List Int32) (cd N2 : Int32) (vs : List Value) : Prop := (cd = 0 ∧ N2 = Int32.ofNat cs.length ∧ vs = (cs.map fun c => Value.int (lo8 c)) ∧ ∀ c ∈ cs, ¬ 255 < c) ∨ (cd = 1 ∧ N2 = Int32.ofNat (2 * cs.length) ∧ vs = wideBytes cs ∧ ∃ c ∈ cs, 255 < c)
theorem CodA.cod {cs : List Int32} {cd N2 : Int32} {vs : List Value} {V : Cell} (h : CodA cs cd N2 vs) (hn : 2 * cs.length < 2 ^ 31) (hs : V.slots.size = N2.toNatClampNeg) (hv : RoadKit.Has V vs (.int 0)) : Cod cd cs.length (fun j => cs.getD j 0) V := by
  rcases h with ⟨rfl, rfl, rfl, h⟩ | ⟨rfl, rfl, rfl, c, hc, hw⟩
  · rw [n32 (by omega)] at hs
    exact Or.inl ⟨rfl, hs, fun j hj => ⟨by rw [hv j (by omega), low_at _ _ _ hj], by
      have e : cs.getD j 0 = cs[j] := by simp [List.getD_eq_getElem?_getD, hj]
      show ¬ 255 < cs.getD j 0
      rw [e]; exact h _ (List.getElem_mem _)⟩⟩
  · rw [n32 (by omega)] at hs
    obtain ⟨j, hj, rfl⟩ := List.getElem_of_mem hc
    exact Or.inr ⟨rfl, hs, fun j hj => ⟨by rw [hv _ (by omega), wide_lo _ _ _ hj], by rw [hv _ (by omega), wide_hi _ _ _ hj]⟩, j, hj, by
      have e : cs.getD j 0 = cs[j] := by simp [List.getD_eq_getElem?_getD, hj]
      show 255 < cs.getD j 0
      rw [e]; exact hw⟩
/-- an object of exactly java/lang/String, its two fields found: as the laws ask it -/
theorem strObj {Z U : State} {a0 : Array Value} {kI : Nat} (wi : (Jvm.Cond.instantiable ST kI).before a0 Z = true) (al : Z.vm.Alike U.vm) {x : Addr} {v0 c0 : Value} (E : RoadKit.Exa Z U.heap x ST) (V : RoadKit.Fld Z U.heap x ST "value" "[B" v0) (C : RoadKit.Fld Z U.heap x ST "coder" "B" c0) :
    ∃ (D : Cell) (fV fC : Field), Blank ST x D U ∧ Found ST "value" "[B" fV U ∧ Found ST "coder" "B" fC U ∧ D.slots[fV.slot]? = some v0 ∧ D.slots[fC.slot]? = some c0 ∧ RoadKit.slotOf Z ST "value" "[B" = fV.slot ∧ RoadKit.slotOf Z ST "coder" "B" = fC.slot := by
  obtain ⟨D, cfV, kV, iV, fV, hD, gV, stV, knV, obV, asV, slV⟩ := V
  obtain ⟨D', cfC, kC, iC, fC, hD', gC, stC, -, -, asC, slC⟩ := C
  cases hD.symm.trans hD'
  obtain ⟨D2, kD, e1, e2, e3, e4, e5⟩ := E
  cases hD.symm.trans e1
  obtain ⟨c2, k2, i1, i2, i3, -⟩ := Cond.instantiable_spec wi
  cases e2.symm.trans i1
  cases e3.symm.trans i2
  obtain ⟨kU, u1, u2⟩ := al.2.2 _ _ e3
  exact ⟨D, fV, fC, ⟨hD, ⟨knV, fun q hq => by rw [hq] at obV; cases obV⟩, by rw [al.findClass]; exact e2, kU, u1, by rw [u2]; exact i3, by rw [u2]; exact e5 i3⟩, ⟨SBG.found_only al ⟨cfV, kV, iV, gV⟩, stV⟩, ⟨SBG.found_only al ⟨cfC, kC, iC, gC⟩, stC⟩, slV, slC, by simp [RoadKit.slotOf, gV], by simp [RoadKit.slotOf, gC]⟩
theorem sta_is {Z U : State} (al : Z.vm.Alike U.vm) {C n d : String} {v : Value} (S : RoadKit.Sta Z U.heap C n d v) : StaticIs U C n d v := by
  obtain ⟨cfS, iS, kS, fS, st, cS, t1, t2, t3, t4, t5, t6, t7⟩ := S
  exact StaticIs.there (s := { Z with heap := U.heap }) ⟨cfS, iS, kS, fS, st, cS, t1, t2, t3, t4, t5, (fun q => by rw [q] at t6; cases t6), t7⟩ al rfl
/-- **length() OF SUCH A STRING** -/
theorem lenW {p : Program} {l : Launch} {e : Env} {R : Room} {s : State} {args : Array Value} {below : List Frame} {len W : Nat} {Z : State} {a0 : Array Value} {h : Heap} (hZ : Z.Warmed39 s.vm) (hw : ∀ d ∈ wordsLen, d.before a0 Z = true) {kI : Nat} (wi : (Jvm.Cond.instantiable ST kI).before a0 Z = true)
    {x t : Addr} {kb : ClassId} {cs : List Int32} {cd N2 z : Int32} {vs : List Value} (E : RoadKit.Exa Z h x ST) (V : RoadKit.Fld Z h x ST "value" "[B" (.ref t)) (C : RoadKit.Fld Z h x ST "coder" "B" (.int cd)) (K : RoadKit.Arv Z h t kb .byte N2 vs (.int 0)) (hc : CodA cs cd N2 vs) (hb : ∀ c ∈ cs, ¬ c < 0 ∧ ¬ (65535 : Int32) < c)
    (S : RoadKit.Sta Z h ST "COMPACT_STRINGS" "Z" (.int z)) (hz : ¬ z = 0) (l2 : cs.length ≤ 4000) (hfr : 2 ≤ R.frames) (hlo : W + 25 ≤ R.locals) :
    Back l R p e below s args (⟨"java/lang/String", "length", "()I"⟩ : MethodName) len W (fun P a => a = #[.ref x] ∧ P.U.heap = h ∧ P.cells + 0 ≤ R.cells ∧ P.slots + 0 ≤ R.slots)
      (fun P _ v B => ∃ L, (v = some (.int (Int32.ofNat cs.length)) ∧ L = [] ∧ B.U.heap = h) ∧ B.locs = P.locs ++ L ∧ B.cells = P.cells + 0 ∧ B.slots = P.slots + 0) := by
  obtain ⟨A, K1, K2, K3, K4, K5, K6⟩ := K
  have hcod := hc.cod (by omega) K3 K5
  intro m meth c P g ig mk a X hg hsize hdg hW hn hp'
  obtain ⟨rfl, rfl, r1, r2⟩ := hp'
  have al : Z.vm.Alike P.U.vm := hZ.alike.trans X.warmed.alike
  obtain ⟨D, fV, fC, hB, F1, F2, g1, g2, -, -⟩ := strObj wi al E V C
  have hx : Txt x t A cd cs.length (fun j => cs.getD j 0) P.U := ⟨⟨_, hB.2.2.1, D, hB.1, rfl, by cases q : D.vm <;> first | rfl | exact absurd q (hB.2.1.2 _)⟩, Has.of hB F1 g1, Has.of hB F2 g2, ⟨K1.1, State.isArrayOf_alike al K1.2.1, K1.2.2, by rcases hcod with ⟨-, q, -⟩ | ⟨-, q, -⟩ <;> omega⟩, hcod, fun j hj => by
    have e : cs.getD j 0 = cs[j] := by simp [List.getD_eq_getElem?_getD, hj]
    show ¬ cs.getD j 0 < 0 ∧ ¬ 65535 < cs.getD j 0
    rw [e]; exact hb _ (List.getElem_mem _)⟩
  obtain ⟨v, B, X', ⟨⟨hv, hh⟩, hl, hk, hs⟩, st⟩ := Len.pays x t A cd cs.length (fun j => cs.getD j 0) z (tabLen_of (movedLen hZ hw)) hfr hlo m meth c P g ig mk _ X hg hsize hdg hW hn ⟨r1, r2, rfl, hx, sta_is al S, hz⟩
  exact ⟨v, B, X', ⟨[], ⟨hv, rfl, hh⟩, hl, hk, hs⟩, st⟩
end StrChars.Road
namespace StrChars.Road
open Jvm Sem ClassFile Op Lib Jvm.Stand Jvm.Free Jvm.Free.XT
open Jvm.Lib.Cold (StaticIs)
/-- the road's facts of a String, as the laws ask it -/
theorem txt_of {Z U : State} {a0 : Array Value} {kI : Nat} (wi : (Jvm.Cond.instantiable ST kI).before a0 Z = true) (al : Z.vm.Alike U.vm) {x t : Addr} {kb : ClassId} {cs : List Int32} {cd N2 : Int32} {vs : List Value} (E : RoadKit.Exa Z U.heap x ST) (V : RoadKit.Fld Z U.heap x ST "value" "[B" (.ref t)) (C : RoadKit.Fld Z U.heap x ST "coder" "B" (.int cd)) (K : RoadKit.Arv Z U.heap t kb .byte N2 vs (.int 0)) (hc : CodA cs cd N2 vs) (hb : ∀ c ∈ cs, ¬ c < 0 ∧ ¬ (65535 : Int32) < c) (l2 : cs.length ≤ 4000) :
    ∃ A, Txt x t A cd cs.length (fun j => cs.getD j 0) U := by
  obtain ⟨A, K1, K2, K3, K4, K5, K6⟩ := K
  have hcod := hc.cod (by omega) K3 K5
  obtain ⟨D, fV, fC, hB, F1, F2, g1, g2, -, -⟩ := strObj wi al E V C
  exact ⟨A, ⟨_, hB.2.2.1, D, hB.1, rfl, by cases q : D.vm <;> first | rfl | exact absurd q (hB.2.1.2 _)⟩, Has.of hB F1 g1, Has.of hB F2 g2, ⟨K1.1, State.isArrayOf_alike al K1.2.1, K1.2.2, by rcases hcod with ⟨-, q, -⟩ | ⟨-, q, -⟩ <;> omega⟩, hcod, fun j hj => by
    have e : cs.getD j 0 = cs[j] := by simp [List.getD_eq_getElem?_getD, hj]
    show ¬ cs.getD j 0 < 0 ∧ ¬ 65535 < cs.getD j 0
    rw [e]; exact hb _ (List.getElem_mem _)⟩
end StrChars.Road
namespace StrChars
open Jvm Sem ClassFile Op Lib Jvm.Stand Jvm.Free.XT Jvm.Free.ALB Jvm.Free.JM Jvm.Free
open Jvm.Lib.Cold (StaticIs)
namespace ChN
def yN : MethodName := ⟨"java/lang/String", "charAt", "(I)C"⟩
abbrev yB : ByteArray := jdk_42_method_56_code
theorem d0 : decode yB 0 = .ok (.aload_n 0, 1) := by decide +kernel
theorem d1 : decode yB 1 = .ok (.invokevirtual 492, 3) := by decide +kernel
theorem d4 : decode yB 4 = .ok (.ifCond (.eq) 12, 3) := by decide +kernel
theorem d7 : decode yB 7 = .ok (.aload_n 0, 1) := by decide +kernel
theorem d8 : decode yB 8 = .ok (.getfield 9, 3) := by decide +kernel
theorem d11 : decode yB 11 = .ok (.iload_n 1, 1) := by decide +kernel
theorem d12 : decode yB 12 = .ok (.invokestatic 495, 3) := by decide +kernel
theorem d15 : decode yB 15 = .ok (.ireturn, 1) := by decide +kernel
def site : List Cond := [.fieldLink "java/lang/String" 9 "java/lang/String" "value" "[B", IsL.tab, LChA.tab] ++ virtW "java/lang/String" 492 "java/lang/String" IsL.yN IsL.yN ++ staticW "java/lang/String" 495 LChA.yN
def tab : Cond := tabOf yN yB 2 (some .char) site
def P (x t : Addr) (V : Cell) (n : Nat) (f : Nat → Int32) (z : Int32) (fm : Value) (i : Nat) (args : Array Value) (s : State) : Prop := args = #[.ref x, .int (Int32.ofNat i)] ∧ Txt x t V 0 n f s ∧ i < n ∧ StaticIs s "java/lang/String" "COMPACT_STRINGS" "Z" (.int z) ∧ ¬ z = 0 ∧ StaticIs s "jdk/internal/util/Preconditions" "SIOOBE_FORMATTER" "Ljava/util/function/BiFunction;" fm ∧ fm.isRef = true
def E (f : Nat → Int32) (i : Nat) (r : Option Value) (s u : State) : Prop := XT.PureE (some (.int (f i))) r s u
/-- charAt(i) of a Latin-1 String of n chars, i < n: f i -/
theorem law (l : Launch) (x t : Addr) (V : Cell) (n : Nat) (f : Nat → Int32) (z : Int32) (fm : Value) (i : Nat) : Law l yN 2 1 3 40 yB 2 (some .char) site (P x t V n f z fm i) (E f i) [] 0 0 := by
  refine Law.of_walk (plainFor_of_name (by decide +kernel)) (by decide +kernel) (by decide +kernel) (by decide) (fun _ _ h => by rw [h.1]; rfl) (fun _ U U' hal hh h => ⟨h.1, h.2.1.mv hal hh, h.2.2.1, h.2.2.2.1.there hal hh, h.2.2.2.2.1, h.2.2.2.2.2.1.there hal hh, h.2.2.2.2.2.2⟩) (fun r U U' V V' h1 hal h2 h => XT.PureE.mv r U U' V V' h1 hal h2 h) ?_
  intro p e s m args below meth c s₁ X0 hexec hbytes hml hret hlk hnm hown hh0 W hP
  obtain ⟨rfl, hx, hi, s1, hz, s3, rf⟩ := hP
  have v31 := hx.2.2.2.1.2.2.2
  have hr := hx.2.2.2.2.2 i hi
  have hx0 := hx.mv X0.warmed.alike hh0
  have c1 : Steps p.tables e below (s₁.setTop (entryFrame m #[.ref x, .int (Int32.ofNat i)] 2)) (s₁.setTop (mkF m 1 #[.val (.ref x), .val (.int (Int32.ofNat i))] [.ref x])) := Steps.trans (entry rfl) (by
    show Steps p.tables e below (s₁.setTop (mkF m 0 #[.val (.ref x), .val (.int (Int32.ofNat i))] [])) _
    refine XS.aloadN X0.here hexec rfl (hb hbytes d0) rfl rfl ?_
    exact Steps.refl _)
  obtain ⟨v2, T2, X2, E2, g2⟩ := X0.callV hexec (IsL.law l x 0 z) hown (wks W (virtW "java/lang/String" 492 "java/lang/String" IsL.yN IsL.yN)) rfl (by decide) (wk W IsL.tab) (W := 0) (Nat.le_of_ble_eq_true rfl) (Nat.le_of_ble_eq_true rfl) (Nat.le_refl _) (Nat.le_refl _) (hx0.1.fc X0.warmed.alike) hx0.1.is (g := (mkF m 1 #[.val (.ref x), .val (.int (Int32.ofNat i))] [.ref x])) rfl (by rw [hml]; rfl) c1 (argsL := []) (rest := []) rfl rfl (by show 2 * 0 + 0 ≤ _; decide) (hb hbytes d1) (⟨rfl, hx0.2.2.1, hx.2.2.2.2.1.cd, s1.there X0.warmed.alike hh0, hz⟩)
  obtain ⟨rfl, q2⟩ := E2
  have hh2 := q2.trans hh0
  have hx2 := hx.mv X2.warmed.alike hh2
  obtain ⟨-, k1, k2⟩ | ⟨k0, -⟩ := hx.2.2.2.2.1
  · have c3 : Steps p.tables e below (s₁.setTop (entryFrame m #[.ref x, .int (Int32.ofNat i)] 2)) (T2.setTop (mkF m 8 #[.val (.ref x), .val (.int (Int32.ofNat i))] [.ref x])) := Steps.trans g2 (by
      refine XS.ifNo X2.here hexec rfl (hb hbytes d4) rfl (i0_eq_f (by decide)) ?_
      refine XS.aloadN X2.here hexec rfl (hb hbytes d7) rfl rfl ?_
      exact Steps.refl _)
    obtain ⟨T4, X4, q4, st4⟩ := X2.hget hexec hown (wk W (.fieldLink "java/lang/String" 9 "java/lang/String" "value" "[B")) hx2.2.1 (g := (mkF m 8 #[.val (.ref x), .val (.int (Int32.ofNat i))] [.ref x])) rfl (rest := []) rfl (hb hbytes d8)
    have hh4 := q4.trans hh2
    have c5 : Steps p.tables e below (s₁.setTop (entryFrame m #[.ref x, .int (Int32.ofNat i)] 2)) (T4.setTop (mkF m 12 #[.val (.ref x), .val (.int (Int32.ofNat i))] [.int (Int32.ofNat i), .ref t])) := (c3.trans (st4 _ (Steps.refl _))).trans (by
      refine XS.iloadN X4.here hexec rfl (hb hbytes d11) rfl ?_
      exact Steps.refl _)
    obtain ⟨v6, T6, X6, E6, g6⟩ := X4.callS hexec (LChA.law l t V i (lo8 (f i)) fm) hown (wks W (staticW "java/lang/String" 495 LChA.yN)) (wk W LChA.tab) (W := 0) (Nat.le_of_ble_eq_true rfl) (Nat.le_of_ble_eq_true rfl) (Nat.le_refl _) (Nat.le_refl _) (g := (mkF m 12 #[.val (.ref x), .val (.int (Int32.ofNat i))] [.int (Int32.ofNat i), .ref t])) rfl (by rw [hml]; rfl) c5 (argsL := [.ref t, .int (Int32.ofNat i)]) (rest := []) rfl rfl (by show 2 * 0 + 0 ≤ _; decide) (hb hbytes d12) (⟨rfl, hx.2.2.2.1.mv X4.warmed.alike hh4, (k2 i hi).1, s3.there X4.warmed.alike hh4, rf⟩)
    obtain ⟨rfl, q6⟩ := E6
    rw [chr8_lo8 hr.1 (k2 i hi).2] at g6
    exact ⟨T6, some (.int (f i)), _, _, _, X6, rfl, rfl, rfl, (fun h => by cases h), ⟨rfl, q6.trans hh4⟩, fun fs hl => Steps.trans g6 (X6.ireturnOut hexec hret (narrow_ch hr.1 hr.2) (Or.inr (Or.inr (Or.inr (Or.inl rfl)))) (hb hbytes d15) hl)⟩
  · exact absurd k0 (by decide)
theorem pays {l : Launch} {R : Room} {p : Program} {e : Env} {below : List Frame} {s : State} {sargs : Array Value} {len W : Nat} (x t : Addr) (V : Cell) (n : Nat) (f : Nat → Int32) (z : Int32) (fm : Value) (i : Nat) (htab : tab.before sargs s = true) (hfr : 4 ≤ R.frames) (hlo : W + 53 ≤ R.locals) :
    Back l R p e below s sargs yN len W (fun A₁ a₁ => A₁.cells + 0 ≤ R.cells ∧ A₁.slots + 0 ≤ R.slots ∧ P x t V n f z fm i a₁ A₁.U) (fun A₁ _ v₁ B₁ => E f i v₁ A₁.U B₁.U ∧ B₁.locs = A₁.locs ++ [] ∧ B₁.cells = A₁.cells + 0 ∧ B₁.slots = A₁.slots + 0) :=
  (law l x t V n f z fm i).pays htab hfr (by omega)
end ChN
end StrChars
namespace StrChars.Road
open Jvm Sem ClassFile Op Lib Jvm.Stand Jvm.Free Jvm.Free.XT
open Jvm.Lib.Cold (StaticIs)
/-- the words of String.charAt(int), the Latin-1 road alone -/
abbrev wordsChN : List Jvm.Cond := [.code ChN.yN ChN.yB 2 (some .char), .initialized ST, .fieldLink ST 9 ST "value" "[B", .fieldLink ST 38 ST "COMPACT_STRINGS" "Z", .fieldLink ST 15 ST "coder" "B", .code IsL.yN IsL.yB 1 (some .boolean), .methodLink ST 492 IsL.yN, .declares IsL.yN, .selects ST IsL.yN IsL.yN, .instanceMethod IsL.yN,
  .methodLink ST 495 LChA.yN, .static LChA.yN, .code LChA.yN LChA.yB 2 (some .char), .initialized "java/lang/StringLatin1", .methodLink "java/lang/StringLatin1" 9 JO.Str_checkIndex.yN, .static JO.Str_checkIndex.yN, .code JO.Str_checkIndex.yN JO.Str_checkIndex.yB 2 none,
  .fieldLink ST 1053 "jdk/internal/util/Preconditions" "SIOOBE_FORMATTER" "Ljava/util/function/BiFunction;", .methodLink ST 1059 JC.PreCheck.yN, .static JC.PreCheck.yN, .code JC.PreCheck.yN JC.PreCheck.yB 3 (some .int), .initialized "jdk/internal/util/Preconditions"]
theorem tabChN_of {a : Array Value} {s : State} (h : ∀ w ∈ wordsChN, w.before a s = true) : ChN.tab.before a s = true := by
  have hp : JC.PreCheck.tab.before a s = true := unparts (wk h (.code JC.PreCheck.yN JC.PreCheck.yB 3 (some .int))) (wks h (.initialized JC.PreCheck.yN.cls :: JC.PreCheck.site))
  have qk := consq hp h
  have hk : JO.Str_checkIndex.tab.before a s = true := unparts (wk qk (.code JO.Str_checkIndex.yN JO.Str_checkIndex.yB 2 none)) (wks qk (.initialized JO.Str_checkIndex.yN.cls :: JO.Str_checkIndex.site))
  have ql := consq hk h
  have hl : LChA.tab.before a s = true := unparts (wk ql (.code LChA.yN LChA.yB 2 (some .char))) (wks ql (.initialized LChA.yN.cls :: LChA.site))
  have hi : IsL.tab.before a s = true := unparts (wk h (.code IsL.yN IsL.yB 1 (some .boolean))) (wks h (.initialized IsL.yN.cls :: IsL.site))
  have q := consq hi (consq hl h)
  exact unparts (wk q (.code ChN.yN ChN.yB 2 (some .char))) (wks q (.initialized ChN.yN.cls :: ChN.site))
theorem movedChN {Z s : State} {a0 args : Array Value} (hZ : Z.Warmed39 s.vm) (hw : ∀ d ∈ wordsChN, d.before a0 Z = true) : ∀ d ∈ wordsChN, d.before args s = true := fun d hd => by
  have t : ∀ d ∈ wordsChN, (d.onTables && d.keepsFace) = true := by decide +kernel
  exact RoadKit.mv hZ (hw d hd) (t d hd)
/-- **charAt(i) OF A LATIN-1 STRING**, i < n: the char -/
theorem chN {p : Program} {l : Launch} {e : Env} {R : Room} {s : State} {args : Array Value} {below : List Frame} {len W : Nat} {Z : State} {a0 : Array Value} {h : Heap} (hZ : Z.Warmed39 s.vm) (hw : ∀ d ∈ wordsChN, d.before a0 Z = true) {kI : Nat} (wi : (Jvm.Cond.instantiable ST kI).before a0 Z = true)
    {x t : Addr} {kb : ClassId} {cs : List Int32} {N2 z : Int32} {vs : List Value} {fm : Value} {i : Nat} {j : Int32} (E : RoadKit.Exa Z h x ST) (V : RoadKit.Fld Z h x ST "value" "[B" (.ref t)) (C : RoadKit.Fld Z h x ST "coder" "B" (.int 0)) (K : RoadKit.Arv Z h t kb .byte N2 vs (.int 0)) (hc : CodA cs 0 N2 vs) (hb : ∀ c ∈ cs, ¬ c < 0 ∧ ¬ (65535 : Int32) < c)
    (S : RoadKit.Sta Z h ST "COMPACT_STRINGS" "Z" (.int z)) (hz : ¬ z = 0) (F : RoadKit.Sta Z h "jdk/internal/util/Preconditions" "SIOOBE_FORMATTER" "Ljava/util/function/BiFunction;" fm) (rf : fm.isRef = true) (l2 : cs.length ≤ 4000) (hi : i < cs.length) (hj : j = Int32.ofNat i) (hfr : 4 ≤ R.frames) (hlo : W + 53 ≤ R.locals) :
    Back l R p e below s args (⟨"java/lang/String", "charAt", "(I)C"⟩ : MethodName) len W (fun P a => a = #[.ref x, .int j] ∧ P.U.heap = h ∧ P.cells + 0 ≤ R.cells ∧ P.slots + 0 ≤ R.slots)
      (fun P _ v B => ∃ L, (v = some (.int (cs.getD i 0)) ∧ L = [] ∧ B.U.heap = h) ∧ B.locs = P.locs ++ L ∧ B.cells = P.cells + 0 ∧ B.slots = P.slots + 0) := by
  subst hj
  intro m meth c P g ig mk a X hg hsize hdg hW hn hp'
  obtain ⟨rfl, rfl, r1, r2⟩ := hp'
  have al : Z.vm.Alike P.U.vm := hZ.alike.trans X.warmed.alike
  obtain ⟨A, hx⟩ := txt_of wi al E V C K hc hb l2
  obtain ⟨v, B, X', ⟨⟨hv, hh⟩, hl, hk, hs⟩, st⟩ := ChN.pays x t A cs.length (fun j => cs.getD j 0) z fm i (tabChN_of (movedChN hZ hw)) hfr hlo m meth c P g ig mk _ X hg hsize hdg hW hn ⟨r1, r2, rfl, hx, hi, sta_is al S, hz, sta_is al F, rf⟩
  exact ⟨v, B, X', ⟨[], ⟨hv, rfl, hh⟩, hl, hk, hs⟩, st⟩
/-- what backV says of its String, as the contracts of this text ask it: cs's low bytes, coder 0 -/
theorem codOf {cs : List Int32} {n : Nat} (hn : cs.length = n) (hb : ∀ c ∈ cs, ¬ 255 < c) : CodA cs 0 (Int32.ofNat n) ((cs.map lo8).map Value.int) := Or.inl ⟨rfl, by rw [hn], by simp [List.map_map, Function.comp_def], hb⟩
end StrChars.Road
end Jvm.Pilot.@@N@@

namespace Jvm.Pilot.@@N@@
open Jvm Jvm.ClassFile Sem Op Lib Jvm.Free Jvm.Stand Jvm.LawKit Jvm.RoadKit Bundle Jvm.Pilot.@@N@@.Jvm.D
theorem d1_0 : decode jdk_29_method_69_code 0 = .ok (.iload_n 0, 1) := by decide +kernel
theorem d1_1 : decode jdk_29_method_69_code 1 = .ok (.iload_n 1, 1) := by decide +kernel
theorem d1_2 : decode jdk_29_method_69_code 2 = .ok (.if_icmp .gt 7, 3) := by decide +kernel
theorem d1_9 : decode jdk_29_method_69_code 9 = .ok (.iload_n 1, 1) := by decide +kernel
theorem d1_10 : decode jdk_29_method_69_code 10 = .ok (.ireturn, 1) := by decide +kernel
theorem d1_5 : decode jdk_29_method_69_code 5 = .ok (.iload_n 0, 1) := by decide +kernel
theorem d1_6 : decode jdk_29_method_69_code 6 = .ok (.goto 4, 3) := by decide +kernel
theorem ef_rm1 (m : MethodId) (x0 : Int32) (x1 : Int32) : entryFrame m #[(.int x0), (.int x1)] 2 = mkF m 0 #[.val (.int x0), .val (.int x1)] [] := by first | (simp [entryFrame, mkF, argsToLocals, Value.category]; done) | rfl
def minF (p1 : Int32) (p2 : Int32) : Int32 :=
  if p2 < p1 then p2
  else p1
def Q1 (Z : State) (p1 : Int32) (p2 : Int32) (h0 : Heap) (n0 : Nat) (v : Option Value) (h : Heap) (L : List Loc) : Prop := v = some (.int (minF p1 p2)) ∧ Fr n0 L ∧ h = h0
set_option maxRecDepth 65536 in
set_option maxHeartbeats 40000000 in
theorem rm1 (l : Launch) (Z : State) (a0 : Array Value) (hw : ∀ d ∈ tables_1, d.before a0 Z = true) (ws : List Jvm.Cond) (p1 : Int32) (p2 : Int32) (h0 : Heap) (n0 : Nat) (Z0 : n0 ≤ h0.size) :
    MetFree l (⟨"java/lang/Math", "min", "(II)I"⟩ : MethodName) (head1 (Jvm.Cond.code (⟨"java/lang/Math", "min", "(II)I"⟩ : MethodName) jdk_29_method_69_code 2 (some .int) :: ws) ({ frames := 0, cells := 0, slots := 0, locals := 0 } : Room)) (fun a U => a = #[(.int p1), (.int p2)] ∧ Z.Warmed39 U.vm ∧ U.heap = h0) (fun _ _ _ _ _ => True) (fun _ U o U' => ∃ v L, o = .returned v ∧ Q1 Z p1 p2 h0 n0 v U'.heap L ∧ FrameEnd U o U' L ({ frames := 0, cells := 0, slots := 0, locals := 0 } : Room).cells ({ frames := 0, cells := 0, slots := 0, locals := 0 } : Room).slots) := by
  refine MetFree.of_bodySF (Jvm.Free.JP.mathPlain rfl (by decide +kernel)) hisR ?_
  intro p e s m args below meth c s₁ Bd hml0 hP hK
  obtain ⟨rfl, hZ, hh⟩ := hP
  have hx := Bd.exec
  have hby := Bd.bytes
  have hml : c.maxLocals = 2 := hml0
  have hown : s.vm.findClass "java/lang/Math" = some m.cls := findClass_of_methodNamed Bd.named
  have hnm := (name_of_methodNamed Bd.named Bd.method).1
  have X0 : Stand p l e ({ frames := 0, cells := 0, slots := 0, locals := 0 } : Room) s m #[(.int p1), (.int p2)] below meth c s₁ [] 0 0 := Stand.of_body Bd
  have e0 : s₁.heap = h0 := by rw [← hh, Bd.state]; rfl
  have N0 := Fr.nil n0
  have pre0 : ∀ t, Steps p.tables e below (s₁.setTop (mkF m 0 #[.val (.int p1), .val (.int p2)] [])) t → Steps p.tables e below (s₁.setTop (entryFrame m #[(.int p1), (.int p2)] 2)) t := fun t k => castTop (ef_rm1 m p1 p2) k
  have pre1 : ∀ t, Steps p.tables e below (s₁.setTop (mkF m 2 #[.val (.int p1), .val (.int p2)] [(.int p2), (.int p1)])) t → Steps p.tables e below (s₁.setTop (entryFrame m #[(.int p1), (.int p2)] 2)) t := by
    intro t kt
    refine pre0 t ?_
    show Steps p.tables e below (s₁.setTop (mkF m 0 #[.val (.int p1), .val (.int p2)] [])) _
    refine XS.iloadN X0.here hx rfl (hb hby d1_0) rfl ?_
    show Steps p.tables e below (s₁.setTop (mkF m 1 #[.val (.int p1), .val (.int p2)] [(.int p1)])) _
    refine XS.iloadN X0.here hx rfl (hb hby d1_1) rfl ?_
    show Steps p.tables e below (s₁.setTop (mkF m 2 #[.val (.int p1), .val (.int p2)] [(.int p2), (.int p1)])) _
    exact kt
  by_cases hc2_2 : p2 < p1
  · obtain ⟨fs, hr, hrun, hended, hW, hsame⟩ := X0.leave (v := some (.int p2)) (fun h => by rw [Bd.returns] at h; cases h)
    refine ⟨_, _, pre1 _ ?_, hrun, hended, _, _, rfl, ?_, ⟨_, rfl⟩, hW, hsame.mono (by decide) (by decide)⟩
    · show Steps p.tables e below (s₁.setTop (mkF m 2 #[.val (.int p1), .val (.int p2)] [(.int p2), (.int p1)])) _
      refine XS.icmpYes X0.here hx rfl (pc0 := 2) (pc' := 9) rfl (hb hby d1_2) rfl (tlt hc2_2).2.2.1 (by decide) (by decide) ?_
      show Steps p.tables e below (s₁.setTop (mkF m 9 #[.val (.int p1), .val (.int p2)] [])) _
      refine XS.iloadN X0.here hx rfl (hb hby d1_9) rfl ?_
      show Steps p.tables e below (s₁.setTop (mkF m 10 #[.val (.int p1), .val (.int p2)] [(.int p2)])) _
      exact retI X0 hx Bd.returns (hb hby d1_10) hr
    · show Q1 Z p1 p2 h0 n0 _ s₁.heap _
      rw [e0]
      refine ⟨?_, N0, rfl⟩
      show (some (.int p2) : Option Value) = some (.int (minF p1 p2))
      rw [show (minF p1 p2) = p2 from by unfold minF; rw [if_pos hc2_2]]
  · obtain ⟨fs, hr, hrun, hended, hW, hsame⟩ := X0.leave (v := some (.int p1)) (fun h => by rw [Bd.returns] at h; cases h)
    refine ⟨_, _, pre1 _ ?_, hrun, hended, _, _, rfl, ?_, ⟨_, rfl⟩, hW, hsame.mono (by decide) (by decide)⟩
    · show Steps p.tables e below (s₁.setTop (mkF m 2 #[.val (.int p1), .val (.int p2)] [(.int p2), (.int p1)])) _
      refine XS.icmpNo X0.here hx rfl (hb hby d1_2) rfl (flt hc2_2).2.2.1 ?_
      show Steps p.tables e below (s₁.setTop (mkF m 5 #[.val (.int p1), .val (.int p2)] [])) _
      refine XS.iloadN X0.here hx rfl (hb hby d1_5) rfl ?_
      show Steps p.tables e below (s₁.setTop (mkF m 6 #[.val (.int p1), .val (.int p2)] [(.int p1)])) _
      refine XS.goto X0.here hx rfl (pc0 := 6) (pc' := 10) rfl (hb hby d1_6) (by decide) (by decide) ?_
      show Steps p.tables e below (s₁.setTop (mkF m 10 #[.val (.int p1), .val (.int p2)] [(.int p1)])) _
      exact retI X0 hx Bd.returns (hb hby d1_10) hr
    · show Q1 Z p1 p2 h0 n0 _ s₁.heap _
      rw [e0]
      refine ⟨?_, N0, rfl⟩
      show (some (.int p1) : Option Value) = some (.int (minF p1 p2))
      rw [show (minF p1 p2) = p1 from by unfold minF; rw [if_neg hc2_2]]
theorem d2_0 : decode jdk_29_method_65_code 0 = .ok (.iload_n 0, 1) := by decide +kernel
theorem d2_1 : decode jdk_29_method_65_code 1 = .ok (.iload_n 1, 1) := by decide +kernel
theorem d2_2 : decode jdk_29_method_65_code 2 = .ok (.if_icmp .lt 7, 3) := by decide +kernel
theorem d2_9 : decode jdk_29_method_65_code 9 = .ok (.iload_n 1, 1) := by decide +kernel
theorem d2_10 : decode jdk_29_method_65_code 10 = .ok (.ireturn, 1) := by decide +kernel
theorem d2_5 : decode jdk_29_method_65_code 5 = .ok (.iload_n 0, 1) := by decide +kernel
theorem d2_6 : decode jdk_29_method_65_code 6 = .ok (.goto 4, 3) := by decide +kernel
theorem ef_rm2 (m : MethodId) (x0 : Int32) (x1 : Int32) : entryFrame m #[(.int x0), (.int x1)] 2 = mkF m 0 #[.val (.int x0), .val (.int x1)] [] := by first | (simp [entryFrame, mkF, argsToLocals, Value.category]; done) | rfl
def maxF (p1 : Int32) (p2 : Int32) : Int32 :=
  if p1 < p2 then p2
  else p1
def Q2 (Z : State) (p1 : Int32) (p2 : Int32) (h0 : Heap) (n0 : Nat) (v : Option Value) (h : Heap) (L : List Loc) : Prop := v = some (.int (maxF p1 p2)) ∧ Fr n0 L ∧ h = h0
set_option maxRecDepth 65536 in
set_option maxHeartbeats 40000000 in
theorem rm2 (l : Launch) (Z : State) (a0 : Array Value) (hw : ∀ d ∈ tables_1, d.before a0 Z = true) (ws : List Jvm.Cond) (p1 : Int32) (p2 : Int32) (h0 : Heap) (n0 : Nat) (Z0 : n0 ≤ h0.size) :
    MetFree l (⟨"java/lang/Math", "max", "(II)I"⟩ : MethodName) (head1 (Jvm.Cond.code (⟨"java/lang/Math", "max", "(II)I"⟩ : MethodName) jdk_29_method_65_code 2 (some .int) :: ws) ({ frames := 0, cells := 0, slots := 0, locals := 0 } : Room)) (fun a U => a = #[(.int p1), (.int p2)] ∧ Z.Warmed39 U.vm ∧ U.heap = h0) (fun _ _ _ _ _ => True) (fun _ U o U' => ∃ v L, o = .returned v ∧ Q2 Z p1 p2 h0 n0 v U'.heap L ∧ FrameEnd U o U' L ({ frames := 0, cells := 0, slots := 0, locals := 0 } : Room).cells ({ frames := 0, cells := 0, slots := 0, locals := 0 } : Room).slots) := by
  refine MetFree.of_bodySF (Jvm.Free.JP.mathPlain rfl (by decide +kernel)) hisR ?_
  intro p e s m args below meth c s₁ Bd hml0 hP hK
  obtain ⟨rfl, hZ, hh⟩ := hP
  have hx := Bd.exec
  have hby := Bd.bytes
  have hml : c.maxLocals = 2 := hml0
  have hown : s.vm.findClass "java/lang/Math" = some m.cls := findClass_of_methodNamed Bd.named
  have hnm := (name_of_methodNamed Bd.named Bd.method).1
  have X0 : Stand p l e ({ frames := 0, cells := 0, slots := 0, locals := 0 } : Room) s m #[(.int p1), (.int p2)] below meth c s₁ [] 0 0 := Stand.of_body Bd
  have e0 : s₁.heap = h0 := by rw [← hh, Bd.state]; rfl
  have N0 := Fr.nil n0
  have pre0 : ∀ t, Steps p.tables e below (s₁.setTop (mkF m 0 #[.val (.int p1), .val (.int p2)] [])) t → Steps p.tables e below (s₁.setTop (entryFrame m #[(.int p1), (.int p2)] 2)) t := fun t k => castTop (ef_rm2 m p1 p2) k
  have pre1 : ∀ t, Steps p.tables e below (s₁.setTop (mkF m 2 #[.val (.int p1), .val (.int p2)] [(.int p2), (.int p1)])) t → Steps p.tables e below (s₁.setTop (entryFrame m #[(.int p1), (.int p2)] 2)) t := by
    intro t kt
    refine pre0 t ?_
    show Steps p.tables e below (s₁.setTop (mkF m 0 #[.val (.int p1), .val (.int p2)] [])) _
    refine XS.iloadN X0.here hx rfl (hb hby d2_0) rfl ?_
    show Steps p.tables e below (s₁.setTop (mkF m 1 #[.val (.int p1), .val (.int p2)] [(.int p1)])) _
    refine XS.iloadN X0.here hx rfl (hb hby d2_1) rfl ?_
    show Steps p.tables e below (s₁.setTop (mkF m 2 #[.val (.int p1), .val (.int p2)] [(.int p2), (.int p1)])) _
    exact kt
  by_cases hc2_2 : p1 < p2
  · obtain ⟨fs, hr, hrun, hended, hW, hsame⟩ := X0.leave (v := some (.int p2)) (fun h => by rw [Bd.returns] at h; cases h)
    refine ⟨_, _, pre1 _ ?_, hrun, hended, _, _, rfl, ?_, ⟨_, rfl⟩, hW, hsame.mono (by decide) (by decide)⟩
    · show Steps p.tables e below (s₁.setTop (mkF m 2 #[.val (.int p1), .val (.int p2)] [(.int p2), (.int p1)])) _
      refine XS.icmpYes X0.here hx rfl (pc0 := 2) (pc' := 9) rfl (hb hby d2_2) rfl (tlt hc2_2).1 (by decide) (by decide) ?_
      show Steps p.tables e below (s₁.setTop (mkF m 9 #[.val (.int p1), .val (.int p2)] [])) _
      refine XS.iloadN X0.here hx rfl (hb hby d2_9) rfl ?_
      show Steps p.tables e below (s₁.setTop (mkF m 10 #[.val (.int p1), .val (.int p2)] [(.int p2)])) _
      exact retI X0 hx Bd.returns (hb hby d2_10) hr
    · show Q2 Z p1 p2 h0 n0 _ s₁.heap _
      rw [e0]
      refine ⟨?_, N0, rfl⟩
      show (some (.int p2) : Option Value) = some (.int (maxF p1 p2))
      rw [show (maxF p1 p2) = p2 from by unfold maxF; rw [if_pos hc2_2]]
  · obtain ⟨fs, hr, hrun, hended, hW, hsame⟩ := X0.leave (v := some (.int p1)) (fun h => by rw [Bd.returns] at h; cases h)
    refine ⟨_, _, pre1 _ ?_, hrun, hended, _, _, rfl, ?_, ⟨_, rfl⟩, hW, hsame.mono (by decide) (by decide)⟩
    · show Steps p.tables e below (s₁.setTop (mkF m 2 #[.val (.int p1), .val (.int p2)] [(.int p2), (.int p1)])) _
      refine XS.icmpNo X0.here hx rfl (hb hby d2_2) rfl (flt hc2_2).1 ?_
      show Steps p.tables e below (s₁.setTop (mkF m 5 #[.val (.int p1), .val (.int p2)] [])) _
      refine XS.iloadN X0.here hx rfl (hb hby d2_5) rfl ?_
      show Steps p.tables e below (s₁.setTop (mkF m 6 #[.val (.int p1), .val (.int p2)] [(.int p1)])) _
      refine XS.goto X0.here hx rfl (pc0 := 6) (pc' := 10) rfl (hb hby d2_6) (by decide) (by decide) ?_
      show Steps p.tables e below (s₁.setTop (mkF m 10 #[.val (.int p1), .val (.int p2)] [(.int p1)])) _
      exact retI X0 hx Bd.returns (hb hby d2_10) hr
    · show Q2 Z p1 p2 h0 n0 _ s₁.heap _
      rw [e0]
      refine ⟨?_, N0, rfl⟩
      show (some (.int p1) : Option Value) = some (.int (maxF p1 p2))
      rw [show (maxF p1 p2) = p1 from by unfold maxF; rw [if_neg hc2_2]]
/-- an array of 128 booleans, by what each place holds -/
def LB (Z : State) (h : Heap) (a : Addr) (f : Nat → Int32) : Prop := ∃ c : Cell, Arr Z h a c .boolean ∧ c.slots.size = 128 ∧ ∀ j, j < 128 → c.slots[j]? = some (.int (f j))
section LBs
variable {Z : State} {h h' : Heap} {a b : Addr} {f : Nat → Int32} {sl : Nat} {v : Value} {ws : List Addr}
theorem LB.lt (F : LB Z h a f) : a < h.size := by obtain ⟨c, A, -⟩ := F; exact A.lt
theorem LB.ext (F : LB Z h a f) (E : Ext h h') : LB Z h' a f := by obtain ⟨c, A, r⟩ := F; exact ⟨c, A.ext E, r⟩
theorem LB.other (F : LB Z h b f) (W : Wr h h' a sl v) (q : b ≠ a) : LB Z h' b f := by obtain ⟨c, A, r⟩ := F; exact ⟨c, A.other W q, r⟩
theorem LB.keep (F : LB Z h a f) (K : Keep h h' ws) (q : a ∉ ws) : LB Z h' a f := by obtain ⟨c, A, r⟩ := F; exact ⟨c, ⟨K.2.1 a c A.1 q, A.2⟩, r⟩
theorem LB.set {j : Nat} {x : Int32} (F : LB Z h a f) (W : Wr h h' a j (.int x)) : LB Z h' a (fun k => if k = j then x else f k) := by
  obtain ⟨c, A, s1, s2⟩ := F
  obtain ⟨c', e1, e2, e3, e4, e5, e6, e7⟩ := wr_at W A.1
  refine ⟨c.setSlot j (.int x), Arr.same W A, by rw [sz_set]; exact s1, fun k hk => ?_⟩
  by_cases q : k = j
  · subst q
    show _ = some (Value.int (if k = k then x else f k))
    rw [if_pos rfl, ← (e7 rfl).1]; exact (e7 rfl).2.1
  · show _ = some (Value.int (if k = j then x else f k))
    rw [if_neg q, ← (e7 rfl).1, e6 k q]; exact s2 k hk
theorem LB.new {k : ClassId} {z : Int32} (A : Arr Z h a (newA k .boolean z) .boolean) (hz : z.toNatClampNeg = 128) : LB Z h a (fun _ => 0) :=
  ⟨_, A, by rw [sz_new]; exact hz, fun j hj => by simp [newA, hz, hj, defaultValue]⟩
end LBs
theorem own_in {c : Cell} {j : Int32} (hs : c.slots.size = 128) (h0 : 0 ≤ j.toInt) (h1 : j.toInt < 128) : ¬ (j < 0 ∨ c.slots.size ≤ j.toNatClampNeg) := by
  have z0 : (0 : Int32).toInt = 0 := rfl
  have q : ¬ j < 0 := by rw [Int32.lt_iff_toInt_lt, z0]; omega
  have e := nat_of q
  rintro (r | r)
  · exact q r
  · omega
theorem own_nat {j : Int32} (h0 : 0 ≤ j.toInt) : (j.toNatClampNeg : Int) = j.toInt := by
  have z0 : (0 : Int32).toInt = 0 := rfl
  exact (nat_of (by rw [Int32.lt_iff_toInt_lt, z0]; omega)).symm
theorem own_len {c : Cell} (hs : c.slots.size = 128) : c.slots.size.toInt32 = 128 := by rw [hs]; rfl
theorem d9_0 : decode prog_37_method_1_code 0 = .ok (.aload_n 0, 1) := by decide +kernel
theorem d9_1 : decode prog_37_method_1_code 1 = .ok (.invokespecial 1, 3) := by decide +kernel
theorem d9_4 : decode prog_37_method_1_code 4 = .ok (.aload_n 0, 1) := by decide +kernel
theorem d9_5 : decode prog_37_method_1_code 5 = .ok (.sipush 128, 3) := by decide +kernel
theorem d9_8 : decode prog_37_method_1_code 8 = .ok (.newarray .boolean, 2) := by decide +kernel
theorem d9_10 : decode prog_37_method_1_code 10 = .ok (.putfield 7, 3) := by decide +kernel
theorem d9_13 : decode prog_37_method_1_code 13 = .ok (.iconst 0, 1) := by decide +kernel
theorem d9_14 : decode prog_37_method_1_code 14 = .ok (.istore_n 2, 1) := by decide +kernel
theorem d9_15 : decode prog_37_method_1_code 15 = .ok (.iload_n 2, 1) := by decide +kernel
theorem d9_16 : decode prog_37_method_1_code 16 = .ok (.aload_n 1, 1) := by decide +kernel
theorem d9_17 : decode prog_37_method_1_code 17 = .ok (.invokevirtual 13, 3) := by decide +kernel
theorem pd_0 : parseMethodDescriptor "()I" = some ⟨[], some .int⟩ := by decide +kernel
theorem d9_20 : decode prog_37_method_1_code 20 = .ok (.if_icmp .ge 110, 3) := by decide +kernel
theorem d9_23 : decode prog_37_method_1_code 23 = .ok (.aload_n 1, 1) := by decide +kernel
theorem d9_24 : decode prog_37_method_1_code 24 = .ok (.iload_n 2, 1) := by decide +kernel
theorem d9_25 : decode prog_37_method_1_code 25 = .ok (.invokevirtual 19, 3) := by decide +kernel
theorem pd_1 : parseMethodDescriptor "(I)C" = some ⟨[.int], some .char⟩ := by decide +kernel
theorem d9_28 : decode prog_37_method_1_code 28 = .ok (.istore_n 3, 1) := by decide +kernel
theorem d9_29 : decode prog_37_method_1_code 29 = .ok (.iload_n 3, 1) := by decide +kernel
theorem d9_30 : decode prog_37_method_1_code 30 = .ok (.istore 4, 2) := by decide +kernel
theorem d9_32 : decode prog_37_method_1_code 32 = .ok (.iload_n 2, 1) := by decide +kernel
theorem d9_33 : decode prog_37_method_1_code 33 = .ok (.iconst 2, 1) := by decide +kernel
theorem d9_34 : decode prog_37_method_1_code 34 = .ok (.iadd, 1) := by decide +kernel
theorem d9_35 : decode prog_37_method_1_code 35 = .ok (.aload_n 1, 1) := by decide +kernel
theorem d9_36 : decode prog_37_method_1_code 36 = .ok (.invokevirtual 13, 3) := by decide +kernel
theorem d9_39 : decode prog_37_method_1_code 39 = .ok (.if_icmp .ge 27, 3) := by decide +kernel
theorem d9_42 : decode prog_37_method_1_code 42 = .ok (.aload_n 1, 1) := by decide +kernel
theorem d9_43 : decode prog_37_method_1_code 43 = .ok (.iload_n 2, 1) := by decide +kernel
theorem d9_44 : decode prog_37_method_1_code 44 = .ok (.iconst 1, 1) := by decide +kernel
theorem d9_45 : decode prog_37_method_1_code 45 = .ok (.iadd, 1) := by decide +kernel
theorem d9_46 : decode prog_37_method_1_code 46 = .ok (.invokevirtual 19, 3) := by decide +kernel
theorem d9_49 : decode prog_37_method_1_code 49 = .ok (.bipush 45, 2) := by decide +kernel
theorem d9_51 : decode prog_37_method_1_code 51 = .ok (.if_icmp .ne 15, 3) := by decide +kernel
theorem d9_54 : decode prog_37_method_1_code 54 = .ok (.aload_n 1, 1) := by decide +kernel
theorem d9_55 : decode prog_37_method_1_code 55 = .ok (.iload_n 2, 1) := by decide +kernel
theorem d9_56 : decode prog_37_method_1_code 56 = .ok (.iconst 2, 1) := by decide +kernel
theorem d9_57 : decode prog_37_method_1_code 57 = .ok (.iadd, 1) := by decide +kernel
theorem d9_58 : decode prog_37_method_1_code 58 = .ok (.invokevirtual 19, 3) := by decide +kernel
theorem d9_61 : decode prog_37_method_1_code 61 = .ok (.istore 4, 2) := by decide +kernel
theorem d9_63 : decode prog_37_method_1_code 63 = .ok (.iinc 2 2, 3) := by decide +kernel
theorem d9_66 : decode prog_37_method_1_code 66 = .ok (.iload 4, 2) := by decide +kernel
theorem d9_68 : decode prog_37_method_1_code 68 = .ok (.aload_n 0, 1) := by decide +kernel
theorem d9_69 : decode prog_37_method_1_code 69 = .ok (.getfield 7, 3) := by decide +kernel
theorem d9_72 : decode prog_37_method_1_code 72 = .ok (.arraylength, 1) := by decide +kernel
theorem d9_73 : decode prog_37_method_1_code 73 = .ok (.if_icmp .ge 9, 3) := by decide +kernel
theorem d9_76 : decode prog_37_method_1_code 76 = .ok (.iload 4, 2) := by decide +kernel
theorem d9_78 : decode prog_37_method_1_code 78 = .ok (.iload_n 3, 1) := by decide +kernel
theorem d9_79 : decode prog_37_method_1_code 79 = .ok (.if_icmp .ge 17, 3) := by decide +kernel
theorem d9_96 : decode prog_37_method_1_code 96 = .ok (.iload_n 3, 1) := by decide +kernel
theorem d9_97 : decode prog_37_method_1_code 97 = .ok (.istore 5, 2) := by decide +kernel
theorem d9_99 : decode prog_37_method_1_code 99 = .ok (.iload 5, 2) := by decide +kernel
theorem d9_101 : decode prog_37_method_1_code 101 = .ok (.iload 4, 2) := by decide +kernel
theorem d9_103 : decode prog_37_method_1_code 103 = .ok (.if_icmp .gt 21, 3) := by decide +kernel
theorem d9_106 : decode prog_37_method_1_code 106 = .ok (.aload_n 0, 1) := by decide +kernel
theorem d9_107 : decode prog_37_method_1_code 107 = .ok (.getfield 7, 3) := by decide +kernel
theorem d9_110 : decode prog_37_method_1_code 110 = .ok (.iload 5, 2) := by decide +kernel
theorem d9_112 : decode prog_37_method_1_code 112 = .ok (.iconst 1, 1) := by decide +kernel
theorem d9_113 : decode prog_37_method_1_code 113 = .ok (.bastore, 1) := by decide +kernel
theorem d9_114 : decode prog_37_method_1_code 114 = .ok (.iload 5, 2) := by decide +kernel
theorem d9_116 : decode prog_37_method_1_code 116 = .ok (.iconst 1, 1) := by decide +kernel
theorem d9_117 : decode prog_37_method_1_code 117 = .ok (.iadd, 1) := by decide +kernel
theorem d9_118 : decode prog_37_method_1_code 118 = .ok (.i2c, 1) := by decide +kernel
theorem d9_119 : decode prog_37_method_1_code 119 = .ok (.istore 5, 2) := by decide +kernel
theorem d9_121 : decode prog_37_method_1_code 121 = .ok (.goto (-22), 3) := by decide +kernel
theorem d9_124 : decode prog_37_method_1_code 124 = .ok (.iinc 2 1, 3) := by decide +kernel
theorem d9_127 : decode prog_37_method_1_code 127 = .ok (.goto (-112), 3) := by decide +kernel
theorem d9_130 : decode prog_37_method_1_code 130 = .ok (.return_, 1) := by decide +kernel
theorem pn_0 : plainName "com/example/attestrail/attestrail/event/AsciiClass" = true := by first | (simp [plainName, overriddenIn]; done) | decide +kernel
theorem ef_rm9 (m : MethodId) (x0 : Addr) (x1 : Addr) : entryFrame m #[(.ref x0), (.ref x1)] 6 = mkF m 0 #[.val (.ref x0), .val (.ref x1), .unset, .unset, .unset, .unset] [] := by first | (simp [entryFrame, mkF, argsToLocals, Value.category]; done) | rfl
def Q9 (Z : State) (ob : Addr) (sx : Addr) (tx : Addr) (kb : ClassId) (c0 : Int32) (c2 : Int32) (c3 : Int32) (zc : Int32) (fm : Value) (h0 : Heap) (n0 : Nat) (v : Option Value) (h : Heap) (L : List Loc) : Prop := ∃ (ar : Addr) (f : Nat → Int32), v = none ∧ Fr n0 L ∧ Keep h0 h [ob] ∧ Exa Z h ob "com/example/attestrail/attestrail/event/AsciiClass" ∧ Fld Z h ob "com/example/attestrail/attestrail/event/AsciiClass" "members" "[Z" (.ref ar) ∧ n0 ≤ ar ∧ LB Z h ar f ∧ ∀ k : Nat, f k = if c3.toInt ≤ (k : Int) ∧ (k : Int) ≤ c3.toInt then 1 else if c0.toInt ≤ (k : Int) ∧ (k : Int) ≤ c2.toInt then 1 else (0 : Int32)
set_option maxRecDepth 65536 in
set_option maxHeartbeats 40000000 in
theorem rm9 (l : Launch) (Z : State) (a0 : Array Value) (hw : ∀ d ∈ tables_1, d.before a0 Z = true) (ws : List Jvm.Cond) (ob : Addr) (sx : Addr) (tx : Addr) (kb : ClassId) (c0 : Int32) (c2 : Int32) (c3 : Int32) (zc : Int32) (fm : Value) (h0 : Heap) (n0 : Nat) (Z0 : n0 ≤ h0.size) (O : Old Z n0 h0) (E_ob : Exa Z h0 ob "com/example/attestrail/attestrail/event/AsciiClass") (g_ob : n0 ≤ ob) (F_m : Fld Z h0 ob "com/example/attestrail/attestrail/event/AsciiClass" "members" "[Z" .null) (E_s : Exa Z h0 sx "java/lang/String") (V_s : Fld Z h0 sx "java/lang/String" "value" "[B" (.ref tx)) (C_s : Fld Z h0 sx "java/lang/String" "coder" "B" (.int (0 : Int32))) (K_s : Arv Z h0 tx kb .byte (4 : Int32) ((([c0, (45 : Int32), c2, c3] : List Int32).map (fun c => c.toInt8.toInt32)).map Value.int) (.int 0)) (nes : sx ≠ ob) (net : tx ≠ ob) (S_c : Sta Z Z.heap "java/lang/String" "COMPACT_STRINGS" "Z" (.int zc)) (hzc : ¬ zc = (0 : Int32)) (S_f : Sta Z Z.heap "jdk/internal/util/Preconditions" "SIOOBE_FORMATTER" "Ljava/util/function/BiFunction;" fm) (rfm : fm.isRef = true) (c0a : 0 ≤ c0.toInt) (c0b : c0.toInt < 128) (c2a : 0 ≤ c2.toInt) (c2b : c2.toInt < 128) (c3a : 0 ≤ c3.toInt) (c3b : c3.toInt < 128) (hle : c0.toInt ≤ c2.toInt) :
    MetFree l (⟨"com/example/attestrail/attestrail/event/AsciiClass", "<init>", "(Ljava/lang/String;)V"⟩ : MethodName) (head1 (Jvm.Cond.code (⟨"com/example/attestrail/attestrail/event/AsciiClass", "<init>", "(Ljava/lang/String;)V"⟩ : MethodName) prog_37_method_1_code 6 none :: ws) ({ frames := 4, cells := 1, slots := 128, locals := 53 } : Room)) (fun a U => a = #[(.ref ob), (.ref sx)] ∧ Z.Warmed39 U.vm ∧ U.heap = h0) (fun _ _ _ _ _ => True) (fun _ U o U' => ∃ v L, o = .returned v ∧ Q9 Z ob sx tx kb c0 c2 c3 zc fm h0 n0 v U'.heap L ∧ FrameEnd U o U' L ({ frames := 4, cells := 1, slots := 128, locals := 53 } : Room).cells ({ frames := 4, cells := 1, slots := 128, locals := 53 } : Room).slots) := by
  refine MetFree.of_bodySF (plainFor_of_name pn_0) hisR ?_
  intro p e s m args below meth c s₁ Bd hml0 hP hK
  obtain ⟨rfl, hZ, hh⟩ := hP
  have hx := Bd.exec
  have hby := Bd.bytes
  have hml : c.maxLocals = 6 := hml0
  have hown : s.vm.findClass "com/example/attestrail/attestrail/event/AsciiClass" = some m.cls := findClass_of_methodNamed Bd.named
  have hnm := (name_of_methodNamed Bd.named Bd.method).1
  have X0 : Stand p l e ({ frames := 4, cells := 1, slots := 128, locals := 53 } : Room) s m #[(.ref ob), (.ref sx)] below meth c s₁ [] 0 0 := Stand.of_body Bd
  have e0 : s₁.heap = h0 := by rw [← hh, Bd.state]; rfl
  have N0 := Fr.nil n0
  have pre0 : ∀ t, Steps p.tables e below (s₁.setTop (mkF m 0 #[.val (.ref ob), .val (.ref sx), .unset, .unset, .unset, .unset] [])) t → Steps p.tables e below (s₁.setTop (entryFrame m #[(.ref ob), (.ref sx)] 6)) t := fun t k => castTop (ef_rm9 m ob sx) k
  have e0_ : (0 : Int32).toInt = 0 := rfl
  have e255 : (255 : Int32).toInt = 255 := rfl
  have e65 : (65535 : Int32).toInt = 65535 := rfl
  have e128 : (128 : Int32).toInt = 128 := rfl
  have hln : ∀ d ∈ StrChars.Road.wordsLen, d.before a0 Z = true := fun d hd => hw d ((by decide +kernel : ∀ d ∈ StrChars.Road.wordsLen, d ∈ tables_1) d hd)
  have hch : ∀ d ∈ StrChars.Road.wordsChN, d.before a0 Z = true := fun d hd => hw d ((by decide +kernel : ∀ d ∈ StrChars.Road.wordsChN, d ∈ tables_1) d hd)
  have hp : ∀ c ∈ ([c0, (45 : Int32), c2, c3] : List Int32), ¬ c < 0 ∧ ¬ (255 : Int32) < c ∧ ¬ (65535 : Int32) < c := by
    intro c hc
    simp only [List.mem_cons, List.not_mem_nil, or_false] at hc
    simp only [Int32.lt_iff_toInt_lt, e0_, e255, e65]
    rcases hc with rfl | rfl | rfl | rfl
    · omega
    · decide
    · omega
    · omega
  have hbd : ∀ c ∈ ([c0, (45 : Int32), c2, c3] : List Int32), ¬ c < 0 ∧ ¬ (65535 : Int32) < c := fun c hc => ⟨(hp c hc).1, (hp c hc).2.2⟩
  have hcd : StrChars.Road.CodA ([c0, (45 : Int32), c2, c3] : List Int32) 0 (4 : Int32) ((([c0, (45 : Int32), c2, c3] : List Int32).map (fun c => c.toInt8.toInt32)).map Value.int) := StrChars.Road.codOf (n := 4) rfl (fun c hc => (hp c hc).2.1)
  obtain ⟨T1, X1, e1, st1⟩ := initO X0 hx hZ hown (hw _ (List.mem_of_getElem? (i := 43) rfl)) (hw _ (List.mem_of_getElem? (i := 22) rfl)) (hw _ (List.mem_of_getElem? (i := 23) rfl)) e0 (g := (mkF m 1 #[.val (.ref ob), .val (.ref sx), .unset, .unset, .unset, .unset] [(.ref ob)])) rfl (by rw [hml]; rfl) rfl (hb hby d9_1) (by decide) (W := 0) (by show 2 * 0 + _ ≤ _; exact Nat.le_of_eq rfl) (by decide)
  obtain ⟨T2, h2, k2, X2, e2, E2, A2, st2⟩ := newP X1 hx hZ (hw _ (List.mem_of_getElem? (i := 44) rfl)) e1 (g := (mkF m 8 #[.val (.ref ob), .val (.ref sx), .unset, .unset, .unset, .unset] [(.int (128 : Int32)), (.ref ob)])) rfl (hb hby d9_8) rfl (by decide) (cap := 128) (by decide) (by decide) (by decide) (by decide)
  obtain ⟨b2, g2⟩ : ∃ z, z = h0.size := ⟨_, rfl⟩
  rw [← g2] at A2 st2
  have g_b2 : n0 ≤ b2 := Nat.le_trans Z0 (Nat.le_of_eq g2.symm)
  have sz_b2 : h0.size ≤ b2 := Nat.le_trans (Keep.refl h0 [ob]).1 (Nat.le_of_eq g2.symm)
  have ne_ob_b2 : ob ≠ b2 := Nat.ne_of_lt (Nat.lt_of_lt_of_le E_ob.lt (Nat.le_of_eq g2.symm))
  have ne_sx_b2 : sx ≠ b2 := Nat.ne_of_lt (Nat.lt_of_lt_of_le E_s.lt (Nat.le_of_eq g2.symm))
  have ne_tx_b2 : tx ≠ b2 := Nat.ne_of_lt (Nat.lt_of_lt_of_le K_s.lt (Nat.le_of_eq g2.symm))
  have Kc2 : Keep h0 h2 [ob] := (Keep.refl h0 [ob]).ext E2
  have Oc2 := O.ext E2
  have V_b2 : LB Z h2 b2 (fun _ => 0) := LB.new A2 (by decide)
  obtain ⟨T3, h3, X3, e3, W3, st3⟩ := putF X2 hx hZ hown (host := "") (Or.inl (hw _ (List.mem_of_getElem? (i := 45) rfl))) Via.refl e2 (F_m.ext E2) (E_ob.ext E2) (Or.inr ⟨(hw _ (List.mem_of_getElem? (i := 46) rfl)), rfl, hnm⟩) (hw _ (List.mem_of_getElem? (i := 9) rfl)) (ty := (.array .boolean)) (by decide) rfl rfl (g := (mkF m 10 #[.val (.ref ob), .val (.ref sx), .unset, .unset, .unset, .unset] [(.ref b2), (.ref ob)])) rfl rfl (hb hby d9_10)
  have Kc3 : Keep h0 h3 [ob] := Kc2.wr W3 (Or.inl (List.mem_of_getElem? (i := 0) rfl))
  have Oc3 := Oc2.wr W3 g_ob
  have N3 := Fr.snoc X3 N0 g_ob
  have Fw3 : Fld Z h3 ob "com/example/attestrail/attestrail/event/AsciiClass" "members" "[Z" (.ref b2) := (F_m.ext E2).same W3
  obtain ⟨cq4, kq4, q4a, q4b, q4c⟩ := isOf hZ e3 ((E_s.ext E2).wr W3)
  obtain ⟨_, _, ⟨T4, L4, k4, n4⟩, -, X4, ⟨Lc4, hQ4, l4, y4, z4⟩, st4⟩ := X3.virtualBack hx (y := (⟨"java/lang/String", "length", "()I"⟩ : MethodName)) (z := (⟨"java/lang/String", "length", "()I"⟩ : MethodName)) hown (mvT hZ (hw _ (List.mem_of_getElem? (i := 47) rfl))) (mvT hZ (hw _ (List.mem_of_getElem? (i := 48) rfl))) (notFace_of_selects (args := #[]) (mvT hZ (hw _ (List.mem_of_getElem? (i := 50) rfl)))) (mvT hZ (hw _ (List.mem_of_getElem? (i := 50) rfl))) (mvT hZ (hw _ (List.mem_of_getElem? (i := 49) rfl))) (by decide) (StrChars.Road.lenW (W := 1) hZ hln (kI := 4) (hw _ (List.mem_of_getElem? (i := 12) rfl)) ((E_s.ext E2).wr W3) ((V_s.ext E2).other W3 (Or.inl nes)) ((C_s.ext E2).other W3 (Or.inl nes)) ((K_s.ext E2).other W3 net) hcd hbd (S_c.ext Oc3.2) hzc (Nat.le_of_ble_eq_true rfl) (by decide) (by decide)) q4a q4c (g := (mkF m 17 #[.val (.ref ob), .val (.ref sx), .val (.int (0 : Int32)), .unset, .unset, .unset] [(.ref sx), (.int (0 : Int32))])) rfl (by rw [hml]; rfl) (Steps.refl _) (argsL := []) (rest := [(.int (0 : Int32))]) (lenOf pd_0 rfl) rfl (by show 2 * 0 + _ ≤ _; exact Nat.le_of_eq rfl) (hb hby d9_17) (fun _ _ => ⟨rfl, e3, (by decide : 1 + 0 ≤ _), (by decide : 128 + 0 ≤ _)⟩)
  dsimp only [Pt.U, Pt.locs, Pt.cells, Pt.slots] at X4 l4 y4 z4 st4 hQ4
  subst l4 y4 z4
  obtain ⟨rfl, rfl, e4⟩ := hQ4
  have N4q : Fr n0 ([] : List Loc) := Fr.nil n0
  have N4 := Fr.app N3 N4q
  obtain ⟨cq5, kq5, q5a, q5b, q5c⟩ := isOf hZ e4 ((E_s.ext E2).wr W3)
  obtain ⟨_, _, ⟨T5, L5, k5, n5⟩, -, X5, ⟨Lc5, hQ5, l5, y5, z5⟩, st5⟩ := X4.virtualBack hx (y := (⟨"java/lang/String", "charAt", "(I)C"⟩ : MethodName)) (z := (⟨"java/lang/String", "charAt", "(I)C"⟩ : MethodName)) hown (mvT hZ (hw _ (List.mem_of_getElem? (i := 57) rfl))) (mvT hZ (hw _ (List.mem_of_getElem? (i := 58) rfl))) (notFace_of_selects (args := #[]) (mvT hZ (hw _ (List.mem_of_getElem? (i := 60) rfl)))) (mvT hZ (hw _ (List.mem_of_getElem? (i := 60) rfl))) (mvT hZ (hw _ (List.mem_of_getElem? (i := 59) rfl))) (by decide) (StrChars.Road.chN (W := 0) hZ hch (kI := 4) (hw _ (List.mem_of_getElem? (i := 12) rfl)) ((E_s.ext E2).wr W3) ((V_s.ext E2).other W3 (Or.inl nes)) ((C_s.ext E2).other W3 (Or.inl nes)) ((K_s.ext E2).other W3 net) hcd hbd (S_c.ext Oc3.2) hzc (S_f.ext Oc3.2) rfm (Nat.le_of_ble_eq_true rfl) (i := 0) (Nat.le_of_ble_eq_true rfl) (j := (0 : Int32)) rfl (by decide) (by decide)) q5a q5c (g := (mkF m 25 #[.val (.ref ob), .val (.ref sx), .val (.int (0 : Int32)), .unset, .unset, .unset] [(.int (0 : Int32)), (.ref sx)])) rfl (by rw [hml]; rfl) (Steps.refl _) (argsL := [(.int (0 : Int32))]) (rest := []) (lenOf pd_1 rfl) rfl (by show 2 * 0 + _ ≤ _; exact Nat.le_of_eq rfl) (hb hby d9_25) (fun _ _ => ⟨rfl, e4, (by decide : 1 + 0 ≤ _), (by decide : 128 + 0 ≤ _)⟩)
  dsimp only [Pt.U, Pt.locs, Pt.cells, Pt.slots] at X5 l5 y5 z5 st5 hQ5
  subst l5 y5 z5
  obtain ⟨rfl, rfl, e5⟩ := hQ5
  have N5q : Fr n0 ([] : List Loc) := Fr.nil n0
  have N5 := Fr.app N4 N5q
  obtain ⟨cq6, kq6, q6a, q6b, q6c⟩ := isOf hZ e5 ((E_s.ext E2).wr W3)
  obtain ⟨_, _, ⟨T6, L6, k6, n6⟩, -, X6, ⟨Lc6, hQ6, l6, y6, z6⟩, st6⟩ := X5.virtualBack hx (y := (⟨"java/lang/String", "length", "()I"⟩ : MethodName)) (z := (⟨"java/lang/String", "length", "()I"⟩ : MethodName)) hown (mvT hZ (hw _ (List.mem_of_getElem? (i := 47) rfl))) (mvT hZ (hw _ (List.mem_of_getElem? (i := 48) rfl))) (notFace_of_selects (args := #[]) (mvT hZ (hw _ (List.mem_of_getElem? (i := 50) rfl)))) (mvT hZ (hw _ (List.mem_of_getElem? (i := 50) rfl))) (mvT hZ (hw _ (List.mem_of_getElem? (i := 49) rfl))) (by decide) (StrChars.Road.lenW (W := 1) hZ hln (kI := 4) (hw _ (List.mem_of_getElem? (i := 12) rfl)) ((E_s.ext E2).wr W3) ((V_s.ext E2).other W3 (Or.inl nes)) ((C_s.ext E2).other W3 (Or.inl nes)) ((K_s.ext E2).other W3 net) hcd hbd (S_c.ext Oc3.2) hzc (Nat.le_of_ble_eq_true rfl) (by decide) (by decide)) q6a q6c (g := (mkF m 36 #[.val (.ref ob), .val (.ref sx), .val (.int (0 : Int32)), .val (.int c0), .val (.int c0), .unset] [(.ref sx), (.int (2 : Int32))])) rfl (by rw [hml]; rfl) (Steps.refl _) (argsL := []) (rest := [(.int (2 : Int32))]) (lenOf pd_0 rfl) rfl (by show 2 * 0 + _ ≤ _; exact Nat.le_of_eq rfl) (hb hby d9_36) (fun _ _ => ⟨rfl, e5, (by decide : 1 + 0 ≤ _), (by decide : 128 + 0 ≤ _)⟩)
  dsimp only [Pt.U, Pt.locs, Pt.cells, Pt.slots] at X6 l6 y6 z6 st6 hQ6
  subst l6 y6 z6
  obtain ⟨rfl, rfl, e6⟩ := hQ6
  have N6q : Fr n0 ([] : List Loc) := Fr.nil n0
  have N6 := Fr.app N5 N6q
  obtain ⟨cq7, kq7, q7a, q7b, q7c⟩ := isOf hZ e6 ((E_s.ext E2).wr W3)
  obtain ⟨_, _, ⟨T7, L7, k7, n7⟩, -, X7, ⟨Lc7, hQ7, l7, y7, z7⟩, st7⟩ := X6.virtualBack hx (y := (⟨"java/lang/String", "charAt", "(I)C"⟩ : MethodName)) (z := (⟨"java/lang/String", "charAt", "(I)C"⟩ : MethodName)) hown (mvT hZ (hw _ (List.mem_of_getElem? (i := 57) rfl))) (mvT hZ (hw _ (List.mem_of_getElem? (i := 58) rfl))) (notFace_of_selects (args := #[]) (mvT hZ (hw _ (List.mem_of_getElem? (i := 60) rfl)))) (mvT hZ (hw _ (List.mem_of_getElem? (i := 60) rfl))) (mvT hZ (hw _ (List.mem_of_getElem? (i := 59) rfl))) (by decide) (StrChars.Road.chN (W := 0) hZ hch (kI := 4) (hw _ (List.mem_of_getElem? (i := 12) rfl)) ((E_s.ext E2).wr W3) ((V_s.ext E2).other W3 (Or.inl nes)) ((C_s.ext E2).other W3 (Or.inl nes)) ((K_s.ext E2).other W3 net) hcd hbd (S_c.ext Oc3.2) hzc (S_f.ext Oc3.2) rfm (Nat.le_of_ble_eq_true rfl) (i := 1) (Nat.le_of_ble_eq_true rfl) (j := (1 : Int32)) rfl (by decide) (by decide)) q7a q7c (g := (mkF m 46 #[.val (.ref ob), .val (.ref sx), .val (.int (0 : Int32)), .val (.int c0), .val (.int c0), .unset] [(.int (1 : Int32)), (.ref sx)])) rfl (by rw [hml]; rfl) (Steps.refl _) (argsL := [(.int (1 : Int32))]) (rest := []) (lenOf pd_1 rfl) rfl (by show 2 * 0 + _ ≤ _; exact Nat.le_of_eq rfl) (hb hby d9_46) (fun _ _ => ⟨rfl, e6, (by decide : 1 + 0 ≤ _), (by decide : 128 + 0 ≤ _)⟩)
  dsimp only [Pt.U, Pt.locs, Pt.cells, Pt.slots] at X7 l7 y7 z7 st7 hQ7
  subst l7 y7 z7
  obtain ⟨rfl, rfl, e7⟩ := hQ7
  have N7q : Fr n0 ([] : List Loc) := Fr.nil n0
  have N7 := Fr.app N6 N7q
  obtain ⟨cq8, kq8, q8a, q8b, q8c⟩ := isOf hZ e7 ((E_s.ext E2).wr W3)
  obtain ⟨_, _, ⟨T8, L8, k8, n8⟩, -, X8, ⟨Lc8, hQ8, l8, y8, z8⟩, st8⟩ := X7.virtualBack hx (y := (⟨"java/lang/String", "charAt", "(I)C"⟩ : MethodName)) (z := (⟨"java/lang/String", "charAt", "(I)C"⟩ : MethodName)) hown (mvT hZ (hw _ (List.mem_of_getElem? (i := 57) rfl))) (mvT hZ (hw _ (List.mem_of_getElem? (i := 58) rfl))) (notFace_of_selects (args := #[]) (mvT hZ (hw _ (List.mem_of_getElem? (i := 60) rfl)))) (mvT hZ (hw _ (List.mem_of_getElem? (i := 60) rfl))) (mvT hZ (hw _ (List.mem_of_getElem? (i := 59) rfl))) (by decide) (StrChars.Road.chN (W := 0) hZ hch (kI := 4) (hw _ (List.mem_of_getElem? (i := 12) rfl)) ((E_s.ext E2).wr W3) ((V_s.ext E2).other W3 (Or.inl nes)) ((C_s.ext E2).other W3 (Or.inl nes)) ((K_s.ext E2).other W3 net) hcd hbd (S_c.ext Oc3.2) hzc (S_f.ext Oc3.2) rfm (Nat.le_of_ble_eq_true rfl) (i := 2) (Nat.le_of_ble_eq_true rfl) (j := (2 : Int32)) rfl (by decide) (by decide)) q8a q8c (g := (mkF m 58 #[.val (.ref ob), .val (.ref sx), .val (.int (0 : Int32)), .val (.int c0), .val (.int c0), .unset] [(.int (2 : Int32)), (.ref sx)])) rfl (by rw [hml]; rfl) (Steps.refl _) (argsL := [(.int (2 : Int32))]) (rest := []) (lenOf pd_1 rfl) rfl (by show 2 * 0 + _ ≤ _; exact Nat.le_of_eq rfl) (hb hby d9_58) (fun _ _ => ⟨rfl, e7, (by decide : 1 + 0 ≤ _), (by decide : 128 + 0 ≤ _)⟩)
  dsimp only [Pt.U, Pt.locs, Pt.cells, Pt.slots] at X8 l8 y8 z8 st8 hQ8
  subst l8 y8 z8
  obtain ⟨rfl, rfl, e8⟩ := hQ8
  have N8q : Fr n0 ([] : List Loc) := Fr.nil n0
  have N8 := Fr.app N7 N8q
  obtain ⟨T9, X9, e9, st9⟩ := getF X8 hx hZ hown (host := "") (Or.inl (hw _ (List.mem_of_getElem? (i := 45) rfl))) Via.refl e8 Fw3 (g := (mkF m 69 #[.val (.ref ob), .val (.ref sx), .val (.int (2 : Int32)), .val (.int c0), .val (.int c2), .unset] [(.ref ob), (.int c2)])) rfl rfl (hb hby d9_69)
  obtain ⟨cl10, Ar10, hz10, he10⟩ := (id (V_b2.other W3 (Ne.symm ne_ob_b2)))
  have loop : ∀ (n : Nat) (T0 : State) (lc : List Loc) (hp : Heap) (iv fr to cc : Int32) (f0 f : Nat → Int32), Stand p l e ({ frames := 4, cells := 1, slots := 128, locals := 53 } : Room) s m #[(.ref ob), (.ref sx)] below meth c T0 lc 1 128 → T0.heap = hp → Fr n0 lc → Fld Z hp ob "com/example/attestrail/attestrail/event/AsciiClass" "members" "[Z" (.ref b2) → LB Z hp b2 f → (∀ k : Nat, f k = if fr.toInt ≤ (k : Int) ∧ (k : Int) < cc.toInt then 1 else f0 k) → 0 ≤ fr.toInt → to.toInt < 128 → fr.toInt ≤ cc.toInt → cc.toInt + n = to.toInt + 1 →
      ∃ (T1 : State) (lc1 : List Loc) (cc1 : Int32) (f1 : Nat → Int32), Stand p l e ({ frames := 4, cells := 1, slots := 128, locals := 53 } : Room) s m #[(.ref ob), (.ref sx)] below meth c T1 lc1 1 128 ∧ Fr n0 lc1 ∧ Keep hp T1.heap [b2] ∧ LB Z T1.heap b2 f1 ∧ (∀ k : Nat, f1 k = if fr.toInt ≤ (k : Int) ∧ (k : Int) ≤ to.toInt then 1 else f0 k) ∧ ∀ tg, Steps p.tables e below (T1.setTop (mkF m 124 #[.val (.ref ob), .val (.ref sx), .val (.int iv), .val (.int fr), .val (.int to), .val (.int cc1)] [])) tg → Steps p.tables e below (T0.setTop (mkF m 99 #[.val (.ref ob), .val (.ref sx), .val (.int iv), .val (.int fr), .val (.int to), .val (.int cc)] [])) tg := by
    intro n
    induction n with
    | zero =>
      intro T0 lc hp iv fr to cc f0 f Xa ea Na Fa Va hf q0 q1 q2 q3
      have preL : ∀ tg, Steps p.tables e below (T0.setTop (mkF m 99 #[.val (.ref ob), .val (.ref sx), .val (.int iv), .val (.int fr), .val (.int to), .val (.int cc)] [])) tg → Steps p.tables e below (T0.setTop (mkF m 99 #[.val (.ref ob), .val (.ref sx), .val (.int iv), .val (.int fr), .val (.int to), .val (.int cc)] [])) tg := fun _ k => k
      have pre11 : ∀ t, Steps p.tables e below (T0.setTop (mkF m 124 #[.val (.ref ob), .val (.ref sx), .val (.int iv), .val (.int fr), .val (.int to), .val (.int cc)] [])) t → Steps p.tables e below (T0.setTop (mkF m 99 #[.val (.ref ob), .val (.ref sx), .val (.int iv), .val (.int fr), .val (.int to), .val (.int cc)] [])) t := by
        intro t kt
        refine preL t ?_
        show Steps p.tables e below (T0.setTop (mkF m 99 #[.val (.ref ob), .val (.ref sx), .val (.int iv), .val (.int fr), .val (.int to), .val (.int cc)] [])) _
        refine XS.iload Xa.here hx rfl (hb hby d9_99) rfl ?_
        show Steps p.tables e below (T0.setTop (mkF m 101 #[.val (.ref ob), .val (.ref sx), .val (.int iv), .val (.int fr), .val (.int to), .val (.int cc)] [(.int cc)])) _
        refine XS.iload Xa.here hx rfl (hb hby d9_101) rfl ?_
        show Steps p.tables e below (T0.setTop (mkF m 103 #[.val (.ref ob), .val (.ref sx), .val (.int iv), .val (.int fr), .val (.int to), .val (.int cc)] [(.int to), (.int cc)])) _
        refine XS.icmpYes Xa.here hx rfl (pc0 := 103) (pc' := 124) rfl (hb hby d9_103) rfl (tlt (by rw [Int32.lt_iff_toInt_lt]; omega : to < cc)).2.2.1 (by decide) (by decide) ?_
        show Steps p.tables e below (T0.setTop (mkF m 124 #[.val (.ref ob), .val (.ref sx), .val (.int iv), .val (.int fr), .val (.int to), .val (.int cc)] [])) _
        exact kt
      subst ea
      exact ⟨_, lc, cc, f, Xa, Na, Keep.refl _ _, Va, fun k => by rw [hf k]; congr 1; exact propext (by omega), pre11⟩
    | succ n ih =>
      intro T0 lc hp iv fr to cc f0 f Xa ea Na Fa Va hf q0 q1 q2 q3
      have preL : ∀ tg, Steps p.tables e below (T0.setTop (mkF m 99 #[.val (.ref ob), .val (.ref sx), .val (.int iv), .val (.int fr), .val (.int to), .val (.int cc)] [])) tg → Steps p.tables e below (T0.setTop (mkF m 99 #[.val (.ref ob), .val (.ref sx), .val (.int iv), .val (.int fr), .val (.int to), .val (.int cc)] [])) tg := fun _ k => k
      have ra : 0 ≤ cc.toInt := by omega
      have rb : cc.toInt < 128 := by omega
      obtain ⟨T12, X12, e12, st12⟩ := getF Xa hx hZ hown (host := "") (Or.inl (hw _ (List.mem_of_getElem? (i := 45) rfl))) Via.refl ea Fa (g := (mkF m 107 #[.val (.ref ob), .val (.ref sx), .val (.int iv), .val (.int fr), .val (.int to), .val (.int cc)] [(.ref ob)])) rfl rfl (hb hby d9_107)
      obtain ⟨cl13, Ar13, hz13, he13⟩ := (id Va)
      have hin13 := own_in hz13 (j := cc) ra rb
      obtain ⟨T14, h14, X14, e14, W14, st14⟩ := stZ X12 hx hZ e12 Ar13 (j := cc) hin13 (g := (mkF m 113 #[.val (.ref ob), .val (.ref sx), .val (.int iv), .val (.int fr), .val (.int to), .val (.int cc)] [(.int (1 : Int32)), (.int cc), (.ref b2)])) rfl rfl (hb hby d9_113)
      have N14 := Fr.snoc X14 Na g_b2
      obtain ⟨f14, hf_14⟩ : ∃ g : Nat → Int32, g = fun k => if k = cc.toNatClampNeg then (1 : Int32) else f k := ⟨_, rfl⟩
      have V14 : LB Z h14 b2 f14 := by rw [hf_14]; exact LB.set (x := (1 : Int32)) Va W14
      have pre15 : ∀ t, Steps p.tables e below (T14.setTop (mkF m 99 #[.val (.ref ob), .val (.ref sx), .val (.int iv), .val (.int fr), .val (.int to), .val (.int ((cc + (1 : Int32)).toUInt32.toUInt16.toUInt32.toInt32))] [])) t → Steps p.tables e below (T0.setTop (mkF m 99 #[.val (.ref ob), .val (.ref sx), .val (.int iv), .val (.int fr), .val (.int to), .val (.int cc)] [])) t := by
        intro t kt
        refine preL t ?_
        show Steps p.tables e below (T0.setTop (mkF m 99 #[.val (.ref ob), .val (.ref sx), .val (.int iv), .val (.int fr), .val (.int to), .val (.int cc)] [])) _
        refine XS.iload Xa.here hx rfl (hb hby d9_99) rfl ?_
        show Steps p.tables e below (T0.setTop (mkF m 101 #[.val (.ref ob), .val (.ref sx), .val (.int iv), .val (.int fr), .val (.int to), .val (.int cc)] [(.int cc)])) _
        refine XS.iload Xa.here hx rfl (hb hby d9_101) rfl ?_
        show Steps p.tables e below (T0.setTop (mkF m 103 #[.val (.ref ob), .val (.ref sx), .val (.int iv), .val (.int fr), .val (.int to), .val (.int cc)] [(.int to), (.int cc)])) _
        refine XS.icmpNo Xa.here hx rfl (hb hby d9_103) rfl (flt (by rw [Int32.lt_iff_toInt_lt]; omega : ¬ (to < cc))).2.2.1 ?_
        show Steps p.tables e below (T0.setTop (mkF m 106 #[.val (.ref ob), .val (.ref sx), .val (.int iv), .val (.int fr), .val (.int to), .val (.int cc)] [])) _
        refine XS.aloadN Xa.here hx rfl (hb hby d9_106) rfl rfl ?_
        show Steps p.tables e below (T0.setTop (mkF m 107 #[.val (.ref ob), .val (.ref sx), .val (.int iv), .val (.int fr), .val (.int to), .val (.int cc)] [(.ref ob)])) _
        refine st12 _ ?_
        show Steps p.tables e below (T12.setTop (mkF m 110 #[.val (.ref ob), .val (.ref sx), .val (.int iv), .val (.int fr), .val (.int to), .val (.int cc)] [(.ref b2)])) _
        refine XS.iload X12.here hx rfl (hb hby d9_110) rfl ?_
        show Steps p.tables e below (T12.setTop (mkF m 112 #[.val (.ref ob), .val (.ref sx), .val (.int iv), .val (.int fr), .val (.int to), .val (.int cc)] [(.int cc), (.ref b2)])) _
        refine XS.iconst X12.here hx rfl (hb hby d9_112) ?_
        show Steps p.tables e below (T12.setTop (mkF m 113 #[.val (.ref ob), .val (.ref sx), .val (.int iv), .val (.int fr), .val (.int to), .val (.int cc)] [(.int (1 : Int32)), (.int cc), (.ref b2)])) _
        refine st14 _ ?_
        show Steps p.tables e below (T14.setTop (mkF m 114 #[.val (.ref ob), .val (.ref sx), .val (.int iv), .val (.int fr), .val (.int to), .val (.int cc)] [])) _
        refine XS.iload X14.here hx rfl (hb hby d9_114) rfl ?_
        show Steps p.tables e below (T14.setTop (mkF m 116 #[.val (.ref ob), .val (.ref sx), .val (.int iv), .val (.int fr), .val (.int to), .val (.int cc)] [(.int cc)])) _
        refine XS.iconst X14.here hx rfl (hb hby d9_116) ?_
        show Steps p.tables e below (T14.setTop (mkF m 117 #[.val (.ref ob), .val (.ref sx), .val (.int iv), .val (.int fr), .val (.int to), .val (.int cc)] [(.int (1 : Int32)), (.int cc)])) _
        refine XS.iadd X14.here hx rfl (hb hby d9_117) rfl ?_
        show Steps p.tables e below (T14.setTop (mkF m 118 #[.val (.ref ob), .val (.ref sx), .val (.int iv), .val (.int fr), .val (.int to), .val (.int cc)] [(.int (cc + (1 : Int32)))])) _
        refine XS.i2c X14.here hx rfl (hb hby d9_118) rfl ?_
        show Steps p.tables e below (T14.setTop (mkF m 119 #[.val (.ref ob), .val (.ref sx), .val (.int iv), .val (.int fr), .val (.int to), .val (.int cc)] [(.int ((cc + (1 : Int32)).toUInt32.toUInt16.toUInt32.toInt32))])) _
        refine XS.istore X14.here hx rfl (hb hby d9_119) rfl (l' := #[.val (.ref ob), .val (.ref sx), .val (.int iv), .val (.int fr), .val (.int to), .val (.int ((cc + (1 : Int32)).toUInt32.toUInt16.toUInt32.toInt32))]) rfl ?_
        show Steps p.tables e below (T14.setTop (mkF m 121 #[.val (.ref ob), .val (.ref sx), .val (.int iv), .val (.int fr), .val (.int to), .val (.int ((cc + (1 : Int32)).toUInt32.toUInt16.toUInt32.toInt32))] [])) _
        refine XS.goto X14.here hx rfl (pc0 := 121) (pc' := 99) rfl (hb hby d9_121) (by decide) (by decide) ?_
        show Steps p.tables e below (T14.setTop (mkF m 99 #[.val (.ref ob), .val (.ref sx), .val (.int iv), .val (.int fr), .val (.int to), .val (.int ((cc + (1 : Int32)).toUInt32.toUInt16.toUInt32.toInt32))] [])) _
        exact kt
      have e1 : (1 : Int32).toInt = 1 := rfl
      have ha := c_iadd cc 1
      have hr1 := rng32 (cc + (1 : Int32))
      rw [e1] at ha
      have hi := c_i2c (cc + (1 : Int32))
      have ht : ((cc + (1 : Int32)).toUInt32.toUInt16.toUInt32.toInt32).toInt = cc.toInt + 1 := by omega
      have hoff : ∀ k : Nat, f14 k = if fr.toInt ≤ (k : Int) ∧ (k : Int) < ((cc + (1 : Int32)).toUInt32.toUInt16.toUInt32.toInt32).toInt then 1 else f0 k := by
        intro k
        rw [hf_14, ht]
        show (if k = cc.toNatClampNeg then (1 : Int32) else f k) = _
        have hn := own_nat (j := cc) ra
        by_cases q : k = cc.toNatClampNeg
        · rw [if_pos q, if_pos (by omega)]
        · rw [if_neg q, hf k]; congr 1; exact propext (by omega)
      obtain ⟨T1, lc1, cc1, f1, y1, y2, y3, y4, y5, y6⟩ := ih _ _ _ iv fr to ((cc + (1 : Int32)).toUInt32.toUInt16.toUInt32.toInt32) f0 f14 X14 e14 N14 (Fa.other W14 (Or.inl ne_ob_b2)) V14 hoff q0 q1 (by rw [ht]; omega) (by rw [ht]; omega)
      exact ⟨T1, lc1, cc1, f1, y1, y2, (Keep.of_wr W14).trans y3 (fun x hx => Or.inl hx), y4, y5, fun tg k => pre15 _ (y6 tg k)⟩
  have pre16 : ∀ t, Steps p.tables e below (T9.setTop (mkF m 99 #[.val (.ref ob), .val (.ref sx), .val (.int (2 : Int32)), .val (.int c0), .val (.int c2), .val (.int c0)] [])) t → Steps p.tables e below (s₁.setTop (entryFrame m #[(.ref ob), (.ref sx)] 6)) t := by
    intro t kt
    refine pre0 t ?_
    show Steps p.tables e below (s₁.setTop (mkF m 0 #[.val (.ref ob), .val (.ref sx), .unset, .unset, .unset, .unset] [])) _
    refine XS.aloadN X0.here hx rfl (hb hby d9_0) rfl rfl ?_
    show Steps p.tables e below (s₁.setTop (mkF m 1 #[.val (.ref ob), .val (.ref sx), .unset, .unset, .unset, .unset] [(.ref ob)])) _
    refine st1 _ ?_
    show Steps p.tables e below (T1.setTop (mkF m 4 #[.val (.ref ob), .val (.ref sx), .unset, .unset, .unset, .unset] [])) _
    refine XS.aloadN X1.here hx rfl (hb hby d9_4) rfl rfl ?_
    show Steps p.tables e below (T1.setTop (mkF m 5 #[.val (.ref ob), .val (.ref sx), .unset, .unset, .unset, .unset] [(.ref ob)])) _
    refine XS.sipush X1.here hx rfl (hb hby d9_5) ?_
    show Steps p.tables e below (T1.setTop (mkF m 8 #[.val (.ref ob), .val (.ref sx), .unset, .unset, .unset, .unset] [(.int (128 : Int32)), (.ref ob)])) _
    refine st2 _ ?_
    show Steps p.tables e below (T2.setTop (mkF m 10 #[.val (.ref ob), .val (.ref sx), .unset, .unset, .unset, .unset] [(.ref b2), (.ref ob)])) _
    refine st3 _ ?_
    show Steps p.tables e below (T3.setTop (mkF m 13 #[.val (.ref ob), .val (.ref sx), .unset, .unset, .unset, .unset] [])) _
    refine XS.iconst X3.here hx rfl (hb hby d9_13) ?_
    show Steps p.tables e below (T3.setTop (mkF m 14 #[.val (.ref ob), .val (.ref sx), .unset, .unset, .unset, .unset] [(.int (0 : Int32))])) _
    refine XS.istoreN X3.here hx rfl (hb hby d9_14) rfl (l' := #[.val (.ref ob), .val (.ref sx), .val (.int (0 : Int32)), .unset, .unset, .unset]) rfl ?_
    show Steps p.tables e below (T3.setTop (mkF m 15 #[.val (.ref ob), .val (.ref sx), .val (.int (0 : Int32)), .unset, .unset, .unset] [])) _
    refine XS.iloadN X3.here hx rfl (hb hby d9_15) rfl ?_
    show Steps p.tables e below (T3.setTop (mkF m 16 #[.val (.ref ob), .val (.ref sx), .val (.int (0 : Int32)), .unset, .unset, .unset] [(.int (0 : Int32))])) _
    refine XS.aloadN X3.here hx rfl (hb hby d9_16) rfl rfl ?_
    show Steps p.tables e below (T3.setTop (mkF m 17 #[.val (.ref ob), .val (.ref sx), .val (.int (0 : Int32)), .unset, .unset, .unset] [(.ref sx), (.int (0 : Int32))])) _
    refine st4.trans ?_
    show Steps p.tables e below (T4.setTop (mkF m 20 #[.val (.ref ob), .val (.ref sx), .val (.int (0 : Int32)), .unset, .unset, .unset] [(.int (4 : Int32)), (.int (0 : Int32))])) _
    refine XS.icmpNo X4.here hx rfl (hb hby d9_20) rfl (tlt (by decide : ((0 : Int32) < (4 : Int32)))).2.1 ?_
    show Steps p.tables e below (T4.setTop (mkF m 23 #[.val (.ref ob), .val (.ref sx), .val (.int (0 : Int32)), .unset, .unset, .unset] [])) _
    refine XS.aloadN X4.here hx rfl (hb hby d9_23) rfl rfl ?_
    show Steps p.tables e below (T4.setTop (mkF m 24 #[.val (.ref ob), .val (.ref sx), .val (.int (0 : Int32)), .unset, .unset, .unset] [(.ref sx)])) _
    refine XS.iloadN X4.here hx rfl (hb hby d9_24) rfl ?_
    show Steps p.tables e below (T4.setTop (mkF m 25 #[.val (.ref ob), .val (.ref sx), .val (.int (0 : Int32)), .unset, .unset, .unset] [(.int (0 : Int32)), (.ref sx)])) _
    refine st5.trans ?_
    show Steps p.tables e below (T5.setTop (mkF m 28 #[.val (.ref ob), .val (.ref sx), .val (.int (0 : Int32)), .unset, .unset, .unset] [(.int c0)])) _
    refine XS.istoreN X5.here hx rfl (hb hby d9_28) rfl (l' := #[.val (.ref ob), .val (.ref sx), .val (.int (0 : Int32)), .val (.int c0), .unset, .unset]) rfl ?_
    show Steps p.tables e below (T5.setTop (mkF m 29 #[.val (.ref ob), .val (.ref sx), .val (.int (0 : Int32)), .val (.int c0), .unset, .unset] [])) _
    refine XS.iloadN X5.here hx rfl (hb hby d9_29) rfl ?_
    show Steps p.tables e below (T5.setTop (mkF m 30 #[.val (.ref ob), .val (.ref sx), .val (.int (0 : Int32)), .val (.int c0), .unset, .unset] [(.int c0)])) _
    refine XS.istore X5.here hx rfl (hb hby d9_30) rfl (l' := #[.val (.ref ob), .val (.ref sx), .val (.int (0 : Int32)), .val (.int c0), .val (.int c0), .unset]) rfl ?_
    show Steps p.tables e below (T5.setTop (mkF m 32 #[.val (.ref ob), .val (.ref sx), .val (.int (0 : Int32)), .val (.int c0), .val (.int c0), .unset] [])) _
    refine XS.iloadN X5.here hx rfl (hb hby d9_32) rfl ?_
    show Steps p.tables e below (T5.setTop (mkF m 33 #[.val (.ref ob), .val (.ref sx), .val (.int (0 : Int32)), .val (.int c0), .val (.int c0), .unset] [(.int (0 : Int32))])) _
    refine XS.iconst X5.here hx rfl (hb hby d9_33) ?_
    show Steps p.tables e below (T5.setTop (mkF m 34 #[.val (.ref ob), .val (.ref sx), .val (.int (0 : Int32)), .val (.int c0), .val (.int c0), .unset] [(.int (2 : Int32)), (.int (0 : Int32))])) _
    refine XS.iadd X5.here hx rfl (hb hby d9_34) rfl ?_
    show Steps p.tables e below (T5.setTop (mkF m 35 #[.val (.ref ob), .val (.ref sx), .val (.int (0 : Int32)), .val (.int c0), .val (.int c0), .unset] [(.int (2 : Int32))])) _
    refine XS.aloadN X5.here hx rfl (hb hby d9_35) rfl rfl ?_
    show Steps p.tables e below (T5.setTop (mkF m 36 #[.val (.ref ob), .val (.ref sx), .val (.int (0 : Int32)), .val (.int c0), .val (.int c0), .unset] [(.ref sx), (.int (2 : Int32))])) _
    refine st6.trans ?_
    show Steps p.tables e below (T6.setTop (mkF m 39 #[.val (.ref ob), .val (.ref sx), .val (.int (0 : Int32)), .val (.int c0), .val (.int c0), .unset] [(.int (4 : Int32)), (.int (2 : Int32))])) _
    refine XS.icmpNo X6.here hx rfl (hb hby d9_39) rfl (tlt (by decide : ((2 : Int32) < (4 : Int32)))).2.1 ?_
    show Steps p.tables e below (T6.setTop (mkF m 42 #[.val (.ref ob), .val (.ref sx), .val (.int (0 : Int32)), .val (.int c0), .val (.int c0), .unset] [])) _
    refine XS.aloadN X6.here hx rfl (hb hby d9_42) rfl rfl ?_
    show Steps p.tables e below (T6.setTop (mkF m 43 #[.val (.ref ob), .val (.ref sx), .val (.int (0 : Int32)), .val (.int c0), .val (.int c0), .unset] [(.ref sx)])) _
    refine XS.iloadN X6.here hx rfl (hb hby d9_43) rfl ?_
    show Steps p.tables e below (T6.setTop (mkF m 44 #[.val (.ref ob), .val (.ref sx), .val (.int (0 : Int32)), .val (.int c0), .val (.int c0), .unset] [(.int (0 : Int32)), (.ref sx)])) _
    refine XS.iconst X6.here hx rfl (hb hby d9_44) ?_
    show Steps p.tables e below (T6.setTop (mkF m 45 #[.val (.ref ob), .val (.ref sx), .val (.int (0 : Int32)), .val (.int c0), .val (.int c0), .unset] [(.int (1 : Int32)), (.int (0 : Int32)), (.ref sx)])) _
    refine XS.iadd X6.here hx rfl (hb hby d9_45) rfl ?_
    show Steps p.tables e below (T6.setTop (mkF m 46 #[.val (.ref ob), .val (.ref sx), .val (.int (0 : Int32)), .val (.int c0), .val (.int c0), .unset] [(.int (1 : Int32)), (.ref sx)])) _
    refine st7.trans ?_
    show Steps p.tables e below (T7.setTop (mkF m 49 #[.val (.ref ob), .val (.ref sx), .val (.int (0 : Int32)), .val (.int c0), .val (.int c0), .unset] [(.int (45 : Int32))])) _
    refine XS.bipush X7.here hx rfl (hb hby d9_49) ?_
    show Steps p.tables e below (T7.setTop (mkF m 51 #[.val (.ref ob), .val (.ref sx), .val (.int (0 : Int32)), .val (.int c0), .val (.int c0), .unset] [(.int (45 : Int32)), (.int (45 : Int32))])) _
    refine XS.icmpNo X7.here hx rfl (hb hby d9_51) rfl (teq (rfl : (45 : Int32) = (45 : Int32))).2 ?_
    show Steps p.tables e below (T7.setTop (mkF m 54 #[.val (.ref ob), .val (.ref sx), .val (.int (0 : Int32)), .val (.int c0), .val (.int c0), .unset] [])) _
    refine XS.aloadN X7.here hx rfl (hb hby d9_54) rfl rfl ?_
    show Steps p.tables e below (T7.setTop (mkF m 55 #[.val (.ref ob), .val (.ref sx), .val (.int (0 : Int32)), .val (.int c0), .val (.int c0), .unset] [(.ref sx)])) _
    refine XS.iloadN X7.here hx rfl (hb hby d9_55) rfl ?_
    show Steps p.tables e below (T7.setTop (mkF m 56 #[.val (.ref ob), .val (.ref sx), .val (.int (0 : Int32)), .val (.int c0), .val (.int c0), .unset] [(.int (0 : Int32)), (.ref sx)])) _
    refine XS.iconst X7.here hx rfl (hb hby d9_56) ?_
    show Steps p.tables e below (T7.setTop (mkF m 57 #[.val (.ref ob), .val (.ref sx), .val (.int (0 : Int32)), .val (.int c0), .val (.int c0), .unset] [(.int (2 : Int32)), (.int (0 : Int32)), (.ref sx)])) _
    refine XS.iadd X7.here hx rfl (hb hby d9_57) rfl ?_
    show Steps p.tables e below (T7.setTop (mkF m 58 #[.val (.ref ob), .val (.ref sx), .val (.int (0 : Int32)), .val (.int c0), .val (.int c0), .unset] [(.int (2 : Int32)), (.ref sx)])) _
    refine st8.trans ?_
    show Steps p.tables e below (T8.setTop (mkF m 61 #[.val (.ref ob), .val (.ref sx), .val (.int (0 : Int32)), .val (.int c0), .val (.int c0), .unset] [(.int c2)])) _
    refine XS.istore X8.here hx rfl (hb hby d9_61) rfl (l' := #[.val (.ref ob), .val (.ref sx), .val (.int (0 : Int32)), .val (.int c0), .val (.int c2), .unset]) rfl ?_
    show Steps p.tables e below (T8.setTop (mkF m 63 #[.val (.ref ob), .val (.ref sx), .val (.int (0 : Int32)), .val (.int c0), .val (.int c2), .unset] [])) _
    refine XS.iinc X8.here hx rfl (hb hby d9_63) rfl (l' := #[.val (.ref ob), .val (.ref sx), .val (.int (2 : Int32)), .val (.int c0), .val (.int c2), .unset]) rfl ?_
    show Steps p.tables e below (T8.setTop (mkF m 66 #[.val (.ref ob), .val (.ref sx), .val (.int (2 : Int32)), .val (.int c0), .val (.int c2), .unset] [])) _
    refine XS.iload X8.here hx rfl (hb hby d9_66) rfl ?_
    show Steps p.tables e below (T8.setTop (mkF m 68 #[.val (.ref ob), .val (.ref sx), .val (.int (2 : Int32)), .val (.int c0), .val (.int c2), .unset] [(.int c2)])) _
    refine XS.aloadN X8.here hx rfl (hb hby d9_68) rfl rfl ?_
    show Steps p.tables e below (T8.setTop (mkF m 69 #[.val (.ref ob), .val (.ref sx), .val (.int (2 : Int32)), .val (.int c0), .val (.int c2), .unset] [(.ref ob), (.int c2)])) _
    refine st9 _ ?_
    show Steps p.tables e below (T9.setTop (mkF m 72 #[.val (.ref ob), .val (.ref sx), .val (.int (2 : Int32)), .val (.int c0), .val (.int c2), .unset] [(.ref b2), (.int c2)])) _
    refine X9.arraylength hx (by rw [e9]; exact Ar10.1) (State.isArrayOf_alike (hZ).alike Ar10.2.1) (g := (mkF m 72 #[.val (.ref ob), .val (.ref sx), .val (.int (2 : Int32)), .val (.int c0), .val (.int c2), .unset] [(.ref b2), (.int c2)])) rfl rfl (hb hby d9_72) _ ?_
    rw [own_len hz10]
    show Steps p.tables e below (T9.setTop (mkF m 73 #[.val (.ref ob), .val (.ref sx), .val (.int (2 : Int32)), .val (.int c0), .val (.int c2), .unset] [(.int (128 : Int32)), (.int c2)])) _
    refine XS.icmpNo X9.here hx rfl (hb hby d9_73) rfl (tlt (by rw [Int32.lt_iff_toInt_lt, e128]; omega : c2 < (128 : Int32))).2.1 ?_
    show Steps p.tables e below (T9.setTop (mkF m 76 #[.val (.ref ob), .val (.ref sx), .val (.int (2 : Int32)), .val (.int c0), .val (.int c2), .unset] [])) _
    refine XS.iload X9.here hx rfl (hb hby d9_76) rfl ?_
    show Steps p.tables e below (T9.setTop (mkF m 78 #[.val (.ref ob), .val (.ref sx), .val (.int (2 : Int32)), .val (.int c0), .val (.int c2), .unset] [(.int c2)])) _
    refine XS.iloadN X9.here hx rfl (hb hby d9_78) rfl ?_
    show Steps p.tables e below (T9.setTop (mkF m 79 #[.val (.ref ob), .val (.ref sx), .val (.int (2 : Int32)), .val (.int c0), .val (.int c2), .unset] [(.int c0), (.int c2)])) _
    refine XS.icmpYes X9.here hx rfl (pc0 := 79) (pc' := 96) rfl (hb hby d9_79) rfl (flt (by rw [Int32.lt_iff_toInt_lt]; omega : ¬ (c2 < c0))).2.1 (by decide) (by decide) ?_
    show Steps p.tables e below (T9.setTop (mkF m 96 #[.val (.ref ob), .val (.ref sx), .val (.int (2 : Int32)), .val (.int c0), .val (.int c2), .unset] [])) _
    refine XS.iloadN X9.here hx rfl (hb hby d9_96) rfl ?_
    show Steps p.tables e below (T9.setTop (mkF m 97 #[.val (.ref ob), .val (.ref sx), .val (.int (2 : Int32)), .val (.int c0), .val (.int c2), .unset] [(.int c0)])) _
    refine XS.istore X9.here hx rfl (hb hby d9_97) rfl (l' := #[.val (.ref ob), .val (.ref sx), .val (.int (2 : Int32)), .val (.int c0), .val (.int c2), .val (.int c0)]) rfl ?_
    show Steps p.tables e below (T9.setTop (mkF m 99 #[.val (.ref ob), .val (.ref sx), .val (.int (2 : Int32)), .val (.int c0), .val (.int c2), .val (.int c0)] [])) _
    exact kt
  obtain ⟨T17, lc17, cc17, f17, X17, N17, K17, V17, hf17, st17⟩ := loop (c2.toInt - c0.toInt + 1).toNat _ _ _ (2 : Int32) c0 c2 c0 (fun _ => (0 : Int32)) (fun _ => (0 : Int32)) X9 e9 N8 Fw3 (V_b2.other W3 (Ne.symm ne_ob_b2)) (fun k => by rw [if_neg (by omega)]) (by omega) (by omega) (Int.le_refl _) (by omega)
  have Kc17 : Keep h0 T17.heap [ob] := Kc3.trans K17 (allS (Or.inr sz_b2) all0)
  have Oc17 := Oc3.keep K17 (allS g_b2 all0)
  obtain ⟨cq18, kq18, q18a, q18b, q18c⟩ := isOf hZ rfl (((E_s.ext E2).wr W3).keep K17)
  obtain ⟨_, _, ⟨T18, L18, k18, n18⟩, -, X18, ⟨Lc18, hQ18, l18, y18, z18⟩, st18⟩ := X17.virtualBack hx (y := (⟨"java/lang/String", "length", "()I"⟩ : MethodName)) (z := (⟨"java/lang/String", "length", "()I"⟩ : MethodName)) hown (mvT hZ (hw _ (List.mem_of_getElem? (i := 47) rfl))) (mvT hZ (hw _ (List.mem_of_getElem? (i := 48) rfl))) (notFace_of_selects (args := #[]) (mvT hZ (hw _ (List.mem_of_getElem? (i := 50) rfl)))) (mvT hZ (hw _ (List.mem_of_getElem? (i := 50) rfl))) (mvT hZ (hw _ (List.mem_of_getElem? (i := 49) rfl))) (by decide) (StrChars.Road.lenW (W := 1) hZ hln (kI := 4) (hw _ (List.mem_of_getElem? (i := 12) rfl)) (((E_s.ext E2).wr W3).keep K17) (((V_s.ext E2).other W3 (Or.inl nes)).keep K17 (ninS ne_sx_b2 nin0)) (((C_s.ext E2).other W3 (Or.inl nes)).keep K17 (ninS ne_sx_b2 nin0)) (((K_s.ext E2).other W3 net).keep K17 (ninS ne_tx_b2 nin0)) hcd hbd (S_c.ext Oc17.2) hzc (Nat.le_of_ble_eq_true rfl) (by decide) (by decide)) q18a q18c (g := (mkF m 17 #[.val (.ref ob), .val (.ref sx), .val (.int (3 : Int32)), .val (.int c0), .val (.int c2), .val (.int cc17)] [(.ref sx), (.int (3 : Int32))])) rfl (by rw [hml]; rfl) (Steps.refl _) (argsL := []) (rest := [(.int (3 : Int32))]) (lenOf pd_0 rfl) rfl (by show 2 * 0 + _ ≤ _; exact Nat.le_of_eq rfl) (hb hby d9_17) (fun _ _ => ⟨rfl, rfl, (by decide : 1 + 0 ≤ _), (by decide : 128 + 0 ≤ _)⟩)
  dsimp only [Pt.U, Pt.locs, Pt.cells, Pt.slots] at X18 l18 y18 z18 st18 hQ18
  subst l18 y18 z18
  obtain ⟨rfl, rfl, e18⟩ := hQ18
  have N18q : Fr n0 ([] : List Loc) := Fr.nil n0
  have N18 := Fr.app N17 N18q
  obtain ⟨cq19, kq19, q19a, q19b, q19c⟩ := isOf hZ e18 (((E_s.ext E2).wr W3).keep K17)
  obtain ⟨_, _, ⟨T19, L19, k19, n19⟩, -, X19, ⟨Lc19, hQ19, l19, y19, z19⟩, st19⟩ := X18.virtualBack hx (y := (⟨"java/lang/String", "charAt", "(I)C"⟩ : MethodName)) (z := (⟨"java/lang/String", "charAt", "(I)C"⟩ : MethodName)) hown (mvT hZ (hw _ (List.mem_of_getElem? (i := 57) rfl))) (mvT hZ (hw _ (List.mem_of_getElem? (i := 58) rfl))) (notFace_of_selects (args := #[]) (mvT hZ (hw _ (List.mem_of_getElem? (i := 60) rfl)))) (mvT hZ (hw _ (List.mem_of_getElem? (i := 60) rfl))) (mvT hZ (hw _ (List.mem_of_getElem? (i := 59) rfl))) (by decide) (StrChars.Road.chN (W := 0) hZ hch (kI := 4) (hw _ (List.mem_of_getElem? (i := 12) rfl)) (((E_s.ext E2).wr W3).keep K17) (((V_s.ext E2).other W3 (Or.inl nes)).keep K17 (ninS ne_sx_b2 nin0)) (((C_s.ext E2).other W3 (Or.inl nes)).keep K17 (ninS ne_sx_b2 nin0)) (((K_s.ext E2).other W3 net).keep K17 (ninS ne_tx_b2 nin0)) hcd hbd (S_c.ext Oc17.2) hzc (S_f.ext Oc17.2) rfm (Nat.le_of_ble_eq_true rfl) (i := 3) (Nat.le_of_ble_eq_true rfl) (j := (3 : Int32)) rfl (by decide) (by decide)) q19a q19c (g := (mkF m 25 #[.val (.ref ob), .val (.ref sx), .val (.int (3 : Int32)), .val (.int c0), .val (.int c2), .val (.int cc17)] [(.int (3 : Int32)), (.ref sx)])) rfl (by rw [hml]; rfl) (Steps.refl _) (argsL := [(.int (3 : Int32))]) (rest := []) (lenOf pd_1 rfl) rfl (by show 2 * 0 + _ ≤ _; exact Nat.le_of_eq rfl) (hb hby d9_25) (fun _ _ => ⟨rfl, e18, (by decide : 1 + 0 ≤ _), (by decide : 128 + 0 ≤ _)⟩)
  dsimp only [Pt.U, Pt.locs, Pt.cells, Pt.slots] at X19 l19 y19 z19 st19 hQ19
  subst l19 y19 z19
  obtain ⟨rfl, rfl, e19⟩ := hQ19
  have N19q : Fr n0 ([] : List Loc) := Fr.nil n0
  have N19 := Fr.app N18 N19q
  obtain ⟨cq20, kq20, q20a, q20b, q20c⟩ := isOf hZ e19 (((E_s.ext E2).wr W3).keep K17)
  obtain ⟨_, _, ⟨T20, L20, k20, n20⟩, -, X20, ⟨Lc20, hQ20, l20, y20, z20⟩, st20⟩ := X19.virtualBack hx (y := (⟨"java/lang/String", "length", "()I"⟩ : MethodName)) (z := (⟨"java/lang/String", "length", "()I"⟩ : MethodName)) hown (mvT hZ (hw _ (List.mem_of_getElem? (i := 47) rfl))) (mvT hZ (hw _ (List.mem_of_getElem? (i := 48) rfl))) (notFace_of_selects (args := #[]) (mvT hZ (hw _ (List.mem_of_getElem? (i := 50) rfl)))) (mvT hZ (hw _ (List.mem_of_getElem? (i := 50) rfl))) (mvT hZ (hw _ (List.mem_of_getElem? (i := 49) rfl))) (by decide) (StrChars.Road.lenW (W := 1) hZ hln (kI := 4) (hw _ (List.mem_of_getElem? (i := 12) rfl)) (((E_s.ext E2).wr W3).keep K17) (((V_s.ext E2).other W3 (Or.inl nes)).keep K17 (ninS ne_sx_b2 nin0)) (((C_s.ext E2).other W3 (Or.inl nes)).keep K17 (ninS ne_sx_b2 nin0)) (((K_s.ext E2).other W3 net).keep K17 (ninS ne_tx_b2 nin0)) hcd hbd (S_c.ext Oc17.2) hzc (Nat.le_of_ble_eq_true rfl) (by decide) (by decide)) q20a q20c (g := (mkF m 36 #[.val (.ref ob), .val (.ref sx), .val (.int (3 : Int32)), .val (.int c3), .val (.int c3), .val (.int cc17)] [(.ref sx), (.int (5 : Int32))])) rfl (by rw [hml]; rfl) (Steps.refl _) (argsL := []) (rest := [(.int (5 : Int32))]) (lenOf pd_0 rfl) rfl (by show 2 * 0 + _ ≤ _; exact Nat.le_of_eq rfl) (hb hby d9_36) (fun _ _ => ⟨rfl, e19, (by decide : 1 + 0 ≤ _), (by decide : 128 + 0 ≤ _)⟩)
  dsimp only [Pt.U, Pt.locs, Pt.cells, Pt.slots] at X20 l20 y20 z20 st20 hQ20
  subst l20 y20 z20
  obtain ⟨rfl, rfl, e20⟩ := hQ20
  have N20q : Fr n0 ([] : List Loc) := Fr.nil n0
  have N20 := Fr.app N19 N20q
  obtain ⟨T21, X21, e21, st21⟩ := getF X20 hx hZ hown (host := "") (Or.inl (hw _ (List.mem_of_getElem? (i := 45) rfl))) Via.refl e20 (Fw3.keep K17 (ninS ne_ob_b2 nin0)) (g := (mkF m 69 #[.val (.ref ob), .val (.ref sx), .val (.int (3 : Int32)), .val (.int c3), .val (.int c3), .val (.int cc17)] [(.ref ob), (.int c3)])) rfl rfl (hb hby d9_69)
  obtain ⟨cl22, Ar22, hz22, he22⟩ := (id V17)
  have pre23 : ∀ t, Steps p.tables e below (T21.setTop (mkF m 99 #[.val (.ref ob), .val (.ref sx), .val (.int (3 : Int32)), .val (.int c3), .val (.int c3), .val (.int c3)] [])) t → Steps p.tables e below (s₁.setTop (entryFrame m #[(.ref ob), (.ref sx)] 6)) t := by
    intro t kt
    refine pre16 t ?_
    show Steps p.tables e below (T9.setTop (mkF m 99 #[.val (.ref ob), .val (.ref sx), .val (.int (2 : Int32)), .val (.int c0), .val (.int c2), .val (.int c0)] [])) _
    refine st17 _ ?_
    show Steps p.tables e below (T17.setTop (mkF m 124 #[.val (.ref ob), .val (.ref sx), .val (.int (2 : Int32)), .val (.int c0), .val (.int c2), .val (.int cc17)] [])) _
    refine XS.iinc X17.here hx rfl (hb hby d9_124) rfl (l' := #[.val (.ref ob), .val (.ref sx), .val (.int (3 : Int32)), .val (.int c0), .val (.int c2), .val (.int cc17)]) rfl ?_
    show Steps p.tables e below (T17.setTop (mkF m 127 #[.val (.ref ob), .val (.ref sx), .val (.int (3 : Int32)), .val (.int c0), .val (.int c2), .val (.int cc17)] [])) _
    refine XS.goto X17.here hx rfl (pc0 := 127) (pc' := 15) rfl (hb hby d9_127) (by decide) (by decide) ?_
    show Steps p.tables e below (T17.setTop (mkF m 15 #[.val (.ref ob), .val (.ref sx), .val (.int (3 : Int32)), .val (.int c0), .val (.int c2), .val (.int cc17)] [])) _
    refine XS.iloadN X17.here hx rfl (hb hby d9_15) rfl ?_
    show Steps p.tables e below (T17.setTop (mkF m 16 #[.val (.ref ob), .val (.ref sx), .val (.int (3 : Int32)), .val (.int c0), .val (.int c2), .val (.int cc17)] [(.int (3 : Int32))])) _
    refine XS.aloadN X17.here hx rfl (hb hby d9_16) rfl rfl ?_
    show Steps p.tables e below (T17.setTop (mkF m 17 #[.val (.ref ob), .val (.ref sx), .val (.int (3 : Int32)), .val (.int c0), .val (.int c2), .val (.int cc17)] [(.ref sx), (.int (3 : Int32))])) _
    refine st18.trans ?_
    show Steps p.tables e below (T18.setTop (mkF m 20 #[.val (.ref ob), .val (.ref sx), .val (.int (3 : Int32)), .val (.int c0), .val (.int c2), .val (.int cc17)] [(.int (4 : Int32)), (.int (3 : Int32))])) _
    refine XS.icmpNo X18.here hx rfl (hb hby d9_20) rfl (tlt (by decide : ((3 : Int32) < (4 : Int32)))).2.1 ?_
    show Steps p.tables e below (T18.setTop (mkF m 23 #[.val (.ref ob), .val (.ref sx), .val (.int (3 : Int32)), .val (.int c0), .val (.int c2), .val (.int cc17)] [])) _
    refine XS.aloadN X18.here hx rfl (hb hby d9_23) rfl rfl ?_
    show Steps p.tables e below (T18.setTop (mkF m 24 #[.val (.ref ob), .val (.ref sx), .val (.int (3 : Int32)), .val (.int c0), .val (.int c2), .val (.int cc17)] [(.ref sx)])) _
    refine XS.iloadN X18.here hx rfl (hb hby d9_24) rfl ?_
    show Steps p.tables e below (T18.setTop (mkF m 25 #[.val (.ref ob), .val (.ref sx), .val (.int (3 : Int32)), .val (.int c0), .val (.int c2), .val (.int cc17)] [(.int (3 : Int32)), (.ref sx)])) _
    refine st19.trans ?_
    show Steps p.tables e below (T19.setTop (mkF m 28 #[.val (.ref ob), .val (.ref sx), .val (.int (3 : Int32)), .val (.int c0), .val (.int c2), .val (.int cc17)] [(.int c3)])) _
    refine XS.istoreN X19.here hx rfl (hb hby d9_28) rfl (l' := #[.val (.ref ob), .val (.ref sx), .val (.int (3 : Int32)), .val (.int c3), .val (.int c2), .val (.int cc17)]) rfl ?_
    show Steps p.tables e below (T19.setTop (mkF m 29 #[.val (.ref ob), .val (.ref sx), .val (.int (3 : Int32)), .val (.int c3), .val (.int c2), .val (.int cc17)] [])) _
    refine XS.iloadN X19.here hx rfl (hb hby d9_29) rfl ?_
    show Steps p.tables e below (T19.setTop (mkF m 30 #[.val (.ref ob), .val (.ref sx), .val (.int (3 : Int32)), .val (.int c3), .val (.int c2), .val (.int cc17)] [(.int c3)])) _
    refine XS.istore X19.here hx rfl (hb hby d9_30) rfl (l' := #[.val (.ref ob), .val (.ref sx), .val (.int (3 : Int32)), .val (.int c3), .val (.int c3), .val (.int cc17)]) rfl ?_
    show Steps p.tables e below (T19.setTop (mkF m 32 #[.val (.ref ob), .val (.ref sx), .val (.int (3 : Int32)), .val (.int c3), .val (.int c3), .val (.int cc17)] [])) _
    refine XS.iloadN X19.here hx rfl (hb hby d9_32) rfl ?_
    show Steps p.tables e below (T19.setTop (mkF m 33 #[.val (.ref ob), .val (.ref sx), .val (.int (3 : Int32)), .val (.int c3), .val (.int c3), .val (.int cc17)] [(.int (3 : Int32))])) _
    refine XS.iconst X19.here hx rfl (hb hby d9_33) ?_
    show Steps p.tables e below (T19.setTop (mkF m 34 #[.val (.ref ob), .val (.ref sx), .val (.int (3 : Int32)), .val (.int c3), .val (.int c3), .val (.int cc17)] [(.int (2 : Int32)), (.int (3 : Int32))])) _
    refine XS.iadd X19.here hx rfl (hb hby d9_34) rfl ?_
    show Steps p.tables e below (T19.setTop (mkF m 35 #[.val (.ref ob), .val (.ref sx), .val (.int (3 : Int32)), .val (.int c3), .val (.int c3), .val (.int cc17)] [(.int (5 : Int32))])) _
    refine XS.aloadN X19.here hx rfl (hb hby d9_35) rfl rfl ?_
    show Steps p.tables e below (T19.setTop (mkF m 36 #[.val (.ref ob), .val (.ref sx), .val (.int (3 : Int32)), .val (.int c3), .val (.int c3), .val (.int cc17)] [(.ref sx), (.int (5 : Int32))])) _
    refine st20.trans ?_
    show Steps p.tables e below (T20.setTop (mkF m 39 #[.val (.ref ob), .val (.ref sx), .val (.int (3 : Int32)), .val (.int c3), .val (.int c3), .val (.int cc17)] [(.int (4 : Int32)), (.int (5 : Int32))])) _
    refine XS.icmpYes X20.here hx rfl (pc0 := 39) (pc' := 66) rfl (hb hby d9_39) rfl (flt (by decide : ¬ ((5 : Int32) < (4 : Int32)))).2.1 (by decide) (by decide) ?_
    show Steps p.tables e below (T20.setTop (mkF m 66 #[.val (.ref ob), .val (.ref sx), .val (.int (3 : Int32)), .val (.int c3), .val (.int c3), .val (.int cc17)] [])) _
    refine XS.iload X20.here hx rfl (hb hby d9_66) rfl ?_
    show Steps p.tables e below (T20.setTop (mkF m 68 #[.val (.ref ob), .val (.ref sx), .val (.int (3 : Int32)), .val (.int c3), .val (.int c3), .val (.int cc17)] [(.int c3)])) _
    refine XS.aloadN X20.here hx rfl (hb hby d9_68) rfl rfl ?_
    show Steps p.tables e below (T20.setTop (mkF m 69 #[.val (.ref ob), .val (.ref sx), .val (.int (3 : Int32)), .val (.int c3), .val (.int c3), .val (.int cc17)] [(.ref ob), (.int c3)])) _
    refine st21 _ ?_
    show Steps p.tables e below (T21.setTop (mkF m 72 #[.val (.ref ob), .val (.ref sx), .val (.int (3 : Int32)), .val (.int c3), .val (.int c3), .val (.int cc17)] [(.ref b2), (.int c3)])) _
    refine X21.arraylength hx (by rw [e21]; exact Ar22.1) (State.isArrayOf_alike (hZ).alike Ar22.2.1) (g := (mkF m 72 #[.val (.ref ob), .val (.ref sx), .val (.int (3 : Int32)), .val (.int c3), .val (.int c3), .val (.int cc17)] [(.ref b2), (.int c3)])) rfl rfl (hb hby d9_72) _ ?_
    rw [own_len hz22]
    show Steps p.tables e below (T21.setTop (mkF m 73 #[.val (.ref ob), .val (.ref sx), .val (.int (3 : Int32)), .val (.int c3), .val (.int c3), .val (.int cc17)] [(.int (128 : Int32)), (.int c3)])) _
    refine XS.icmpNo X21.here hx rfl (hb hby d9_73) rfl (tlt (by rw [Int32.lt_iff_toInt_lt, e128]; omega : c3 < (128 : Int32))).2.1 ?_
    show Steps p.tables e below (T21.setTop (mkF m 76 #[.val (.ref ob), .val (.ref sx), .val (.int (3 : Int32)), .val (.int c3), .val (.int c3), .val (.int cc17)] [])) _
    refine XS.iload X21.here hx rfl (hb hby d9_76) rfl ?_
    show Steps p.tables e below (T21.setTop (mkF m 78 #[.val (.ref ob), .val (.ref sx), .val (.int (3 : Int32)), .val (.int c3), .val (.int c3), .val (.int cc17)] [(.int c3)])) _
    refine XS.iloadN X21.here hx rfl (hb hby d9_78) rfl ?_
    show Steps p.tables e below (T21.setTop (mkF m 79 #[.val (.ref ob), .val (.ref sx), .val (.int (3 : Int32)), .val (.int c3), .val (.int c3), .val (.int cc17)] [(.int c3), (.int c3)])) _
    refine XS.icmpYes X21.here hx rfl (pc0 := 79) (pc' := 96) rfl (hb hby d9_79) rfl (flt (by rw [Int32.lt_iff_toInt_lt]; omega : ¬ (c3 < c3))).2.1 (by decide) (by decide) ?_
    show Steps p.tables e below (T21.setTop (mkF m 96 #[.val (.ref ob), .val (.ref sx), .val (.int (3 : Int32)), .val (.int c3), .val (.int c3), .val (.int cc17)] [])) _
    refine XS.iloadN X21.here hx rfl (hb hby d9_96) rfl ?_
    show Steps p.tables e below (T21.setTop (mkF m 97 #[.val (.ref ob), .val (.ref sx), .val (.int (3 : Int32)), .val (.int c3), .val (.int c3), .val (.int cc17)] [(.int c3)])) _
    refine XS.istore X21.here hx rfl (hb hby d9_97) rfl (l' := #[.val (.ref ob), .val (.ref sx), .val (.int (3 : Int32)), .val (.int c3), .val (.int c3), .val (.int c3)]) rfl ?_
    show Steps p.tables e below (T21.setTop (mkF m 99 #[.val (.ref ob), .val (.ref sx), .val (.int (3 : Int32)), .val (.int c3), .val (.int c3), .val (.int c3)] [])) _
    exact kt
  obtain ⟨T24, lc24, cc24, f24, X24, N24, K24, V24, hf24, st24⟩ := loop (c3.toInt - c3.toInt + 1).toNat _ _ _ (3 : Int32) c3 c3 c3 f17 f17 X21 e21 N20 (Fw3.keep K17 (ninS ne_ob_b2 nin0)) V17 (fun k => by rw [if_neg (by omega)]) (by omega) (by omega) (Int.le_refl _) (by omega)
  have Kc24 : Keep h0 T24.heap [ob] := Kc17.trans K24 (allS (Or.inr sz_b2) all0)
  have Oc24 := Oc17.keep K24 (allS g_b2 all0)
  obtain ⟨cq25, kq25, q25a, q25b, q25c⟩ := isOf hZ rfl ((((E_s.ext E2).wr W3).keep K17).keep K24)
  obtain ⟨_, _, ⟨T25, L25, k25, n25⟩, -, X25, ⟨Lc25, hQ25, l25, y25, z25⟩, st25⟩ := X24.virtualBack hx (y := (⟨"java/lang/String", "length", "()I"⟩ : MethodName)) (z := (⟨"java/lang/String", "length", "()I"⟩ : MethodName)) hown (mvT hZ (hw _ (List.mem_of_getElem? (i := 47) rfl))) (mvT hZ (hw _ (List.mem_of_getElem? (i := 48) rfl))) (notFace_of_selects (args := #[]) (mvT hZ (hw _ (List.mem_of_getElem? (i := 50) rfl)))) (mvT hZ (hw _ (List.mem_of_getElem? (i := 50) rfl))) (mvT hZ (hw _ (List.mem_of_getElem? (i := 49) rfl))) (by decide) (StrChars.Road.lenW (W := 1) hZ hln (kI := 4) (hw _ (List.mem_of_getElem? (i := 12) rfl)) ((((E_s.ext E2).wr W3).keep K17).keep K24) ((((V_s.ext E2).other W3 (Or.inl nes)).keep K17 (ninS ne_sx_b2 nin0)).keep K24 (ninS ne_sx_b2 nin0)) ((((C_s.ext E2).other W3 (Or.inl nes)).keep K17 (ninS ne_sx_b2 nin0)).keep K24 (ninS ne_sx_b2 nin0)) ((((K_s.ext E2).other W3 net).keep K17 (ninS ne_tx_b2 nin0)).keep K24 (ninS ne_tx_b2 nin0)) hcd hbd (S_c.ext Oc24.2) hzc (Nat.le_of_ble_eq_true rfl) (by decide) (by decide)) q25a q25c (g := (mkF m 17 #[.val (.ref ob), .val (.ref sx), .val (.int (4 : Int32)), .val (.int c3), .val (.int c3), .val (.int cc24)] [(.ref sx), (.int (4 : Int32))])) rfl (by rw [hml]; rfl) (Steps.refl _) (argsL := []) (rest := [(.int (4 : Int32))]) (lenOf pd_0 rfl) rfl (by show 2 * 0 + _ ≤ _; exact Nat.le_of_eq rfl) (hb hby d9_17) (fun _ _ => ⟨rfl, rfl, (by decide : 1 + 0 ≤ _), (by decide : 128 + 0 ≤ _)⟩)
  dsimp only [Pt.U, Pt.locs, Pt.cells, Pt.slots] at X25 l25 y25 z25 st25 hQ25
  subst l25 y25 z25
  obtain ⟨rfl, rfl, e25⟩ := hQ25
  have N25q : Fr n0 ([] : List Loc) := Fr.nil n0
  have N25 := Fr.app N24 N25q
  obtain ⟨fs, hr, hrun, hended, hW, hsame⟩ := X25.leave (v := none) (fun _ => rfl)
  refine ⟨_, _, pre23 _ ?_, hrun, hended, _, _, rfl, ?_, ⟨_, rfl⟩, hW, hsame.mono (by decide) (by decide)⟩
  · show Steps p.tables e below (T21.setTop (mkF m 99 #[.val (.ref ob), .val (.ref sx), .val (.int (3 : Int32)), .val (.int c3), .val (.int c3), .val (.int c3)] [])) _
    refine st24 _ ?_
    show Steps p.tables e below (T24.setTop (mkF m 124 #[.val (.ref ob), .val (.ref sx), .val (.int (3 : Int32)), .val (.int c3), .val (.int c3), .val (.int cc24)] [])) _
    refine XS.iinc X24.here hx rfl (hb hby d9_124) rfl (l' := #[.val (.ref ob), .val (.ref sx), .val (.int (4 : Int32)), .val (.int c3), .val (.int c3), .val (.int cc24)]) rfl ?_
    show Steps p.tables e below (T24.setTop (mkF m 127 #[.val (.ref ob), .val (.ref sx), .val (.int (4 : Int32)), .val (.int c3), .val (.int c3), .val (.int cc24)] [])) _
    refine XS.goto X24.here hx rfl (pc0 := 127) (pc' := 15) rfl (hb hby d9_127) (by decide) (by decide) ?_
    show Steps p.tables e below (T24.setTop (mkF m 15 #[.val (.ref ob), .val (.ref sx), .val (.int (4 : Int32)), .val (.int c3), .val (.int c3), .val (.int cc24)] [])) _
    refine XS.iloadN X24.here hx rfl (hb hby d9_15) rfl ?_
    show Steps p.tables e below (T24.setTop (mkF m 16 #[.val (.ref ob), .val (.ref sx), .val (.int (4 : Int32)), .val (.int c3), .val (.int c3), .val (.int cc24)] [(.int (4 : Int32))])) _
    refine XS.aloadN X24.here hx rfl (hb hby d9_16) rfl rfl ?_
    show Steps p.tables e below (T24.setTop (mkF m 17 #[.val (.ref ob), .val (.ref sx), .val (.int (4 : Int32)), .val (.int c3), .val (.int c3), .val (.int cc24)] [(.ref sx), (.int (4 : Int32))])) _
    refine st25.trans ?_
    show Steps p.tables e below (T25.setTop (mkF m 20 #[.val (.ref ob), .val (.ref sx), .val (.int (4 : Int32)), .val (.int c3), .val (.int c3), .val (.int cc24)] [(.int (4 : Int32)), (.int (4 : Int32))])) _
    refine XS.icmpYes X25.here hx rfl (pc0 := 20) (pc' := 130) rfl (hb hby d9_20) rfl (flt (by decide : ¬ ((4 : Int32) < (4 : Int32)))).2.1 (by decide) (by decide) ?_
    show Steps p.tables e below (T25.setTop (mkF m 130 #[.val (.ref ob), .val (.ref sx), .val (.int (4 : Int32)), .val (.int c3), .val (.int c3), .val (.int cc24)] [])) _
    exact X25.returnOut hx Bd.returns (hb hby d9_130) hr
  · show Q9 Z ob sx tx kb c0 c2 c3 zc fm h0 n0 _ T25.heap _
    rw [e25]
    refine ⟨_, _, rfl, N25, Kc24, ((((E_ob.ext E2).wr W3).keep K17).keep K24), ((Fw3.keep K17 (ninS ne_ob_b2 nin0)).keep K24 (ninS ne_ob_b2 nin0)), g_b2, V24, fun k => ?_⟩
    rw [hf24 k, hf17 k]
theorem d17_0 : decode prog_37_method_2_code 0 = .ok (.iload_n 1, 1) := by decide +kernel
theorem d17_1 : decode prog_37_method_2_code 1 = .ok (.aload_n 0, 1) := by decide +kernel
theorem d17_2 : decode prog_37_method_2_code 2 = .ok (.getfield 7, 3) := by decide +kernel
theorem d17_5 : decode prog_37_method_2_code 5 = .ok (.arraylength, 1) := by decide +kernel
theorem d17_6 : decode prog_37_method_2_code 6 = .ok (.if_icmp .ge 16, 3) := by decide +kernel
theorem d17_9 : decode prog_37_method_2_code 9 = .ok (.aload_n 0, 1) := by decide +kernel
theorem d17_10 : decode prog_37_method_2_code 10 = .ok (.getfield 7, 3) := by decide +kernel
theorem d17_13 : decode prog_37_method_2_code 13 = .ok (.iload_n 1, 1) := by decide +kernel
theorem d17_14 : decode prog_37_method_2_code 14 = .ok (.baload, 1) := by decide +kernel
theorem d17_15 : decode prog_37_method_2_code 15 = .ok (.ifCond .eq 7, 3) := by decide +kernel
theorem d17_22 : decode prog_37_method_2_code 22 = .ok (.iconst 0, 1) := by decide +kernel
theorem d17_23 : decode prog_37_method_2_code 23 = .ok (.ireturn, 1) := by decide +kernel
theorem d17_18 : decode prog_37_method_2_code 18 = .ok (.iconst 1, 1) := by decide +kernel
theorem d17_19 : decode prog_37_method_2_code 19 = .ok (.goto 4, 3) := by decide +kernel
theorem ef_rm17 (m : MethodId) (x0 : Addr) (x1 : Int32) : entryFrame m #[(.ref x0), (.int x1)] 2 = mkF m 0 #[.val (.ref x0), .val (.int x1)] [] := by first | (simp [entryFrame, mkF, argsToLocals, Value.category]; done) | rfl
def hasF (pc : Int32) (f : Nat → Int32) : Int32 :=
  if pc < (128 : Int32) then (if (f pc.toNatClampNeg) = (0 : Int32) then (0 : Int32)
    else (1 : Int32))
  else (0 : Int32)
def Q17 (Z : State) (ob : Addr) (pc : Int32) (ar : Addr) (f : Nat → Int32) (h0 : Heap) (n0 : Nat) (v : Option Value) (h : Heap) (L : List Loc) : Prop := v = some (.int (hasF pc f)) ∧ Fr n0 L ∧ h = h0
set_option maxRecDepth 65536 in
set_option maxHeartbeats 40000000 in
theorem rm17 (l : Launch) (Z : State) (a0 : Array Value) (hw : ∀ d ∈ tables_1, d.before a0 Z = true) (ws : List Jvm.Cond) (ob : Addr) (pc : Int32) (ar : Addr) (f : Nat → Int32) (h0 : Heap) (n0 : Nat) (Z0 : n0 ≤ h0.size) (F_m : Fld Z h0 ob "com/example/attestrail/attestrail/event/AsciiClass" "members" "[Z" (.ref ar)) (V0 : LB Z h0 ar f) (ra : 0 ≤ pc.toInt) :
    MetFree l (⟨"com/example/attestrail/attestrail/event/AsciiClass", "has", "(C)Z"⟩ : MethodName) (head1 (Jvm.Cond.code (⟨"com/example/attestrail/attestrail/event/AsciiClass", "has", "(C)Z"⟩ : MethodName) prog_37_method_2_code 2 (some .boolean) :: ws) ({ frames := 0, cells := 0, slots := 0, locals := 0 } : Room)) (fun a U => a = #[(.ref ob), (.int pc)] ∧ Z.Warmed39 U.vm ∧ U.heap = h0) (fun _ _ _ _ _ => True) (fun _ U o U' => ∃ v L, o = .returned v ∧ Q17 Z ob pc ar f h0 n0 v U'.heap L ∧ FrameEnd U o U' L ({ frames := 0, cells := 0, slots := 0, locals := 0 } : Room).cells ({ frames := 0, cells := 0, slots := 0, locals := 0 } : Room).slots) := by
  refine MetFree.of_bodySF (plainFor_of_name pn_0) hisR ?_
  intro p e s m args below meth c s₁ Bd hml0 hP hK
  obtain ⟨rfl, hZ, hh⟩ := hP
  have hx := Bd.exec
  have hby := Bd.bytes
  have hml : c.maxLocals = 2 := hml0
  have hown : s.vm.findClass "com/example/attestrail/attestrail/event/AsciiClass" = some m.cls := findClass_of_methodNamed Bd.named
  have hnm := (name_of_methodNamed Bd.named Bd.method).1
  have X0 : Stand p l e ({ frames := 0, cells := 0, slots := 0, locals := 0 } : Room) s m #[(.ref ob), (.int pc)] below meth c s₁ [] 0 0 := Stand.of_body Bd
  have e0 : s₁.heap = h0 := by rw [← hh, Bd.state]; rfl
  have N0 := Fr.nil n0
  have pre0 : ∀ t, Steps p.tables e below (s₁.setTop (mkF m 0 #[.val (.ref ob), .val (.int pc)] [])) t → Steps p.tables e below (s₁.setTop (entryFrame m #[(.ref ob), (.int pc)] 2)) t := fun t k => castTop (ef_rm17 m ob pc) k
  obtain ⟨T1, X1, e1, st1⟩ := getF X0 hx hZ hown (host := "") (Or.inl (hw _ (List.mem_of_getElem? (i := 45) rfl))) Via.refl e0 F_m (g := (mkF m 2 #[.val (.ref ob), .val (.int pc)] [(.ref ob), (.int pc)])) rfl rfl (hb hby d17_2)
  obtain ⟨cl2, Ar2, hz2, he2⟩ := (id V0)
  have pre3 : ∀ t, Steps p.tables e below (T1.setTop (mkF m 6 #[.val (.ref ob), .val (.int pc)] [(.int (128 : Int32)), (.int pc)])) t → Steps p.tables e below (s₁.setTop (entryFrame m #[(.ref ob), (.int pc)] 2)) t := by
    intro t kt
    refine pre0 t ?_
    show Steps p.tables e below (s₁.setTop (mkF m 0 #[.val (.ref ob), .val (.int pc)] [])) _
    refine XS.iloadN X0.here hx rfl (hb hby d17_0) rfl ?_
    show Steps p.tables e below (s₁.setTop (mkF m 1 #[.val (.ref ob), .val (.int pc)] [(.int pc)])) _
    refine XS.aloadN X0.here hx rfl (hb hby d17_1) rfl rfl ?_
    show Steps p.tables e below (s₁.setTop (mkF m 2 #[.val (.ref ob), .val (.int pc)] [(.ref ob), (.int pc)])) _
    refine st1 _ ?_
    show Steps p.tables e below (T1.setTop (mkF m 5 #[.val (.ref ob), .val (.int pc)] [(.ref ar), (.int pc)])) _
    refine X1.arraylength hx (by rw [e1]; exact Ar2.1) (State.isArrayOf_alike (hZ).alike Ar2.2.1) (g := (mkF m 5 #[.val (.ref ob), .val (.int pc)] [(.ref ar), (.int pc)])) rfl rfl (hb hby d17_5) _ ?_
    rw [own_len hz2]
    show Steps p.tables e below (T1.setTop (mkF m 6 #[.val (.ref ob), .val (.int pc)] [(.int (128 : Int32)), (.int pc)])) _
    exact kt
  by_cases hc6_4 : pc < (128 : Int32)
  · obtain ⟨T5, X5, e5, st5⟩ := getF X1 hx hZ hown (host := "") (Or.inl (hw _ (List.mem_of_getElem? (i := 45) rfl))) Via.refl e1 F_m (g := (mkF m 10 #[.val (.ref ob), .val (.int pc)] [(.ref ob)])) rfl rfl (hb hby d17_10)
    obtain ⟨cl6, Ar6, hz6, he6⟩ := (id V0)
    have rb : pc.toInt < 128 := by have q := hc6_4; rw [Int32.lt_iff_toInt_lt] at q; exact q
    have hin6 := own_in hz6 (j := pc) ra rb
    have hat6 : cl6.slots[pc.toNatClampNeg]? = some (.int (f pc.toNatClampNeg)) := he6 _ (by have := own_nat (j := pc) ra; omega)
    have pre7 : ∀ t, Steps p.tables e below (T5.setTop (mkF m 15 #[.val (.ref ob), .val (.int pc)] [(.int (f pc.toNatClampNeg))])) t → Steps p.tables e below (s₁.setTop (entryFrame m #[(.ref ob), (.int pc)] 2)) t := by
      intro t kt
      refine pre3 t ?_
      show Steps p.tables e below (T1.setTop (mkF m 6 #[.val (.ref ob), .val (.int pc)] [(.int (128 : Int32)), (.int pc)])) _
      refine XS.icmpNo X1.here hx rfl (hb hby d17_6) rfl (tlt hc6_4).2.1 ?_
      show Steps p.tables e below (T1.setTop (mkF m 9 #[.val (.ref ob), .val (.int pc)] [])) _
      refine XS.aloadN X1.here hx rfl (hb hby d17_9) rfl rfl ?_
      show Steps p.tables e below (T1.setTop (mkF m 10 #[.val (.ref ob), .val (.int pc)] [(.ref ob)])) _
      refine st5 _ ?_
      show Steps p.tables e below (T5.setTop (mkF m 13 #[.val (.ref ob), .val (.int pc)] [(.ref ar)])) _
      refine XS.iloadN X5.here hx rfl (hb hby d17_13) rfl ?_
      show Steps p.tables e below (T5.setTop (mkF m 14 #[.val (.ref ob), .val (.int pc)] [(.int pc), (.ref ar)])) _
      refine X5.baloadBooleans hx (j := pc) (v := (.int (f pc.toNatClampNeg))) (by rw [e5]; exact Ar6.1) (State.isArrayOf_alike hZ.alike Ar6.2.1) Ar6.2.2 hin6 hat6 (g := (mkF m 14 #[.val (.ref ob), .val (.int pc)] [(.int pc), (.ref ar)])) rfl rfl (hb hby d17_14) _ ?_
      show Steps p.tables e below (T5.setTop (mkF m 15 #[.val (.ref ob), .val (.int pc)] [(.int (f pc.toNatClampNeg))])) _
      exact kt
    by_cases hc15_8 : (f pc.toNatClampNeg) = (0 : Int32)
    · obtain ⟨fs, hr, hrun, hended, hW, hsame⟩ := X5.leave (v := some (.int (0 : Int32))) (fun h => by rw [Bd.returns] at h; cases h)
      refine ⟨_, _, pre7 _ ?_, hrun, hended, _, _, rfl, ?_, ⟨_, rfl⟩, hW, hsame.mono (by decide) (by decide)⟩
      · show Steps p.tables e below (T5.setTop (mkF m 15 #[.val (.ref ob), .val (.int pc)] [(.int (f pc.toNatClampNeg))])) _
        refine XS.ifYes X5.here hx rfl (pc0 := 15) (pc' := 22) rfl (hb hby d17_15) rfl ((if0 _ _).trans (teq hc15_8).1) (by decide) (by decide) ?_
        show Steps p.tables e below (T5.setTop (mkF m 22 #[.val (.ref ob), .val (.int pc)] [])) _
        refine XS.iconst X5.here hx rfl (hb hby d17_22) ?_
        show Steps p.tables e below (T5.setTop (mkF m 23 #[.val (.ref ob), .val (.int pc)] [(.int (0 : Int32))])) _
        exact retN X5 hx (t := .boolean) Bd.returns (by simp) (hb hby d17_23) hr
      · show Q17 Z ob pc ar f h0 n0 _ T5.heap _
        rw [e5]
        refine ⟨?_, N0, rfl⟩
        show (some (.int (0 : Int32)) : Option Value) = some (.int (hasF pc f))
        rw [show (hasF pc f) = (0 : Int32) from by unfold hasF; rw [if_pos hc6_4, if_pos hc15_8]]
    · obtain ⟨fs, hr, hrun, hended, hW, hsame⟩ := X5.leave (v := some (.int (1 : Int32))) (fun h => by rw [Bd.returns] at h; cases h)
      refine ⟨_, _, pre7 _ ?_, hrun, hended, _, _, rfl, ?_, ⟨_, rfl⟩, hW, hsame.mono (by decide) (by decide)⟩
      · show Steps p.tables e below (T5.setTop (mkF m 15 #[.val (.ref ob), .val (.int pc)] [(.int (f pc.toNatClampNeg))])) _
        refine XS.ifNo X5.here hx rfl (hb hby d17_15) rfl ((if0 _ _).trans (feq hc15_8).1) ?_
        show Steps p.tables e below (T5.setTop (mkF m 18 #[.val (.ref ob), .val (.int pc)] [])) _
        refine XS.iconst X5.here hx rfl (hb hby d17_18) ?_
        show Steps p.tables e below (T5.setTop (mkF m 19 #[.val (.ref ob), .val (.int pc)] [(.int (1 : Int32))])) _
        refine XS.goto X5.here hx rfl (pc0 := 19) (pc' := 23) rfl (hb hby d17_19) (by decide) (by decide) ?_
        show Steps p.tables e below (T5.setTop (mkF m 23 #[.val (.ref ob), .val (.int pc)] [(.int (1 : Int32))])) _
        exact retN X5 hx (t := .boolean) Bd.returns (by simp) (hb hby d17_23) hr
      · show Q17 Z ob pc ar f h0 n0 _ T5.heap _
        rw [e5]
        refine ⟨?_, N0, rfl⟩
        show (some (.int (1 : Int32)) : Option Value) = some (.int (hasF pc f))
        rw [show (hasF pc f) = (1 : Int32) from by unfold hasF; rw [if_pos hc6_4, if_neg hc15_8]]
  · obtain ⟨fs, hr, hrun, hended, hW, hsame⟩ := X1.leave (v := some (.int (0 : Int32))) (fun h => by rw [Bd.returns] at h; cases h)
    refine ⟨_, _, pre3 _ ?_, hrun, hended, _, _, rfl, ?_, ⟨_, rfl⟩, hW, hsame.mono (by decide) (by decide)⟩
    · show Steps p.tables e below (T1.setTop (mkF m 6 #[.val (.ref ob), .val (.int pc)] [(.int (128 : Int32)), (.int pc)])) _
      refine XS.icmpYes X1.here hx rfl (pc0 := 6) (pc' := 22) rfl (hb hby d17_6) rfl (flt hc6_4).2.1 (by decide) (by decide) ?_
      show Steps p.tables e below (T1.setTop (mkF m 22 #[.val (.ref ob), .val (.int pc)] [])) _
      refine XS.iconst X1.here hx rfl (hb hby d17_22) ?_
      show Steps p.tables e below (T1.setTop (mkF m 23 #[.val (.ref ob), .val (.int pc)] [(.int (0 : Int32))])) _
      exact retN X1 hx (t := .boolean) Bd.returns (by simp) (hb hby d17_23) hr
    · show Q17 Z ob pc ar f h0 n0 _ T1.heap _
      rw [e1]
      refine ⟨?_, N0, rfl⟩
      show (some (.int (0 : Int32)) : Option Value) = some (.int (hasF pc f))
      rw [show (hasF pc f) = (0 : Int32) from by unfold hasF; rw [if_neg hc6_4]]
theorem own_127 (z : Int32) : 0 ≤ (z &&& (127 : Int32)).toInt ∧ (z &&& (127 : Int32)).toInt < 128 := by
  have h := c_and z 127 (by decide)
  have e : (127 : Int32).toInt = 127 := rfl
  rw [e] at h
  omega
theorem own_mm (a b : Int32) (ha : 0 ≤ a.toInt ∧ a.toInt < 128) (hb : 0 ≤ b.toInt ∧ b.toInt < 128) : 0 ≤ (minF a b).toInt ∧ (minF a b).toInt ≤ (maxF a b).toInt ∧ (maxF a b).toInt < 128 := by
  unfold minF maxF
  simp only [Int32.lt_iff_toInt_lt]
  repeat' split
  all_goals omega
theorem own_c {z : Int32} (h0 : 0 ≤ z.toInt) (h1 : z.toInt < 128) : (z.toUInt32.toUInt16.toUInt32.toInt32) = z := by
  apply Int32.toInt_inj.mp
  have q := c_i2c z
  omega
theorem own_nc {z : Int32} (h0 : 0 ≤ z.toInt) (h1 : z.toInt < 128) : nar .char z = z := own_c h0 h1
theorem own_i2c (z : Int32) : 0 ≤ (z.toUInt32.toUInt16.toUInt32.toInt32).toInt := (c_i2c z).2.1
theorem own_pick {P : Int32 → Prop} {c : Prop} [Decidable c] {x y v : Int32} (hv : v = (if c then x else y)) (hx : P x) (hy : P y) : P v := by
  subst hv
  split
  · exact hx
  · exact hy
theorem pd_2 : parseMethodDescriptor "(II)I" = some ⟨[.int, .int], some .int⟩ := by decide +kernel
theorem pd_3 : parseMethodDescriptor "([C)V" = some ⟨[(.array .char)], none⟩ := by decide +kernel
theorem pd_4 : parseMethodDescriptor "(Ljava/lang/String;)V" = some ⟨[(.object "java/lang/String")], none⟩ := by decide +kernel
theorem pd_5 : parseMethodDescriptor "(C)Z" = some ⟨[.char], some .boolean⟩ := by decide +kernel
theorem own_fin {cx lo hi sg ex : Int32} {fa : Nat → Int32} (rcx : 0 ≤ cx.toInt) (l0 : 0 ≤ lo.toInt) (l1 : lo.toInt ≤ hi.toInt) (l2 : hi.toInt < 128) (s0 : 0 ≤ sg.toInt) (s1 : sg.toInt < 128) (hfa : ∀ k : Nat, fa k = if sg.toInt ≤ (k : Int) ∧ (k : Int) ≤ sg.toInt then 1 else if lo.toInt ≤ (k : Int) ∧ (k : Int) ≤ hi.toInt then 1 else (0 : Int32)) (hv : ex = (if cx < lo then (if cx = sg then (1 : Int32) else (0 : Int32)) else if hi < cx then (if cx = sg then (1 : Int32) else (0 : Int32)) else (1 : Int32))) : hasF cx fa = ex := by
  subst hv
  have hn := own_nat rcx
  have e128 : (128 : Int32).toInt = 128 := rfl
  have key : (cx = sg) ↔ cx.toInt = sg.toInt := Int32.toInt_inj.symm
  unfold hasF
  rw [hfa]
  simp only [Int32.lt_iff_toInt_lt, key, hn, e128]
  repeat' split
  all_goals first | rfl | omega | (exfalso; omega) | simp_all | (simp_all; omega)
theorem pn_1 : plainName "com/example/attestrail/attestrail/event/AsciiClassHasPinLaw" = true := by first | (simp [plainName, overriddenIn]; done) | decide +kernel
theorem ef_rm0 (m : MethodId) (x0 : Int32) (x1 : Int32) (x2 : Int32) (x3 : Int32) (x4 : Int32) : entryFrame m #[(.int x0), (.int x1), (.int x2), (.int x3), (.int x4)] maxLocals = mkF m 0 #[.val (.int x0), .val (.int x1), .val (.int x2), .val (.int x3), .val (.int x4), .unset, .unset, .unset, .unset, .unset, .unset, .unset, .unset, .unset] [] := by first | (simp [entryFrame, mkF, argsToLocals, Value.category, maxLocals]; done) | rfl
def Q0 (Z : State) (pp : Int32) (pq : Int32) (pr : Int32) (px : Int32) (pm : Int32) (zc : Int32) (fm : Value) (h0 : Heap) (n0 : Nat) (v : Option Value) (h : Heap) (L : List Loc) : Prop := v = some (.int 1) ∧ Fr n0 L
set_option maxRecDepth 65536 in
set_option maxHeartbeats 40000000 in
theorem rm0 (l : Launch) (Z : State) (a0 : Array Value) (hw : ∀ d ∈ tables_1, d.before a0 Z = true) (ws : List Jvm.Cond) (pp : Int32) (pq : Int32) (pr : Int32) (px : Int32) (pm : Int32) (zc : Int32) (fm : Value) (h0 : Heap) (n0 : Nat) (Z0 : n0 ≤ h0.size) (O : Old Z n0 h0) (S_c : Sta Z Z.heap "java/lang/String" "COMPACT_STRINGS" "Z" (.int zc)) (hzc : ¬ zc = (0 : Int32)) (S_f : Sta Z Z.heap "jdk/internal/util/Preconditions" "SIOOBE_FORMATTER" "Ljava/util/function/BiFunction;" fm) (rfm : fm.isRef = true) :
    MetFree l x (head1 (Jvm.Cond.code x code maxLocals ret :: ws) room_1) (fun a U => a = #[(.int pp), (.int pq), (.int pr), (.int px), (.int pm)] ∧ Z.Warmed39 U.vm ∧ U.heap = h0) (fun _ _ _ _ _ => True) (fun _ U o U' => ∃ v L, o = .returned v ∧ Q0 Z pp pq pr px pm zc fm h0 n0 v U'.heap L ∧ FrameEnd U o U' L room_1.cells room_1.slots) := by
  refine MetFree.of_bodySF (plainFor_of_name pn_1) hisR ?_
  intro p e s m args below meth c s₁ Bd hml0 hP hK
  obtain ⟨rfl, hZ, hh⟩ := hP
  have hx := Bd.exec
  have hby := Bd.bytes
  have hml : c.maxLocals = 14 := hml0
  have hown : s.vm.findClass "com/example/attestrail/attestrail/event/AsciiClassHasPinLaw" = some m.cls := findClass_of_methodNamed Bd.named
  have hnm := (name_of_methodNamed Bd.named Bd.method).1
  have X0 : Stand p l e room_1 s m #[(.int pp), (.int pq), (.int pr), (.int px), (.int pm)] below meth c s₁ [] 0 0 := Stand.of_body Bd
  have e0 : s₁.heap = h0 := by rw [← hh, Bd.state]; rfl
  have N0 := Fr.nil n0
  have pre0 : ∀ t, Steps p.tables e below (s₁.setTop (mkF m 0 #[.val (.int pp), .val (.int pq), .val (.int pr), .val (.int px), .val (.int pm), .unset, .unset, .unset, .unset, .unset, .unset, .unset, .unset, .unset] [])) t → Steps p.tables e below (s₁.setTop (entryFrame m #[(.int pp), (.int pq), (.int pr), (.int px), (.int pm)] maxLocals)) t := fun t k => castTop (ef_rm0 m pp pq pr px pm) k
  have hws : ∀ d ∈ StrChars.Road.words, d.before a0 Z = true := fun d hd => hw d ((by decide +kernel : ∀ d ∈ StrChars.Road.words, d ∈ tables_1) d hd)
  obtain ⟨_, _, ⟨T1, L1, k1, n1⟩, -, X1, ⟨Lc1, hQ1, l1, y1, z1⟩, st1⟩ := Jvm.LawKit.callS X0 hx (y := (⟨"java/lang/Math", "min", "(II)I"⟩ : MethodName)) hown (mvT hZ (hw _ (List.mem_of_getElem? (i := 0) rfl))) (mvT hZ (hw _ (List.mem_of_getElem? (i := 1) rfl))) (mvT hZ (hw _ (List.mem_of_getElem? (i := 2) rfl))) (mvT hZ (hw _ (List.mem_of_getElem? (i := 3) rfl))) (by decide) (backOf (W := 0) (rm1 l Z a0 hw [] (pp &&& (127 : Int32)) (pq &&& (127 : Int32)) h0 n0 Z0 ) hZ (hw _ (List.mem_of_getElem? (i := 3) rfl)) (hw _ (List.mem_of_getElem? (i := 2) rfl)) (by decide) (by decide)) (g := (mkF m 16 #[.val (.int pp), .val (.int pq), .val (.int pr), .val (.int px), .val (.int pm), .val (.int (pp &&& (127 : Int32))), .val (.int (pq &&& (127 : Int32))), .unset, .unset, .unset, .unset, .unset, .unset, .unset] [(.int (pq &&& (127 : Int32))), (.int (pp &&& (127 : Int32)))])) rfl (by rw [hml]; rfl) (argsL := [(.int (pp &&& (127 : Int32))), (.int (pq &&& (127 : Int32)))]) (rest := []) (lenOf pd_2 rfl) rfl (by show 2 * 0 + _ ≤ _; exact Nat.le_of_eq rfl) (hb hby at_16) (fun _ _ => ⟨rfl, e0, (by decide : 0 + 0 ≤ _), (by decide : 0 + 0 ≤ _)⟩)
  dsimp only [Pt.U, Pt.locs, Pt.cells, Pt.slots] at X1 l1 y1 z1 st1 hQ1
  subst l1 y1 z1
  obtain ⟨rfl, N1q, e1⟩ := hQ1
  have N1 := Fr.app N0 N1q
  have pre2 : ∀ t, Steps p.tables e below (T1.setTop (mkF m 21 #[.val (.int pp), .val (.int pq), .val (.int pr), .val (.int px), .val (.int pm), .val (.int (pp &&& (127 : Int32))), .val (.int (pq &&& (127 : Int32))), .val (.int (minF (pp &&& (127 : Int32)) (pq &&& (127 : Int32)))), .unset, .unset, .unset, .unset, .unset, .unset] [])) t → Steps p.tables e below (s₁.setTop (entryFrame m #[(.int pp), (.int pq), (.int pr), (.int px), (.int pm)] maxLocals)) t := by
    intro t kt
    refine pre0 t ?_
    show Steps p.tables e below (s₁.setTop (mkF m 0 #[.val (.int pp), .val (.int pq), .val (.int pr), .val (.int px), .val (.int pm), .unset, .unset, .unset, .unset, .unset, .unset, .unset, .unset, .unset] [])) _
    refine XS.iloadN X0.here hx rfl (hb hby at_0) rfl ?_
    show Steps p.tables e below (s₁.setTop (mkF m 1 #[.val (.int pp), .val (.int pq), .val (.int pr), .val (.int px), .val (.int pm), .unset, .unset, .unset, .unset, .unset, .unset, .unset, .unset, .unset] [(.int pp)])) _
    refine XS.bipush X0.here hx rfl (hb hby at_1) ?_
    show Steps p.tables e below (s₁.setTop (mkF m 3 #[.val (.int pp), .val (.int pq), .val (.int pr), .val (.int px), .val (.int pm), .unset, .unset, .unset, .unset, .unset, .unset, .unset, .unset, .unset] [(.int (127 : Int32)), (.int pp)])) _
    refine XS.iand X0.here hx rfl (hb hby at_3) rfl ?_
    show Steps p.tables e below (s₁.setTop (mkF m 4 #[.val (.int pp), .val (.int pq), .val (.int pr), .val (.int px), .val (.int pm), .unset, .unset, .unset, .unset, .unset, .unset, .unset, .unset, .unset] [(.int (pp &&& (127 : Int32)))])) _
    refine XS.istore X0.here hx rfl (hb hby at_4) rfl (l' := #[.val (.int pp), .val (.int pq), .val (.int pr), .val (.int px), .val (.int pm), .val (.int (pp &&& (127 : Int32))), .unset, .unset, .unset, .unset, .unset, .unset, .unset, .unset]) rfl ?_
    show Steps p.tables e below (s₁.setTop (mkF m 6 #[.val (.int pp), .val (.int pq), .val (.int pr), .val (.int px), .val (.int pm), .val (.int (pp &&& (127 : Int32))), .unset, .unset, .unset, .unset, .unset, .unset, .unset, .unset] [])) _
    refine XS.iloadN X0.here hx rfl (hb hby at_6) rfl ?_
    show Steps p.tables e below (s₁.setTop (mkF m 7 #[.val (.int pp), .val (.int pq), .val (.int pr), .val (.int px), .val (.int pm), .val (.int (pp &&& (127 : Int32))), .unset, .unset, .unset, .unset, .unset, .unset, .unset, .unset] [(.int pq)])) _
    refine XS.bipush X0.here hx rfl (hb hby at_7) ?_
    show Steps p.tables e below (s₁.setTop (mkF m 9 #[.val (.int pp), .val (.int pq), .val (.int pr), .val (.int px), .val (.int pm), .val (.int (pp &&& (127 : Int32))), .unset, .unset, .unset, .unset, .unset, .unset, .unset, .unset] [(.int (127 : Int32)), (.int pq)])) _
    refine XS.iand X0.here hx rfl (hb hby at_9) rfl ?_
    show Steps p.tables e below (s₁.setTop (mkF m 10 #[.val (.int pp), .val (.int pq), .val (.int pr), .val (.int px), .val (.int pm), .val (.int (pp &&& (127 : Int32))), .unset, .unset, .unset, .unset, .unset, .unset, .unset, .unset] [(.int (pq &&& (127 : Int32)))])) _
    refine XS.istore X0.here hx rfl (hb hby at_10) rfl (l' := #[.val (.int pp), .val (.int pq), .val (.int pr), .val (.int px), .val (.int pm), .val (.int (pp &&& (127 : Int32))), .val (.int (pq &&& (127 : Int32))), .unset, .unset, .unset, .unset, .unset, .unset, .unset]) rfl ?_
    show Steps p.tables e below (s₁.setTop (mkF m 12 #[.val (.int pp), .val (.int pq), .val (.int pr), .val (.int px), .val (.int pm), .val (.int (pp &&& (127 : Int32))), .val (.int (pq &&& (127 : Int32))), .unset, .unset, .unset, .unset, .unset, .unset, .unset] [])) _
    refine XS.iload X0.here hx rfl (hb hby at_12) rfl ?_
    show Steps p.tables e below (s₁.setTop (mkF m 14 #[.val (.int pp), .val (.int pq), .val (.int pr), .val (.int px), .val (.int pm), .val (.int (pp &&& (127 : Int32))), .val (.int (pq &&& (127 : Int32))), .unset, .unset, .unset, .unset, .unset, .unset, .unset] [(.int (pp &&& (127 : Int32)))])) _
    refine XS.iload X0.here hx rfl (hb hby at_14) rfl ?_
    show Steps p.tables e below (s₁.setTop (mkF m 16 #[.val (.int pp), .val (.int pq), .val (.int pr), .val (.int px), .val (.int pm), .val (.int (pp &&& (127 : Int32))), .val (.int (pq &&& (127 : Int32))), .unset, .unset, .unset, .unset, .unset, .unset, .unset] [(.int (pq &&& (127 : Int32))), (.int (pp &&& (127 : Int32)))])) _
    refine st1 _ ?_
    show Steps p.tables e below (T1.setTop (mkF m 19 #[.val (.int pp), .val (.int pq), .val (.int pr), .val (.int px), .val (.int pm), .val (.int (pp &&& (127 : Int32))), .val (.int (pq &&& (127 : Int32))), .unset, .unset, .unset, .unset, .unset, .unset, .unset] [(.int (minF (pp &&& (127 : Int32)) (pq &&& (127 : Int32))))])) _
    refine XS.istore X1.here hx rfl (hb hby at_19) rfl (l' := #[.val (.int pp), .val (.int pq), .val (.int pr), .val (.int px), .val (.int pm), .val (.int (pp &&& (127 : Int32))), .val (.int (pq &&& (127 : Int32))), .val (.int (minF (pp &&& (127 : Int32)) (pq &&& (127 : Int32)))), .unset, .unset, .unset, .unset, .unset, .unset]) rfl ?_
    show Steps p.tables e below (T1.setTop (mkF m 21 #[.val (.int pp), .val (.int pq), .val (.int pr), .val (.int px), .val (.int pm), .val (.int (pp &&& (127 : Int32))), .val (.int (pq &&& (127 : Int32))), .val (.int (minF (pp &&& (127 : Int32)) (pq &&& (127 : Int32)))), .unset, .unset, .unset, .unset, .unset, .unset] [])) _
    exact kt
  obtain ⟨lo, h_lo⟩ : ∃ z : Int32, z = (minF (pp &&& (127 : Int32)) (pq &&& (127 : Int32))) := ⟨_, rfl⟩
  rw [← h_lo] at pre2
  obtain ⟨_, _, ⟨T3, L3, k3, n3⟩, -, X3, ⟨Lc3, hQ3, l3, y3, z3⟩, st3⟩ := Jvm.LawKit.callS X1 hx (y := (⟨"java/lang/Math", "max", "(II)I"⟩ : MethodName)) hown (mvT hZ (hw _ (List.mem_of_getElem? (i := 4) rfl))) (mvT hZ (hw _ (List.mem_of_getElem? (i := 5) rfl))) (mvT hZ (hw _ (List.mem_of_getElem? (i := 2) rfl))) (mvT hZ (hw _ (List.mem_of_getElem? (i := 6) rfl))) (by decide) (backOf (W := 0) (rm2 l Z a0 hw [] (pp &&& (127 : Int32)) (pq &&& (127 : Int32)) h0 n0 Z0 ) hZ (hw _ (List.mem_of_getElem? (i := 6) rfl)) (hw _ (List.mem_of_getElem? (i := 2) rfl)) (by decide) (by decide)) (g := (mkF m 25 #[.val (.int pp), .val (.int pq), .val (.int pr), .val (.int px), .val (.int pm), .val (.int (pp &&& (127 : Int32))), .val (.int (pq &&& (127 : Int32))), .val (.int lo), .unset, .unset, .unset, .unset, .unset, .unset] [(.int (pq &&& (127 : Int32))), (.int (pp &&& (127 : Int32)))])) rfl (by rw [hml]; rfl) (argsL := [(.int (pp &&& (127 : Int32))), (.int (pq &&& (127 : Int32)))]) (rest := []) (lenOf pd_2 rfl) rfl (by show 2 * 0 + _ ≤ _; exact Nat.le_of_eq rfl) (hb hby at_25) (fun _ _ => ⟨rfl, e1, (by decide : 0 + 0 ≤ _), (by decide : 0 + 0 ≤ _)⟩)
  dsimp only [Pt.U, Pt.locs, Pt.cells, Pt.slots] at X3 l3 y3 z3 st3 hQ3
  subst l3 y3 z3
  obtain ⟨rfl, N3q, e3⟩ := hQ3
  have N3 := Fr.app N1 N3q
  have pre4 : ∀ t, Steps p.tables e below (T3.setTop (mkF m 30 #[.val (.int pp), .val (.int pq), .val (.int pr), .val (.int px), .val (.int pm), .val (.int (pp &&& (127 : Int32))), .val (.int (pq &&& (127 : Int32))), .val (.int lo), .val (.int (maxF (pp &&& (127 : Int32)) (pq &&& (127 : Int32)))), .unset, .unset, .unset, .unset, .unset] [])) t → Steps p.tables e below (s₁.setTop (entryFrame m #[(.int pp), (.int pq), (.int pr), (.int px), (.int pm)] maxLocals)) t := by
    intro t kt
    refine pre2 t ?_
    show Steps p.tables e below (T1.setTop (mkF m 21 #[.val (.int pp), .val (.int pq), .val (.int pr), .val (.int px), .val (.int pm), .val (.int (pp &&& (127 : Int32))), .val (.int (pq &&& (127 : Int32))), .val (.int lo), .unset, .unset, .unset, .unset, .unset, .unset] [])) _
    refine XS.iload X1.here hx rfl (hb hby at_21) rfl ?_
    show Steps p.tables e below (T1.setTop (mkF m 23 #[.val (.int pp), .val (.int pq), .val (.int pr), .val (.int px), .val (.int pm), .val (.int (pp &&& (127 : Int32))), .val (.int (pq &&& (127 : Int32))), .val (.int lo), .unset, .unset, .unset, .unset, .unset, .unset] [(.int (pp &&& (127 : Int32)))])) _
    refine XS.iload X1.here hx rfl (hb hby at_23) rfl ?_
    show Steps p.tables e below (T1.setTop (mkF m 25 #[.val (.int pp), .val (.int pq), .val (.int pr), .val (.int px), .val (.int pm), .val (.int (pp &&& (127 : Int32))), .val (.int (pq &&& (127 : Int32))), .val (.int lo), .unset, .unset, .unset, .unset, .unset, .unset] [(.int (pq &&& (127 : Int32))), (.int (pp &&& (127 : Int32)))])) _
    refine st3 _ ?_
    show Steps p.tables e below (T3.setTop (mkF m 28 #[.val (.int pp), .val (.int pq), .val (.int pr), .val (.int px), .val (.int pm), .val (.int (pp &&& (127 : Int32))), .val (.int (pq &&& (127 : Int32))), .val (.int lo), .unset, .unset, .unset, .unset, .unset, .unset] [(.int (maxF (pp &&& (127 : Int32)) (pq &&& (127 : Int32))))])) _
    refine XS.istore X3.here hx rfl (hb hby at_28) rfl (l' := #[.val (.int pp), .val (.int pq), .val (.int pr), .val (.int px), .val (.int pm), .val (.int (pp &&& (127 : Int32))), .val (.int (pq &&& (127 : Int32))), .val (.int lo), .val (.int (maxF (pp &&& (127 : Int32)) (pq &&& (127 : Int32)))), .unset, .unset, .unset, .unset, .unset]) rfl ?_
    show Steps p.tables e below (T3.setTop (mkF m 30 #[.val (.int pp), .val (.int pq), .val (.int pr), .val (.int px), .val (.int pm), .val (.int (pp &&& (127 : Int32))), .val (.int (pq &&& (127 : Int32))), .val (.int lo), .val (.int (maxF (pp &&& (127 : Int32)) (pq &&& (127 : Int32)))), .unset, .unset, .unset, .unset, .unset] [])) _
    exact kt
  obtain ⟨hi, h_hi⟩ : ∃ z : Int32, z = (maxF (pp &&& (127 : Int32)) (pq &&& (127 : Int32))) := ⟨_, rfl⟩
  rw [← h_hi] at pre4
  have pre5 : ∀ t, Steps p.tables e below (T3.setTop (mkF m 36 #[.val (.int pp), .val (.int pq), .val (.int pr), .val (.int px), .val (.int pm), .val (.int (pp &&& (127 : Int32))), .val (.int (pq &&& (127 : Int32))), .val (.int lo), .val (.int hi), .val (.int (pr &&& (127 : Int32))), .unset, .unset, .unset, .unset] [])) t → Steps p.tables e below (s₁.setTop (entryFrame m #[(.int pp), (.int pq), (.int pr), (.int px), (.int pm)] maxLocals)) t := by
    intro t kt
    refine pre4 t ?_
    show Steps p.tables e below (T3.setTop (mkF m 30 #[.val (.int pp), .val (.int pq), .val (.int pr), .val (.int px), .val (.int pm), .val (.int (pp &&& (127 : Int32))), .val (.int (pq &&& (127 : Int32))), .val (.int lo), .val (.int hi), .unset, .unset, .unset, .unset, .unset] [])) _
    refine XS.iloadN X3.here hx rfl (hb hby at_30) rfl ?_
    show Steps p.tables e below (T3.setTop (mkF m 31 #[.val (.int pp), .val (.int pq), .val (.int pr), .val (.int px), .val (.int pm), .val (.int (pp &&& (127 : Int32))), .val (.int (pq &&& (127 : Int32))), .val (.int lo), .val (.int hi), .unset, .unset, .unset, .unset, .unset] [(.int pr)])) _
    refine XS.bipush X3.here hx rfl (hb hby at_31) ?_
    show Steps p.tables e below (T3.setTop (mkF m 33 #[.val (.int pp), .val (.int pq), .val (.int pr), .val (.int px), .val (.int pm), .val (.int (pp &&& (127 : Int32))), .val (.int (pq &&& (127 : Int32))), .val (.int lo), .val (.int hi), .unset, .unset, .unset, .unset, .unset] [(.int (127 : Int32)), (.int pr)])) _
    refine XS.iand X3.here hx rfl (hb hby at_33) rfl ?_
    show Steps p.tables e below (T3.setTop (mkF m 34 #[.val (.int pp), .val (.int pq), .val (.int pr), .val (.int px), .val (.int pm), .val (.int (pp &&& (127 : Int32))), .val (.int (pq &&& (127 : Int32))), .val (.int lo), .val (.int hi), .unset, .unset, .unset, .unset, .unset] [(.int (pr &&& (127 : Int32)))])) _
    refine XS.istore X3.here hx rfl (hb hby at_34) rfl (l' := #[.val (.int pp), .val (.int pq), .val (.int pr), .val (.int px), .val (.int pm), .val (.int (pp &&& (127 : Int32))), .val (.int (pq &&& (127 : Int32))), .val (.int lo), .val (.int hi), .val (.int (pr &&& (127 : Int32))), .unset, .unset, .unset, .unset]) rfl ?_
    show Steps p.tables e below (T3.setTop (mkF m 36 #[.val (.int pp), .val (.int pq), .val (.int pr), .val (.int px), .val (.int pm), .val (.int (pp &&& (127 : Int32))), .val (.int (pq &&& (127 : Int32))), .val (.int lo), .val (.int hi), .val (.int (pr &&& (127 : Int32))), .unset, .unset, .unset, .unset] [])) _
    exact kt
  obtain ⟨sg, h_sg⟩ : ∃ z : Int32, z = (pr &&& (127 : Int32)) := ⟨_, rfl⟩
  rw [← h_sg] at pre5
  have hmm := own_mm _ _ (own_127 pp) (own_127 pq)
  rw [← h_lo, ← h_hi] at hmm
  obtain ⟨l0, l1, l2⟩ := hmm
  have s01 := own_127 pr
  rw [← h_sg] at s01
  obtain ⟨s0, s1⟩ := s01
  obtain ⟨T6, h6, k6, X6, e6, E6, A6, st6⟩ := newP X3 hx hZ (hw _ (List.mem_of_getElem? (i := 7) rfl)) e3 (g := (mkF m 37 #[.val (.int pp), .val (.int pq), .val (.int pr), .val (.int px), .val (.int pm), .val (.int (pp &&& (127 : Int32))), .val (.int (pq &&& (127 : Int32))), .val (.int lo), .val (.int hi), .val (.int sg), .unset, .unset, .unset, .unset] [(.int (4 : Int32))])) rfl (hb hby at_37) rfl (by decide) (cap := 4) (by decide) (by decide) (by decide) (by decide)
  obtain ⟨b6, g6⟩ : ∃ z, z = h0.size := ⟨_, rfl⟩
  rw [← g6] at A6 st6
  have g_b6 : n0 ≤ b6 := Nat.le_trans Z0 (Nat.le_of_eq g6.symm)
  have sz_b6 : h0.size ≤ b6 := Nat.le_trans (Keep.refl h0 []).1 (Nat.le_of_eq g6.symm)
  have Kc6 : Keep h0 h6 [] := (Keep.refl h0 []).ext E6
  have Oc6 := O.ext E6
  have V_b6 : Arv Z h6 b6 k6 .char (4 : Int32) [(.int (0 : Int32)), (.int (0 : Int32)), (.int (0 : Int32)), (.int (0 : Int32))] (.int (0 : Int32)) := (Arv.new A6 (by decide)).pad (pad_rep [] (.int (0 : Int32)) 4)
  obtain ⟨cl7, Ar7, qc7, Sz7, Ng7, Hs7, Gs7⟩ := (id V_b6)
  have hin7 : ¬ ((0 : Int32) < 0 ∨ cl7.slots.size ≤ ((0 : Int32)).toNatClampNeg) := inb_of Sz7 ⟨by decide, by decide⟩
  obtain ⟨T8, h8, X8, e8, W8, st8⟩ := stC X6 hx hZ e6 Ar7 (j := (0 : Int32)) hin7 (g := (mkF m 44 #[.val (.int pp), .val (.int pq), .val (.int pr), .val (.int px), .val (.int pm), .val (.int (pp &&& (127 : Int32))), .val (.int (pq &&& (127 : Int32))), .val (.int lo), .val (.int hi), .val (.int sg), .unset, .unset, .unset, .unset] [(.int (lo.toUInt32.toUInt16.toUInt32.toInt32)), (.int (0 : Int32)), (.ref b6), (.ref b6)])) rfl rfl (hb hby at_44)
  rw [own_c l0 (by omega), own_nc l0 (by omega)] at W8
  have Kc8 : Keep h0 h8 [] := Kc6.wr W8 (Or.inr sz_b6)
  have Oc8 := Oc6.wr W8 g_b6
  have N8 := Fr.snoc X8 N3 g_b6
  have V8 : Arv Z h8 b6 k6 .char (4 : Int32) [(.int lo), (.int (0 : Int32)), (.int (0 : Int32)), (.int (0 : Int32))] (.int (0 : Int32)) := Arv.set Ar7 qc7 Sz7 Ng7 Hs7 Gs7 (by rw [← own_nc (z := lo) l0 (by omega)]; exact fits_nar_char _) W8 0 rfl (Nat.le_of_ble_eq_true rfl)
  obtain ⟨cl9, Ar9, qc9, Sz9, Ng9, Hs9, Gs9⟩ := (id V8)
  have hin9 : ¬ ((1 : Int32) < 0 ∨ cl9.slots.size ≤ ((1 : Int32)).toNatClampNeg) := inb_of Sz9 ⟨by decide, by decide⟩
  obtain ⟨T10, h10, X10, e10, W10, st10⟩ := stC X8 hx hZ e8 Ar9 (j := (1 : Int32)) hin9 (g := (mkF m 49 #[.val (.int pp), .val (.int pq), .val (.int pr), .val (.int px), .val (.int pm), .val (.int (pp &&& (127 : Int32))), .val (.int (pq &&& (127 : Int32))), .val (.int lo), .val (.int hi), .val (.int sg), .unset, .unset, .unset, .unset] [(.int (45 : Int32)), (.int (1 : Int32)), (.ref b6), (.ref b6)])) rfl rfl (hb hby at_49)
  have Kc10 : Keep h0 h10 [] := Kc8.wr W10 (Or.inr sz_b6)
  have Oc10 := Oc8.wr W10 g_b6
  have N10 := Fr.snoc X10 N8 g_b6
  have V10 : Arv Z h10 b6 k6 .char (4 : Int32) [(.int lo), (.int (45 : Int32)), (.int (0 : Int32)), (.int (0 : Int32))] (.int (0 : Int32)) := Arv.set Ar9 qc9 Sz9 Ng9 Hs9 Gs9 (fits_nar_char (45 : Int32)) W10 1 rfl (Nat.le_of_ble_eq_true rfl)
  obtain ⟨cl11, Ar11, qc11, Sz11, Ng11, Hs11, Gs11⟩ := (id V10)
  have hin11 : ¬ ((2 : Int32) < 0 ∨ cl11.slots.size ≤ ((2 : Int32)).toNatClampNeg) := inb_of Sz11 ⟨by decide, by decide⟩
  obtain ⟨T12, h12, X12, e12, W12, st12⟩ := stC X10 hx hZ e10 Ar11 (j := (2 : Int32)) hin11 (g := (mkF m 55 #[.val (.int pp), .val (.int pq), .val (.int pr), .val (.int px), .val (.int pm), .val (.int (pp &&& (127 : Int32))), .val (.int (pq &&& (127 : Int32))), .val (.int lo), .val (.int hi), .val (.int sg), .unset, .unset, .unset, .unset] [(.int (hi.toUInt32.toUInt16.toUInt32.toInt32)), (.int (2 : Int32)), (.ref b6), (.ref b6)])) rfl rfl (hb hby at_55)
  rw [own_c (by omega) l2, own_nc (by omega) l2] at W12
  have Kc12 : Keep h0 h12 [] := Kc10.wr W12 (Or.inr sz_b6)
  have Oc12 := Oc10.wr W12 g_b6
  have N12 := Fr.snoc X12 N10 g_b6
  have V12 : Arv Z h12 b6 k6 .char (4 : Int32) [(.int lo), (.int (45 : Int32)), (.int hi), (.int (0 : Int32))] (.int (0 : Int32)) := Arv.set Ar11 qc11 Sz11 Ng11 Hs11 Gs11 (by rw [← own_nc (z := hi) (by omega) l2]; exact fits_nar_char _) W12 2 rfl (Nat.le_of_ble_eq_true rfl)
  obtain ⟨cl13, Ar13, qc13, Sz13, Ng13, Hs13, Gs13⟩ := (id V12)
  have hin13 : ¬ ((3 : Int32) < 0 ∨ cl13.slots.size ≤ ((3 : Int32)).toNatClampNeg) := inb_of Sz13 ⟨by decide, by decide⟩
  obtain ⟨T14, h14, X14, e14, W14, st14⟩ := stC X12 hx hZ e12 Ar13 (j := (3 : Int32)) hin13 (g := (mkF m 61 #[.val (.int pp), .val (.int pq), .val (.int pr), .val (.int px), .val (.int pm), .val (.int (pp &&& (127 : Int32))), .val (.int (pq &&& (127 : Int32))), .val (.int lo), .val (.int hi), .val (.int sg), .unset, .unset, .unset, .unset] [(.int (sg.toUInt32.toUInt16.toUInt32.toInt32)), (.int (3 : Int32)), (.ref b6), (.ref b6)])) rfl rfl (hb hby at_61)
  rw [own_c s0 s1, own_nc s0 s1] at W14
  have Kc14 : Keep h0 h14 [] := Kc12.wr W14 (Or.inr sz_b6)
  have Oc14 := Oc12.wr W14 g_b6
  have N14 := Fr.snoc X14 N12 g_b6
  have V14 : Arv Z h14 b6 k6 .char (4 : Int32) [(.int lo), (.int (45 : Int32)), (.int hi), (.int sg)] (.int (0 : Int32)) := Arv.set Ar13 qc13 Sz13 Ng13 Hs13 Gs13 (by rw [← own_nc (z := sg) s0 s1]; exact fits_nar_char _) W14 3 rfl (Nat.le_of_ble_eq_true rfl)
  obtain ⟨T15, h15, X15, e15, E15, A15, D15, -, st15⟩ := newO X14 hx hZ hown (hw _ (List.mem_of_getElem? (i := 8) rfl)) (hw _ (List.mem_of_getElem? (i := 9) rfl)) (hw _ (List.mem_of_getElem? (i := 10) rfl)) e14 (g := (mkF m 64 #[.val (.int pp), .val (.int pq), .val (.int pr), .val (.int px), .val (.int pm), .val (.int (pp &&& (127 : Int32))), .val (.int (pq &&& (127 : Int32))), .val (.int lo), .val (.int hi), .val (.int sg), .val (.ref b6), .unset, .unset, .unset] [])) rfl (hb hby at_64) (by decide) (by decide)
  obtain ⟨b15, g15⟩ : ∃ z, z = h14.size := ⟨_, rfl⟩
  rw [← g15] at A15 D15 st15
  have g_b15 : n0 ≤ b15 := Nat.le_trans (Nat.le_trans Z0 Kc14.1) (Nat.le_of_eq g15.symm)
  have sz_b15 : h0.size ≤ b15 := Nat.le_trans Kc14.1 (Nat.le_of_eq g15.symm)
  have ne_b6_b15 : b6 ≠ b15 := Nat.ne_of_lt (Nat.lt_of_lt_of_le V14.lt (Nat.le_of_eq g15.symm))
  have Kc15 : Keep h0 h15 [] := Kc14.ext E15
  have Oc15 := Oc14.ext E15
  have F_members_b15 : Fld Z h15 b15 "com/example/attestrail/attestrail/event/AsciiClass" "members" "[Z" .null := D15 (Or.inr (hw _ (List.mem_of_getElem? (i := 46) rfl))) (ty := (.array .boolean)) (by decide)
  obtain ⟨T16, h16, X16, e16, E16, A16, D16, -, st16⟩ := newO X15 hx hZ hown (hw _ (List.mem_of_getElem? (i := 11) rfl)) (hw _ (List.mem_of_getElem? (i := 12) rfl)) (hw _ (List.mem_of_getElem? (i := 13) rfl)) e15 (g := (mkF m 68 #[.val (.int pp), .val (.int pq), .val (.int pr), .val (.int px), .val (.int pm), .val (.int (pp &&& (127 : Int32))), .val (.int (pq &&& (127 : Int32))), .val (.int lo), .val (.int hi), .val (.int sg), .val (.ref b6), .unset, .unset, .unset] [(.ref b15), (.ref b15)])) rfl (hb hby at_68) (by decide) (by decide)
  obtain ⟨b16, g16⟩ : ∃ z, z = h15.size := ⟨_, rfl⟩
  rw [← g16] at A16 D16 st16
  have g_b16 : n0 ≤ b16 := Nat.le_trans (Nat.le_trans Z0 Kc15.1) (Nat.le_of_eq g16.symm)
  have sz_b16 : h0.size ≤ b16 := Nat.le_trans Kc15.1 (Nat.le_of_eq g16.symm)
  have ne_b6_b16 : b6 ≠ b16 := Nat.ne_of_lt (Nat.lt_of_lt_of_le (V14.ext E15).lt (Nat.le_of_eq g16.symm))
  have ne_b15_b16 : b15 ≠ b16 := Nat.ne_of_lt (Nat.lt_of_lt_of_le A15.lt (Nat.le_of_eq g16.symm))
  have Kc16 : Keep h0 h16 [] := Kc15.ext E16
  have Oc16 := Oc15.ext E16
  have F_coder_b16 : Fld Z h16 b16 "java/lang/String" "coder" "B" (.int (0 : Int32)) := D16 (Or.inr (hw _ (List.mem_of_getElem? (i := 37) rfl))) (ty := .byte) (by decide)
  have F_value_b16 : Fld Z h16 b16 "java/lang/String" "value" "[B" .null := D16 (Or.inr (hw _ (List.mem_of_getElem? (i := 39) rfl))) (ty := (.array .byte)) (by decide)
  have hp : ∀ c ∈ ([lo, (45 : Int32), hi, sg] : List Int32), ¬ c < 0 ∧ ¬ (255 : Int32) < c := by
    intro c hc
    simp only [List.mem_cons, List.not_mem_nil, or_false] at hc
    simp only [Int32.lt_iff_toInt_lt, show (0 : Int32).toInt = 0 from rfl, show (255 : Int32).toInt = 255 from rfl]
    rcases hc with rfl | rfl | rfl | rfl
    · omega
    · decide
    · omega
    · omega
  obtain ⟨_, _, ⟨T17, L17, k17, n17⟩, -, X17, ⟨Lc17, hQ17, l17, y17, z17⟩, st17⟩ := X16.specialBack hx (y := (⟨"java/lang/String", "<init>", "([C)V"⟩ : MethodName)) rfl hown (mvT hZ (hw _ (List.mem_of_getElem? (i := 14) rfl))) (mvT hZ (hw _ (List.mem_of_getElem? (i := 15) rfl))) (mvT hZ (hw _ (List.mem_of_getElem? (i := 16) rfl))) (by decide) (StrChars.Road.backV (W := 3) hZ hws (kI := 4) (hw _ (List.mem_of_getElem? (i := 12) rfl)) (cs := ([lo, (45 : Int32), hi, sg] : List Int32)) (bs := ([lo, (45 : Int32), hi, sg] : List Int32).map (fun c => c.toInt8.toInt32)) (n := 4) g_b16 (Nat.le_trans Z0 Kc16.1) A16 F_value_b16 F_coder_b16 ((V14.ext E15).ext E16) (S_c.ext Oc16.2) hzc rfl rfl (by decide) (by decide) hp rfl (by decide) (by decide)) (g := (mkF m 74 #[.val (.int pp), .val (.int pq), .val (.int pr), .val (.int px), .val (.int pm), .val (.int (pp &&& (127 : Int32))), .val (.int (pq &&& (127 : Int32))), .val (.int lo), .val (.int hi), .val (.int sg), .val (.ref b6), .unset, .unset, .unset] [(.ref b6), (.ref b16), (.ref b16), (.ref b15), (.ref b15)])) rfl (by rw [hml]; rfl) (Steps.refl _) (a := b16) (argsL := [(.ref b6)]) (rest := [(.ref b16), (.ref b15), (.ref b15)]) (lenOf pd_3 rfl) rfl (by show 2 * 0 + _ ≤ _; exact Nat.le_of_eq rfl) (hb hby at_74) (fun _ _ => ⟨rfl, e16, (by decide : 3 + 1 ≤ _), (by decide : 9 + 4 ≤ _)⟩)
  dsimp only [Pt.U, Pt.locs, Pt.cells, Pt.slots] at X17 l17 y17 z17 st17 hQ17
  subst l17 y17 z17
  obtain ⟨rfl, N17q, K17, A17c, Cc17, ts, ks, u17, v17, w17, Vv17, Kk17⟩ := hQ17
  have N17 := Fr.app N14 N17q
  have Kc17 : Keep h0 T17.heap [] := Kc16.trans K17 (allS (Or.inr sz_b16) all0)
  have Oc17 := Oc16.keep K17 (allS g_b16 all0)
  obtain ⟨_, _, ⟨T18, L18, k18, n18⟩, -, X18, ⟨Lc18, hQ18, l18, y18, z18⟩, st18⟩ := X17.specialBack hx (y := (⟨"com/example/attestrail/attestrail/event/AsciiClass", "<init>", "(Ljava/lang/String;)V"⟩ : MethodName)) rfl hown (mvT hZ (hw _ (List.mem_of_getElem? (i := 40) rfl))) (mvT hZ (hw _ (List.mem_of_getElem? (i := 41) rfl))) (mvT hZ (hw _ (List.mem_of_getElem? (i := 42) rfl))) (by decide) (backOf (W := 1) (rm9 l Z a0 hw [] b15 b16 ts ks lo hi sg zc fm T17.heap n0 (Nat.le_trans Z0 Kc17.1) Oc17 ((A15.ext E16).keep K17) g_b15 ((F_members_b15.ext E16).keep K17 (ninS ne_b15_b16 nin0)) A17c Vv17 Cc17 Kk17 (Ne.symm ne_b15_b16) (Nat.ne_of_gt (Nat.lt_of_lt_of_le (A15.ext E16).lt v17)) S_c hzc S_f rfm l0 (by omega) (by omega) l2 s0 s1 l1) hZ (hw _ (List.mem_of_getElem? (i := 42) rfl)) (hw _ (List.mem_of_getElem? (i := 10) rfl)) (by decide) (by decide)) (g := (mkF m 77 #[.val (.int pp), .val (.int pq), .val (.int pr), .val (.int px), .val (.int pm), .val (.int (pp &&& (127 : Int32))), .val (.int (pq &&& (127 : Int32))), .val (.int lo), .val (.int hi), .val (.int sg), .val (.ref b6), .unset, .unset, .unset] [(.ref b16), (.ref b15), (.ref b15)])) rfl (by rw [hml]; rfl) (Steps.refl _) (a := b15) (argsL := [(.ref b16)]) (rest := [(.ref b15)]) (lenOf pd_4 rfl) rfl (by show 2 * 0 + _ ≤ _; exact Nat.le_of_eq rfl) (hb hby at_77) (fun _ _ => ⟨rfl, rfl, (by decide : 4 + 1 ≤ _), (by decide : 13 + 128 ≤ _)⟩)
  dsimp only [Pt.U, Pt.locs, Pt.cells, Pt.slots] at X18 l18 y18 z18 st18 hQ18
  subst l18 y18 z18
  obtain ⟨ar, fa, rfl, N18q, K18, A18c, Fm18, gar, Va18, hfa⟩ := hQ18
  have N18 := Fr.app N17 N18q
  have Kc18 : Keep h0 T18.heap [] := Kc17.trans K18 (allS (Or.inr sz_b15) all0)
  have Oc18 := Oc17.keep K18 (allS g_b15 all0)
  have pre19 : ∀ t, Steps p.tables e below (T18.setTop (mkF m 86 #[.val (.int pp), .val (.int pq), .val (.int pr), .val (.int px), .val (.int pm), .val (.int (pp &&& (127 : Int32))), .val (.int (pq &&& (127 : Int32))), .val (.int lo), .val (.int hi), .val (.int sg), .val (.ref b6), .val (.ref b15), .unset, .unset] [(.int (pm &&& (1 : Int32)))])) t → Steps p.tables e below (s₁.setTop (entryFrame m #[(.int pp), (.int pq), (.int pr), (.int px), (.int pm)] maxLocals)) t := by
    intro t kt
    refine pre5 t ?_
    show Steps p.tables e below (T3.setTop (mkF m 36 #[.val (.int pp), .val (.int pq), .val (.int pr), .val (.int px), .val (.int pm), .val (.int (pp &&& (127 : Int32))), .val (.int (pq &&& (127 : Int32))), .val (.int lo), .val (.int hi), .val (.int sg), .unset, .unset, .unset, .unset] [])) _
    refine XS.iconst X3.here hx rfl (hb hby at_36) ?_
    show Steps p.tables e below (T3.setTop (mkF m 37 #[.val (.int pp), .val (.int pq), .val (.int pr), .val (.int px), .val (.int pm), .val (.int (pp &&& (127 : Int32))), .val (.int (pq &&& (127 : Int32))), .val (.int lo), .val (.int hi), .val (.int sg), .unset, .unset, .unset, .unset] [(.int (4 : Int32))])) _
    refine st6 _ ?_
    show Steps p.tables e below (T6.setTop (mkF m 39 #[.val (.int pp), .val (.int pq), .val (.int pr), .val (.int px), .val (.int pm), .val (.int (pp &&& (127 : Int32))), .val (.int (pq &&& (127 : Int32))), .val (.int lo), .val (.int hi), .val (.int sg), .unset, .unset, .unset, .unset] [(.ref b6)])) _
    refine XS.dup X6.here hx rfl (hb hby at_39) rfl rfl ?_
    show Steps p.tables e below (T6.setTop (mkF m 40 #[.val (.int pp), .val (.int pq), .val (.int pr), .val (.int px), .val (.int pm), .val (.int (pp &&& (127 : Int32))), .val (.int (pq &&& (127 : Int32))), .val (.int lo), .val (.int hi), .val (.int sg), .unset, .unset, .unset, .unset] [(.ref b6), (.ref b6)])) _
    refine XS.iconst X6.here hx rfl (hb hby at_40) ?_
    show Steps p.tables e below (T6.setTop (mkF m 41 #[.val (.int pp), .val (.int pq), .val (.int pr), .val (.int px), .val (.int pm), .val (.int (pp &&& (127 : Int32))), .val (.int (pq &&& (127 : Int32))), .val (.int lo), .val (.int hi), .val (.int sg), .unset, .unset, .unset, .unset] [(.int (0 : Int32)), (.ref b6), (.ref b6)])) _
    refine XS.iload X6.here hx rfl (hb hby at_41) rfl ?_
    show Steps p.tables e below (T6.setTop (mkF m 43 #[.val (.int pp), .val (.int pq), .val (.int pr), .val (.int px), .val (.int pm), .val (.int (pp &&& (127 : Int32))), .val (.int (pq &&& (127 : Int32))), .val (.int lo), .val (.int hi), .val (.int sg), .unset, .unset, .unset, .unset] [(.int lo), (.int (0 : Int32)), (.ref b6), (.ref b6)])) _
    refine XS.i2c X6.here hx rfl (hb hby at_43) rfl ?_
    show Steps p.tables e below (T6.setTop (mkF m 44 #[.val (.int pp), .val (.int pq), .val (.int pr), .val (.int px), .val (.int pm), .val (.int (pp &&& (127 : Int32))), .val (.int (pq &&& (127 : Int32))), .val (.int lo), .val (.int hi), .val (.int sg), .unset, .unset, .unset, .unset] [(.int (lo.toUInt32.toUInt16.toUInt32.toInt32)), (.int (0 : Int32)), (.ref b6), (.ref b6)])) _
    refine st8 _ ?_
    show Steps p.tables e below (T8.setTop (mkF m 45 #[.val (.int pp), .val (.int pq), .val (.int pr), .val (.int px), .val (.int pm), .val (.int (pp &&& (127 : Int32))), .val (.int (pq &&& (127 : Int32))), .val (.int lo), .val (.int hi), .val (.int sg), .unset, .unset, .unset, .unset] [(.ref b6)])) _
    refine XS.dup X8.here hx rfl (hb hby at_45) rfl rfl ?_
    show Steps p.tables e below (T8.setTop (mkF m 46 #[.val (.int pp), .val (.int pq), .val (.int pr), .val (.int px), .val (.int pm), .val (.int (pp &&& (127 : Int32))), .val (.int (pq &&& (127 : Int32))), .val (.int lo), .val (.int hi), .val (.int sg), .unset, .unset, .unset, .unset] [(.ref b6), (.ref b6)])) _
    refine XS.iconst X8.here hx rfl (hb hby at_46) ?_
    show Steps p.tables e below (T8.setTop (mkF m 47 #[.val (.int pp), .val (.int pq), .val (.int pr), .val (.int px), .val (.int pm), .val (.int (pp &&& (127 : Int32))), .val (.int (pq &&& (127 : Int32))), .val (.int lo), .val (.int hi), .val (.int sg), .unset, .unset, .unset, .unset] [(.int (1 : Int32)), (.ref b6), (.ref b6)])) _
    refine XS.bipush X8.here hx rfl (hb hby at_47) ?_
    show Steps p.tables e below (T8.setTop (mkF m 49 #[.val (.int pp), .val (.int pq), .val (.int pr), .val (.int px), .val (.int pm), .val (.int (pp &&& (127 : Int32))), .val (.int (pq &&& (127 : Int32))), .val (.int lo), .val (.int hi), .val (.int sg), .unset, .unset, .unset, .unset] [(.int (45 : Int32)), (.int (1 : Int32)), (.ref b6), (.ref b6)])) _
    refine st10 _ ?_
    show Steps p.tables e below (T10.setTop (mkF m 50 #[.val (.int pp), .val (.int pq), .val (.int pr), .val (.int px), .val (.int pm), .val (.int (pp &&& (127 : Int32))), .val (.int (pq &&& (127 : Int32))), .val (.int lo), .val (.int hi), .val (.int sg), .unset, .unset, .unset, .unset] [(.ref b6)])) _
    refine XS.dup X10.here hx rfl (hb hby at_50) rfl rfl ?_
    show Steps p.tables e below (T10.setTop (mkF m 51 #[.val (.int pp), .val (.int pq), .val (.int pr), .val (.int px), .val (.int pm), .val (.int (pp &&& (127 : Int32))), .val (.int (pq &&& (127 : Int32))), .val (.int lo), .val (.int hi), .val (.int sg), .unset, .unset, .unset, .unset] [(.ref b6), (.ref b6)])) _
    refine XS.iconst X10.here hx rfl (hb hby at_51) ?_
    show Steps p.tables e below (T10.setTop (mkF m 52 #[.val (.int pp), .val (.int pq), .val (.int pr), .val (.int px), .val (.int pm), .val (.int (pp &&& (127 : Int32))), .val (.int (pq &&& (127 : Int32))), .val (.int lo), .val (.int hi), .val (.int sg), .unset, .unset, .unset, .unset] [(.int (2 : Int32)), (.ref b6), (.ref b6)])) _
    refine XS.iload X10.here hx rfl (hb hby at_52) rfl ?_
    show Steps p.tables e below (T10.setTop (mkF m 54 #[.val (.int pp), .val (.int pq), .val (.int pr), .val (.int px), .val (.int pm), .val (.int (pp &&& (127 : Int32))), .val (.int (pq &&& (127 : Int32))), .val (.int lo), .val (.int hi), .val (.int sg), .unset, .unset, .unset, .unset] [(.int hi), (.int (2 : Int32)), (.ref b6), (.ref b6)])) _
    refine XS.i2c X10.here hx rfl (hb hby at_54) rfl ?_
    show Steps p.tables e below (T10.setTop (mkF m 55 #[.val (.int pp), .val (.int pq), .val (.int pr), .val (.int px), .val (.int pm), .val (.int (pp &&& (127 : Int32))), .val (.int (pq &&& (127 : Int32))), .val (.int lo), .val (.int hi), .val (.int sg), .unset, .unset, .unset, .unset] [(.int (hi.toUInt32.toUInt16.toUInt32.toInt32)), (.int (2 : Int32)), (.ref b6), (.ref b6)])) _
    refine st12 _ ?_
    show Steps p.tables e below (T12.setTop (mkF m 56 #[.val (.int pp), .val (.int pq), .val (.int pr), .val (.int px), .val (.int pm), .val (.int (pp &&& (127 : Int32))), .val (.int (pq &&& (127 : Int32))), .val (.int lo), .val (.int hi), .val (.int sg), .unset, .unset, .unset, .unset] [(.ref b6)])) _
    refine XS.dup X12.here hx rfl (hb hby at_56) rfl rfl ?_
    show Steps p.tables e below (T12.setTop (mkF m 57 #[.val (.int pp), .val (.int pq), .val (.int pr), .val (.int px), .val (.int pm), .val (.int (pp &&& (127 : Int32))), .val (.int (pq &&& (127 : Int32))), .val (.int lo), .val (.int hi), .val (.int sg), .unset, .unset, .unset, .unset] [(.ref b6), (.ref b6)])) _
    refine XS.iconst X12.here hx rfl (hb hby at_57) ?_
    show Steps p.tables e below (T12.setTop (mkF m 58 #[.val (.int pp), .val (.int pq), .val (.int pr), .val (.int px), .val (.int pm), .val (.int (pp &&& (127 : Int32))), .val (.int (pq &&& (127 : Int32))), .val (.int lo), .val (.int hi), .val (.int sg), .unset, .unset, .unset, .unset] [(.int (3 : Int32)), (.ref b6), (.ref b6)])) _
    refine XS.iload X12.here hx rfl (hb hby at_58) rfl ?_
    show Steps p.tables e below (T12.setTop (mkF m 60 #[.val (.int pp), .val (.int pq), .val (.int pr), .val (.int px), .val (.int pm), .val (.int (pp &&& (127 : Int32))), .val (.int (pq &&& (127 : Int32))), .val (.int lo), .val (.int hi), .val (.int sg), .unset, .unset, .unset, .unset] [(.int sg), (.int (3 : Int32)), (.ref b6), (.ref b6)])) _
    refine XS.i2c X12.here hx rfl (hb hby at_60) rfl ?_
    show Steps p.tables e below (T12.setTop (mkF m 61 #[.val (.int pp), .val (.int pq), .val (.int pr), .val (.int px), .val (.int pm), .val (.int (pp &&& (127 : Int32))), .val (.int (pq &&& (127 : Int32))), .val (.int lo), .val (.int hi), .val (.int sg), .unset, .unset, .unset, .unset] [(.int (sg.toUInt32.toUInt16.toUInt32.toInt32)), (.int (3 : Int32)), (.ref b6), (.ref b6)])) _
    refine st14 _ ?_
    show Steps p.tables e below (T14.setTop (mkF m 62 #[.val (.int pp), .val (.int pq), .val (.int pr), .val (.int px), .val (.int pm), .val (.int (pp &&& (127 : Int32))), .val (.int (pq &&& (127 : Int32))), .val (.int lo), .val (.int hi), .val (.int sg), .unset, .unset, .unset, .unset] [(.ref b6)])) _
    refine XS.astore X14.here hx rfl (hb hby at_62) rfl rfl (l' := #[.val (.int pp), .val (.int pq), .val (.int pr), .val (.int px), .val (.int pm), .val (.int (pp &&& (127 : Int32))), .val (.int (pq &&& (127 : Int32))), .val (.int lo), .val (.int hi), .val (.int sg), .val (.ref b6), .unset, .unset, .unset]) rfl ?_
    show Steps p.tables e below (T14.setTop (mkF m 64 #[.val (.int pp), .val (.int pq), .val (.int pr), .val (.int px), .val (.int pm), .val (.int (pp &&& (127 : Int32))), .val (.int (pq &&& (127 : Int32))), .val (.int lo), .val (.int hi), .val (.int sg), .val (.ref b6), .unset, .unset, .unset] [])) _
    refine st15 _ ?_
    show Steps p.tables e below (T15.setTop (mkF m 67 #[.val (.int pp), .val (.int pq), .val (.int pr), .val (.int px), .val (.int pm), .val (.int (pp &&& (127 : Int32))), .val (.int (pq &&& (127 : Int32))), .val (.int lo), .val (.int hi), .val (.int sg), .val (.ref b6), .unset, .unset, .unset] [(.ref b15)])) _
    refine XS.dup X15.here hx rfl (hb hby at_67) rfl rfl ?_
    show Steps p.tables e below (T15.setTop (mkF m 68 #[.val (.int pp), .val (.int pq), .val (.int pr), .val (.int px), .val (.int pm), .val (.int (pp &&& (127 : Int32))), .val (.int (pq &&& (127 : Int32))), .val (.int lo), .val (.int hi), .val (.int sg), .val (.ref b6), .unset, .unset, .unset] [(.ref b15), (.ref b15)])) _
    refine st16 _ ?_
    show Steps p.tables e below (T16.setTop (mkF m 71 #[.val (.int pp), .val (.int pq), .val (.int pr), .val (.int px), .val (.int pm), .val (.int (pp &&& (127 : Int32))), .val (.int (pq &&& (127 : Int32))), .val (.int lo), .val (.int hi), .val (.int sg), .val (.ref b6), .unset, .unset, .unset] [(.ref b16), (.ref b15), (.ref b15)])) _
    refine XS.dup X16.here hx rfl (hb hby at_71) rfl rfl ?_
    show Steps p.tables e below (T16.setTop (mkF m 72 #[.val (.int pp), .val (.int pq), .val (.int pr), .val (.int px), .val (.int pm), .val (.int (pp &&& (127 : Int32))), .val (.int (pq &&& (127 : Int32))), .val (.int lo), .val (.int hi), .val (.int sg), .val (.ref b6), .unset, .unset, .unset] [(.ref b16), (.ref b16), (.ref b15), (.ref b15)])) _
    refine XS.aload X16.here hx rfl (hb hby at_72) rfl rfl ?_
    show Steps p.tables e below (T16.setTop (mkF m 74 #[.val (.int pp), .val (.int pq), .val (.int pr), .val (.int px), .val (.int pm), .val (.int (pp &&& (127 : Int32))), .val (.int (pq &&& (127 : Int32))), .val (.int lo), .val (.int hi), .val (.int sg), .val (.ref b6), .unset, .unset, .unset] [(.ref b6), (.ref b16), (.ref b16), (.ref b15), (.ref b15)])) _
    refine st17.trans ?_
    show Steps p.tables e below (T17.setTop (mkF m 77 #[.val (.int pp), .val (.int pq), .val (.int pr), .val (.int px), .val (.int pm), .val (.int (pp &&& (127 : Int32))), .val (.int (pq &&& (127 : Int32))), .val (.int lo), .val (.int hi), .val (.int sg), .val (.ref b6), .unset, .unset, .unset] [(.ref b16), (.ref b15), (.ref b15)])) _
    refine st18.trans ?_
    show Steps p.tables e below (T18.setTop (mkF m 80 #[.val (.int pp), .val (.int pq), .val (.int pr), .val (.int px), .val (.int pm), .val (.int (pp &&& (127 : Int32))), .val (.int (pq &&& (127 : Int32))), .val (.int lo), .val (.int hi), .val (.int sg), .val (.ref b6), .unset, .unset, .unset] [(.ref b15)])) _
    refine XS.astore X18.here hx rfl (hb hby at_80) rfl rfl (l' := #[.val (.int pp), .val (.int pq), .val (.int pr), .val (.int px), .val (.int pm), .val (.int (pp &&& (127 : Int32))), .val (.int (pq &&& (127 : Int32))), .val (.int lo), .val (.int hi), .val (.int sg), .val (.ref b6), .val (.ref b15), .unset, .unset]) rfl ?_
    show Steps p.tables e below (T18.setTop (mkF m 82 #[.val (.int pp), .val (.int pq), .val (.int pr), .val (.int px), .val (.int pm), .val (.int (pp &&& (127 : Int32))), .val (.int (pq &&& (127 : Int32))), .val (.int lo), .val (.int hi), .val (.int sg), .val (.ref b6), .val (.ref b15), .unset, .unset] [])) _
    refine XS.iload X18.here hx rfl (hb hby at_82) rfl ?_
    show Steps p.tables e below (T18.setTop (mkF m 84 #[.val (.int pp), .val (.int pq), .val (.int pr), .val (.int px), .val (.int pm), .val (.int (pp &&& (127 : Int32))), .val (.int (pq &&& (127 : Int32))), .val (.int lo), .val (.int hi), .val (.int sg), .val (.ref b6), .val (.ref b15), .unset, .unset] [(.int pm)])) _
    refine XS.iconst X18.here hx rfl (hb hby at_84) ?_
    show Steps p.tables e below (T18.setTop (mkF m 85 #[.val (.int pp), .val (.int pq), .val (.int pr), .val (.int px), .val (.int pm), .val (.int (pp &&& (127 : Int32))), .val (.int (pq &&& (127 : Int32))), .val (.int lo), .val (.int hi), .val (.int sg), .val (.ref b6), .val (.ref b15), .unset, .unset] [(.int (1 : Int32)), (.int pm)])) _
    refine XS.iand X18.here hx rfl (hb hby at_85) rfl ?_
    show Steps p.tables e below (T18.setTop (mkF m 86 #[.val (.int pp), .val (.int pq), .val (.int pr), .val (.int px), .val (.int pm), .val (.int (pp &&& (127 : Int32))), .val (.int (pq &&& (127 : Int32))), .val (.int lo), .val (.int hi), .val (.int sg), .val (.ref b6), .val (.ref b15), .unset, .unset] [(.int (pm &&& (1 : Int32)))])) _
    exact kt
  obtain ⟨cx, hv_cx, pre20⟩ : ∃ cx : Int32, cx = (if (pm &&& (1 : Int32)) = (0 : Int32) then (px.toUInt32.toUInt16.toUInt32.toInt32) else ((px &&& (127 : Int32)).toUInt32.toUInt16.toUInt32.toInt32)) ∧ ∀ t, Steps p.tables e below (T18.setTop (mkF m 103 #[.val (.int pp), .val (.int pq), .val (.int pr), .val (.int px), .val (.int pm), .val (.int (pp &&& (127 : Int32))), .val (.int (pq &&& (127 : Int32))), .val (.int lo), .val (.int hi), .val (.int sg), .val (.ref b6), .val (.ref b15), .val (.int cx), .unset] [])) t → Steps p.tables e below (s₁.setTop (entryFrame m #[(.int pp), (.int pq), (.int pr), (.int px), (.int pm)] maxLocals)) t := by
    by_cases hc86_21 : (pm &&& (1 : Int32)) = (0 : Int32)
    · have pre22 : ∀ t, Steps p.tables e below (T18.setTop (mkF m 103 #[.val (.int pp), .val (.int pq), .val (.int pr), .val (.int px), .val (.int pm), .val (.int (pp &&& (127 : Int32))), .val (.int (pq &&& (127 : Int32))), .val (.int lo), .val (.int hi), .val (.int sg), .val (.ref b6), .val (.ref b15), .val (.int (px.toUInt32.toUInt16.toUInt32.toInt32)), .unset] [])) t → Steps p.tables e below (s₁.setTop (entryFrame m #[(.int pp), (.int pq), (.int pr), (.int px), (.int pm)] maxLocals)) t := by
        intro t kt
        refine pre19 t ?_
        show Steps p.tables e below (T18.setTop (mkF m 86 #[.val (.int pp), .val (.int pq), .val (.int pr), .val (.int px), .val (.int pm), .val (.int (pp &&& (127 : Int32))), .val (.int (pq &&& (127 : Int32))), .val (.int lo), .val (.int hi), .val (.int sg), .val (.ref b6), .val (.ref b15), .unset, .unset] [(.int (pm &&& (1 : Int32)))])) _
        refine XS.ifYes X18.here hx rfl (pc0 := 86) (pc' := 99) rfl (hb hby at_86) rfl ((if0 _ _).trans (teq hc86_21).1) (by decide) (by decide) ?_
        show Steps p.tables e below (T18.setTop (mkF m 99 #[.val (.int pp), .val (.int pq), .val (.int pr), .val (.int px), .val (.int pm), .val (.int (pp &&& (127 : Int32))), .val (.int (pq &&& (127 : Int32))), .val (.int lo), .val (.int hi), .val (.int sg), .val (.ref b6), .val (.ref b15), .unset, .unset] [])) _
        refine XS.iloadN X18.here hx rfl (hb hby at_99) rfl ?_
        show Steps p.tables e below (T18.setTop (mkF m 100 #[.val (.int pp), .val (.int pq), .val (.int pr), .val (.int px), .val (.int pm), .val (.int (pp &&& (127 : Int32))), .val (.int (pq &&& (127 : Int32))), .val (.int lo), .val (.int hi), .val (.int sg), .val (.ref b6), .val (.ref b15), .unset, .unset] [(.int px)])) _
        refine XS.i2c X18.here hx rfl (hb hby at_100) rfl ?_
        show Steps p.tables e below (T18.setTop (mkF m 101 #[.val (.int pp), .val (.int pq), .val (.int pr), .val (.int px), .val (.int pm), .val (.int (pp &&& (127 : Int32))), .val (.int (pq &&& (127 : Int32))), .val (.int lo), .val (.int hi), .val (.int sg), .val (.ref b6), .val (.ref b15), .unset, .unset] [(.int (px.toUInt32.toUInt16.toUInt32.toInt32))])) _
        refine XS.istore X18.here hx rfl (hb hby at_101) rfl (l' := #[.val (.int pp), .val (.int pq), .val (.int pr), .val (.int px), .val (.int pm), .val (.int (pp &&& (127 : Int32))), .val (.int (pq &&& (127 : Int32))), .val (.int lo), .val (.int hi), .val (.int sg), .val (.ref b6), .val (.ref b15), .val (.int (px.toUInt32.toUInt16.toUInt32.toInt32)), .unset]) rfl ?_
        show Steps p.tables e below (T18.setTop (mkF m 103 #[.val (.int pp), .val (.int pq), .val (.int pr), .val (.int px), .val (.int pm), .val (.int (pp &&& (127 : Int32))), .val (.int (pq &&& (127 : Int32))), .val (.int lo), .val (.int hi), .val (.int sg), .val (.ref b6), .val (.ref b15), .val (.int (px.toUInt32.toUInt16.toUInt32.toInt32)), .unset] [])) _
        exact kt
      exact ⟨(px.toUInt32.toUInt16.toUInt32.toInt32), by rw [if_pos hc86_21], pre22⟩
    · have pre23 : ∀ t, Steps p.tables e below (T18.setTop (mkF m 103 #[.val (.int pp), .val (.int pq), .val (.int pr), .val (.int px), .val (.int pm), .val (.int (pp &&& (127 : Int32))), .val (.int (pq &&& (127 : Int32))), .val (.int lo), .val (.int hi), .val (.int sg), .val (.ref b6), .val (.ref b15), .val (.int ((px &&& (127 : Int32)).toUInt32.toUInt16.toUInt32.toInt32)), .unset] [])) t → Steps p.tables e below (s₁.setTop (entryFrame m #[(.int pp), (.int pq), (.int pr), (.int px), (.int pm)] maxLocals)) t := by
        intro t kt
        refine pre19 t ?_
        show Steps p.tables e below (T18.setTop (mkF m 86 #[.val (.int pp), .val (.int pq), .val (.int pr), .val (.int px), .val (.int pm), .val (.int (pp &&& (127 : Int32))), .val (.int (pq &&& (127 : Int32))), .val (.int lo), .val (.int hi), .val (.int sg), .val (.ref b6), .val (.ref b15), .unset, .unset] [(.int (pm &&& (1 : Int32)))])) _
        refine XS.ifNo X18.here hx rfl (hb hby at_86) rfl ((if0 _ _).trans (feq hc86_21).1) ?_
        show Steps p.tables e below (T18.setTop (mkF m 89 #[.val (.int pp), .val (.int pq), .val (.int pr), .val (.int px), .val (.int pm), .val (.int (pp &&& (127 : Int32))), .val (.int (pq &&& (127 : Int32))), .val (.int lo), .val (.int hi), .val (.int sg), .val (.ref b6), .val (.ref b15), .unset, .unset] [])) _
        refine XS.iloadN X18.here hx rfl (hb hby at_89) rfl ?_
        show Steps p.tables e below (T18.setTop (mkF m 90 #[.val (.int pp), .val (.int pq), .val (.int pr), .val (.int px), .val (.int pm), .val (.int (pp &&& (127 : Int32))), .val (.int (pq &&& (127 : Int32))), .val (.int lo), .val (.int hi), .val (.int sg), .val (.ref b6), .val (.ref b15), .unset, .unset] [(.int px)])) _
        refine XS.bipush X18.here hx rfl (hb hby at_90) ?_
        show Steps p.tables e below (T18.setTop (mkF m 92 #[.val (.int pp), .val (.int pq), .val (.int pr), .val (.int px), .val (.int pm), .val (.int (pp &&& (127 : Int32))), .val (.int (pq &&& (127 : Int32))), .val (.int lo), .val (.int hi), .val (.int sg), .val (.ref b6), .val (.ref b15), .unset, .unset] [(.int (127 : Int32)), (.int px)])) _
        refine XS.iand X18.here hx rfl (hb hby at_92) rfl ?_
        show Steps p.tables e below (T18.setTop (mkF m 93 #[.val (.int pp), .val (.int pq), .val (.int pr), .val (.int px), .val (.int pm), .val (.int (pp &&& (127 : Int32))), .val (.int (pq &&& (127 : Int32))), .val (.int lo), .val (.int hi), .val (.int sg), .val (.ref b6), .val (.ref b15), .unset, .unset] [(.int (px &&& (127 : Int32)))])) _
        refine XS.i2c X18.here hx rfl (hb hby at_93) rfl ?_
        show Steps p.tables e below (T18.setTop (mkF m 94 #[.val (.int pp), .val (.int pq), .val (.int pr), .val (.int px), .val (.int pm), .val (.int (pp &&& (127 : Int32))), .val (.int (pq &&& (127 : Int32))), .val (.int lo), .val (.int hi), .val (.int sg), .val (.ref b6), .val (.ref b15), .unset, .unset] [(.int ((px &&& (127 : Int32)).toUInt32.toUInt16.toUInt32.toInt32))])) _
        refine XS.istore X18.here hx rfl (hb hby at_94) rfl (l' := #[.val (.int pp), .val (.int pq), .val (.int pr), .val (.int px), .val (.int pm), .val (.int (pp &&& (127 : Int32))), .val (.int (pq &&& (127 : Int32))), .val (.int lo), .val (.int hi), .val (.int sg), .val (.ref b6), .val (.ref b15), .val (.int ((px &&& (127 : Int32)).toUInt32.toUInt16.toUInt32.toInt32)), .unset]) rfl ?_
        show Steps p.tables e below (T18.setTop (mkF m 96 #[.val (.int pp), .val (.int pq), .val (.int pr), .val (.int px), .val (.int pm), .val (.int (pp &&& (127 : Int32))), .val (.int (pq &&& (127 : Int32))), .val (.int lo), .val (.int hi), .val (.int sg), .val (.ref b6), .val (.ref b15), .val (.int ((px &&& (127 : Int32)).toUInt32.toUInt16.toUInt32.toInt32)), .unset] [])) _
        refine XS.goto X18.here hx rfl (pc0 := 96) (pc' := 103) rfl (hb hby at_96) (by decide) (by decide) ?_
        show Steps p.tables e below (T18.setTop (mkF m 103 #[.val (.int pp), .val (.int pq), .val (.int pr), .val (.int px), .val (.int pm), .val (.int (pp &&& (127 : Int32))), .val (.int (pq &&& (127 : Int32))), .val (.int lo), .val (.int hi), .val (.int sg), .val (.ref b6), .val (.ref b15), .val (.int ((px &&& (127 : Int32)).toUInt32.toUInt16.toUInt32.toInt32)), .unset] [])) _
        exact kt
      exact ⟨((px &&& (127 : Int32)).toUInt32.toUInt16.toUInt32.toInt32), by rw [if_neg hc86_21], pre23⟩
  have rcx : 0 ≤ cx.toInt := own_pick (P := fun z => 0 ≤ z.toInt) hv_cx (own_i2c _) (own_i2c _)
  have pre24 : ∀ t, Steps p.tables e below (T18.setTop (mkF m 107 #[.val (.int pp), .val (.int pq), .val (.int pr), .val (.int px), .val (.int pm), .val (.int (pp &&& (127 : Int32))), .val (.int (pq &&& (127 : Int32))), .val (.int lo), .val (.int hi), .val (.int sg), .val (.ref b6), .val (.ref b15), .val (.int cx), .unset] [(.int lo), (.int cx)])) t → Steps p.tables e below (s₁.setTop (entryFrame m #[(.int pp), (.int pq), (.int pr), (.int px), (.int pm)] maxLocals)) t := by
    intro t kt
    refine pre20 t ?_
    show Steps p.tables e below (T18.setTop (mkF m 103 #[.val (.int pp), .val (.int pq), .val (.int pr), .val (.int px), .val (.int pm), .val (.int (pp &&& (127 : Int32))), .val (.int (pq &&& (127 : Int32))), .val (.int lo), .val (.int hi), .val (.int sg), .val (.ref b6), .val (.ref b15), .val (.int cx), .unset] [])) _
    refine XS.iload X18.here hx rfl (hb hby at_103) rfl ?_
    show Steps p.tables e below (T18.setTop (mkF m 105 #[.val (.int pp), .val (.int pq), .val (.int pr), .val (.int px), .val (.int pm), .val (.int (pp &&& (127 : Int32))), .val (.int (pq &&& (127 : Int32))), .val (.int lo), .val (.int hi), .val (.int sg), .val (.ref b6), .val (.ref b15), .val (.int cx), .unset] [(.int cx)])) _
    refine XS.iload X18.here hx rfl (hb hby at_105) rfl ?_
    show Steps p.tables e below (T18.setTop (mkF m 107 #[.val (.int pp), .val (.int pq), .val (.int pr), .val (.int px), .val (.int pm), .val (.int (pp &&& (127 : Int32))), .val (.int (pq &&& (127 : Int32))), .val (.int lo), .val (.int hi), .val (.int sg), .val (.ref b6), .val (.ref b15), .val (.int cx), .unset] [(.int lo), (.int cx)])) _
    exact kt
  obtain ⟨ex, hv_ex, pre25⟩ : ∃ ex : Int32, ex = (if cx < lo then (if cx = sg then (1 : Int32) else (0 : Int32)) else if hi < cx then (if cx = sg then (1 : Int32) else (0 : Int32)) else (1 : Int32)) ∧ ∀ t, Steps p.tables e below (T18.setTop (mkF m 129 #[.val (.int pp), .val (.int pq), .val (.int pr), .val (.int px), .val (.int pm), .val (.int (pp &&& (127 : Int32))), .val (.int (pq &&& (127 : Int32))), .val (.int lo), .val (.int hi), .val (.int sg), .val (.ref b6), .val (.ref b15), .val (.int cx), .unset] [(.int ex)])) t → Steps p.tables e below (s₁.setTop (entryFrame m #[(.int pp), (.int pq), (.int pr), (.int px), (.int pm)] maxLocals)) t := by
    by_cases hc107_26 : cx < lo
    · have pre27 : ∀ t, Steps p.tables e below (T18.setTop (mkF m 121 #[.val (.int pp), .val (.int pq), .val (.int pr), .val (.int px), .val (.int pm), .val (.int (pp &&& (127 : Int32))), .val (.int (pq &&& (127 : Int32))), .val (.int lo), .val (.int hi), .val (.int sg), .val (.ref b6), .val (.ref b15), .val (.int cx), .unset] [(.int sg), (.int cx)])) t → Steps p.tables e below (s₁.setTop (entryFrame m #[(.int pp), (.int pq), (.int pr), (.int px), (.int pm)] maxLocals)) t := by
        intro t kt
        refine pre24 t ?_
        show Steps p.tables e below (T18.setTop (mkF m 107 #[.val (.int pp), .val (.int pq), .val (.int pr), .val (.int px), .val (.int pm), .val (.int (pp &&& (127 : Int32))), .val (.int (pq &&& (127 : Int32))), .val (.int lo), .val (.int hi), .val (.int sg), .val (.ref b6), .val (.ref b15), .val (.int cx), .unset] [(.int lo), (.int cx)])) _
        refine XS.icmpYes X18.here hx rfl (pc0 := 107) (pc' := 117) rfl (hb hby at_107) rfl (tlt hc107_26).1 (by decide) (by decide) ?_
        show Steps p.tables e below (T18.setTop (mkF m 117 #[.val (.int pp), .val (.int pq), .val (.int pr), .val (.int px), .val (.int pm), .val (.int (pp &&& (127 : Int32))), .val (.int (pq &&& (127 : Int32))), .val (.int lo), .val (.int hi), .val (.int sg), .val (.ref b6), .val (.ref b15), .val (.int cx), .unset] [])) _
        refine XS.iload X18.here hx rfl (hb hby at_117) rfl ?_
        show Steps p.tables e below (T18.setTop (mkF m 119 #[.val (.int pp), .val (.int pq), .val (.int pr), .val (.int px), .val (.int pm), .val (.int (pp &&& (127 : Int32))), .val (.int (pq &&& (127 : Int32))), .val (.int lo), .val (.int hi), .val (.int sg), .val (.ref b6), .val (.ref b15), .val (.int cx), .unset] [(.int cx)])) _
        refine XS.iload X18.here hx rfl (hb hby at_119) rfl ?_
        show Steps p.tables e below (T18.setTop (mkF m 121 #[.val (.int pp), .val (.int pq), .val (.int pr), .val (.int px), .val (.int pm), .val (.int (pp &&& (127 : Int32))), .val (.int (pq &&& (127 : Int32))), .val (.int lo), .val (.int hi), .val (.int sg), .val (.ref b6), .val (.ref b15), .val (.int cx), .unset] [(.int sg), (.int cx)])) _
        exact kt
      by_cases hc121_28 : cx = sg
      · have pre29 : ∀ t, Steps p.tables e below (T18.setTop (mkF m 129 #[.val (.int pp), .val (.int pq), .val (.int pr), .val (.int px), .val (.int pm), .val (.int (pp &&& (127 : Int32))), .val (.int (pq &&& (127 : Int32))), .val (.int lo), .val (.int hi), .val (.int sg), .val (.ref b6), .val (.ref b15), .val (.int cx), .unset] [(.int (1 : Int32))])) t → Steps p.tables e below (s₁.setTop (entryFrame m #[(.int pp), (.int pq), (.int pr), (.int px), (.int pm)] maxLocals)) t := by
          intro t kt
          refine pre27 t ?_
          show Steps p.tables e below (T18.setTop (mkF m 121 #[.val (.int pp), .val (.int pq), .val (.int pr), .val (.int px), .val (.int pm), .val (.int (pp &&& (127 : Int32))), .val (.int (pq &&& (127 : Int32))), .val (.int lo), .val (.int hi), .val (.int sg), .val (.ref b6), .val (.ref b15), .val (.int cx), .unset] [(.int sg), (.int cx)])) _
          refine XS.icmpNo X18.here hx rfl (hb hby at_121) rfl (teq hc121_28).2 ?_
          show Steps p.tables e below (T18.setTop (mkF m 124 #[.val (.int pp), .val (.int pq), .val (.int pr), .val (.int px), .val (.int pm), .val (.int (pp &&& (127 : Int32))), .val (.int (pq &&& (127 : Int32))), .val (.int lo), .val (.int hi), .val (.int sg), .val (.ref b6), .val (.ref b15), .val (.int cx), .unset] [])) _
          refine XS.iconst X18.here hx rfl (hb hby at_124) ?_
          show Steps p.tables e below (T18.setTop (mkF m 125 #[.val (.int pp), .val (.int pq), .val (.int pr), .val (.int px), .val (.int pm), .val (.int (pp &&& (127 : Int32))), .val (.int (pq &&& (127 : Int32))), .val (.int lo), .val (.int hi), .val (.int sg), .val (.ref b6), .val (.ref b15), .val (.int cx), .unset] [(.int (1 : Int32))])) _
          refine XS.goto X18.here hx rfl (pc0 := 125) (pc' := 129) rfl (hb hby at_125) (by decide) (by decide) ?_
          show Steps p.tables e below (T18.setTop (mkF m 129 #[.val (.int pp), .val (.int pq), .val (.int pr), .val (.int px), .val (.int pm), .val (.int (pp &&& (127 : Int32))), .val (.int (pq &&& (127 : Int32))), .val (.int lo), .val (.int hi), .val (.int sg), .val (.ref b6), .val (.ref b15), .val (.int cx), .unset] [(.int (1 : Int32))])) _
          exact kt
        exact ⟨(1 : Int32), by rw [if_pos hc107_26, if_pos hc121_28], pre29⟩
      · have pre30 : ∀ t, Steps p.tables e below (T18.setTop (mkF m 129 #[.val (.int pp), .val (.int pq), .val (.int pr), .val (.int px), .val (.int pm), .val (.int (pp &&& (127 : Int32))), .val (.int (pq &&& (127 : Int32))), .val (.int lo), .val (.int hi), .val (.int sg), .val (.ref b6), .val (.ref b15), .val (.int cx), .unset] [(.int (0 : Int32))])) t → Steps p.tables e below (s₁.setTop (entryFrame m #[(.int pp), (.int pq), (.int pr), (.int px), (.int pm)] maxLocals)) t := by
          intro t kt
          refine pre27 t ?_
          show Steps p.tables e below (T18.setTop (mkF m 121 #[.val (.int pp), .val (.int pq), .val (.int pr), .val (.int px), .val (.int pm), .val (.int (pp &&& (127 : Int32))), .val (.int (pq &&& (127 : Int32))), .val (.int lo), .val (.int hi), .val (.int sg), .val (.ref b6), .val (.ref b15), .val (.int cx), .unset] [(.int sg), (.int cx)])) _
          refine XS.icmpYes X18.here hx rfl (pc0 := 121) (pc' := 128) rfl (hb hby at_121) rfl (feq hc121_28).2 (by decide) (by decide) ?_
          show Steps p.tables e below (T18.setTop (mkF m 128 #[.val (.int pp), .val (.int pq), .val (.int pr), .val (.int px), .val (.int pm), .val (.int (pp &&& (127 : Int32))), .val (.int (pq &&& (127 : Int32))), .val (.int lo), .val (.int hi), .val (.int sg), .val (.ref b6), .val (.ref b15), .val (.int cx), .unset] [])) _
          refine XS.iconst X18.here hx rfl (hb hby at_128) ?_
          show Steps p.tables e below (T18.setTop (mkF m 129 #[.val (.int pp), .val (.int pq), .val (.int pr), .val (.int px), .val (.int pm), .val (.int (pp &&& (127 : Int32))), .val (.int (pq &&& (127 : Int32))), .val (.int lo), .val (.int hi), .val (.int sg), .val (.ref b6), .val (.ref b15), .val (.int cx), .unset] [(.int (0 : Int32))])) _
          exact kt
        exact ⟨(0 : Int32), by rw [if_pos hc107_26, if_neg hc121_28], pre30⟩
    · have pre31 : ∀ t, Steps p.tables e below (T18.setTop (mkF m 114 #[.val (.int pp), .val (.int pq), .val (.int pr), .val (.int px), .val (.int pm), .val (.int (pp &&& (127 : Int32))), .val (.int (pq &&& (127 : Int32))), .val (.int lo), .val (.int hi), .val (.int sg), .val (.ref b6), .val (.ref b15), .val (.int cx), .unset] [(.int hi), (.int cx)])) t → Steps p.tables e below (s₁.setTop (entryFrame m #[(.int pp), (.int pq), (.int pr), (.int px), (.int pm)] maxLocals)) t := by
        intro t kt
        refine pre24 t ?_
        show Steps p.tables e below (T18.setTop (mkF m 107 #[.val (.int pp), .val (.int pq), .val (.int pr), .val (.int px), .val (.int pm), .val (.int (pp &&& (127 : Int32))), .val (.int (pq &&& (127 : Int32))), .val (.int lo), .val (.int hi), .val (.int sg), .val (.ref b6), .val (.ref b15), .val (.int cx), .unset] [(.int lo), (.int cx)])) _
        refine XS.icmpNo X18.here hx rfl (hb hby at_107) rfl (flt hc107_26).1 ?_
        show Steps p.tables e below (T18.setTop (mkF m 110 #[.val (.int pp), .val (.int pq), .val (.int pr), .val (.int px), .val (.int pm), .val (.int (pp &&& (127 : Int32))), .val (.int (pq &&& (127 : Int32))), .val (.int lo), .val (.int hi), .val (.int sg), .val (.ref b6), .val (.ref b15), .val (.int cx), .unset] [])) _
        refine XS.iload X18.here hx rfl (hb hby at_110) rfl ?_
        show Steps p.tables e below (T18.setTop (mkF m 112 #[.val (.int pp), .val (.int pq), .val (.int pr), .val (.int px), .val (.int pm), .val (.int (pp &&& (127 : Int32))), .val (.int (pq &&& (127 : Int32))), .val (.int lo), .val (.int hi), .val (.int sg), .val (.ref b6), .val (.ref b15), .val (.int cx), .unset] [(.int cx)])) _
        refine XS.iload X18.here hx rfl (hb hby at_112) rfl ?_
        show Steps p.tables e below (T18.setTop (mkF m 114 #[.val (.int pp), .val (.int pq), .val (.int pr), .val (.int px), .val (.int pm), .val (.int (pp &&& (127 : Int32))), .val (.int (pq &&& (127 : Int32))), .val (.int lo), .val (.int hi), .val (.int sg), .val (.ref b6), .val (.ref b15), .val (.int cx), .unset] [(.int hi), (.int cx)])) _
        exact kt
      by_cases hc114_32 : hi < cx
      · have pre33 : ∀ t, Steps p.tables e below (T18.setTop (mkF m 121 #[.val (.int pp), .val (.int pq), .val (.int pr), .val (.int px), .val (.int pm), .val (.int (pp &&& (127 : Int32))), .val (.int (pq &&& (127 : Int32))), .val (.int lo), .val (.int hi), .val (.int sg), .val (.ref b6), .val (.ref b15), .val (.int cx), .unset] [(.int sg), (.int cx)])) t → Steps p.tables e below (s₁.setTop (entryFrame m #[(.int pp), (.int pq), (.int pr), (.int px), (.int pm)] maxLocals)) t := by
          intro t kt
          refine pre31 t ?_
          show Steps p.tables e below (T18.setTop (mkF m 114 #[.val (.int pp), .val (.int pq), .val (.int pr), .val (.int px), .val (.int pm), .val (.int (pp &&& (127 : Int32))), .val (.int (pq &&& (127 : Int32))), .val (.int lo), .val (.int hi), .val (.int sg), .val (.ref b6), .val (.ref b15), .val (.int cx), .unset] [(.int hi), (.int cx)])) _
          refine XS.icmpNo X18.here hx rfl (hb hby at_114) rfl (tlt hc114_32).2.2.2 ?_
          show Steps p.tables e below (T18.setTop (mkF m 117 #[.val (.int pp), .val (.int pq), .val (.int pr), .val (.int px), .val (.int pm), .val (.int (pp &&& (127 : Int32))), .val (.int (pq &&& (127 : Int32))), .val (.int lo), .val (.int hi), .val (.int sg), .val (.ref b6), .val (.ref b15), .val (.int cx), .unset] [])) _
          refine XS.iload X18.here hx rfl (hb hby at_117) rfl ?_
          show Steps p.tables e below (T18.setTop (mkF m 119 #[.val (.int pp), .val (.int pq), .val (.int pr), .val (.int px), .val (.int pm), .val (.int (pp &&& (127 : Int32))), .val (.int (pq &&& (127 : Int32))), .val (.int lo), .val (.int hi), .val (.int sg), .val (.ref b6), .val (.ref b15), .val (.int cx), .unset] [(.int cx)])) _
          refine XS.iload X18.here hx rfl (hb hby at_119) rfl ?_
          show Steps p.tables e below (T18.setTop (mkF m 121 #[.val (.int pp), .val (.int pq), .val (.int pr), .val (.int px), .val (.int pm), .val (.int (pp &&& (127 : Int32))), .val (.int (pq &&& (127 : Int32))), .val (.int lo), .val (.int hi), .val (.int sg), .val (.ref b6), .val (.ref b15), .val (.int cx), .unset] [(.int sg), (.int cx)])) _
          exact kt
        by_cases hc121_34 : cx = sg
        · have pre35 : ∀ t, Steps p.tables e below (T18.setTop (mkF m 129 #[.val (.int pp), .val (.int pq), .val (.int pr), .val (.int px), .val (.int pm), .val (.int (pp &&& (127 : Int32))), .val (.int (pq &&& (127 : Int32))), .val (.int lo), .val (.int hi), .val (.int sg), .val (.ref b6), .val (.ref b15), .val (.int cx), .unset] [(.int (1 : Int32))])) t → Steps p.tables e below (s₁.setTop (entryFrame m #[(.int pp), (.int pq), (.int pr), (.int px), (.int pm)] maxLocals)) t := by
            intro t kt
            refine pre33 t ?_
            show Steps p.tables e below (T18.setTop (mkF m 121 #[.val (.int pp), .val (.int pq), .val (.int pr), .val (.int px), .val (.int pm), .val (.int (pp &&& (127 : Int32))), .val (.int (pq &&& (127 : Int32))), .val (.int lo), .val (.int hi), .val (.int sg), .val (.ref b6), .val (.ref b15), .val (.int cx), .unset] [(.int sg), (.int cx)])) _
            refine XS.icmpNo X18.here hx rfl (hb hby at_121) rfl (teq hc121_34).2 ?_
            show Steps p.tables e below (T18.setTop (mkF m 124 #[.val (.int pp), .val (.int pq), .val (.int pr), .val (.int px), .val (.int pm), .val (.int (pp &&& (127 : Int32))), .val (.int (pq &&& (127 : Int32))), .val (.int lo), .val (.int hi), .val (.int sg), .val (.ref b6), .val (.ref b15), .val (.int cx), .unset] [])) _
            refine XS.iconst X18.here hx rfl (hb hby at_124) ?_
            show Steps p.tables e below (T18.setTop (mkF m 125 #[.val (.int pp), .val (.int pq), .val (.int pr), .val (.int px), .val (.int pm), .val (.int (pp &&& (127 : Int32))), .val (.int (pq &&& (127 : Int32))), .val (.int lo), .val (.int hi), .val (.int sg), .val (.ref b6), .val (.ref b15), .val (.int cx), .unset] [(.int (1 : Int32))])) _
            refine XS.goto X18.here hx rfl (pc0 := 125) (pc' := 129) rfl (hb hby at_125) (by decide) (by decide) ?_
            show Steps p.tables e below (T18.setTop (mkF m 129 #[.val (.int pp), .val (.int pq), .val (.int pr), .val (.int px), .val (.int pm), .val (.int (pp &&& (127 : Int32))), .val (.int (pq &&& (127 : Int32))), .val (.int lo), .val (.int hi), .val (.int sg), .val (.ref b6), .val (.ref b15), .val (.int cx), .unset] [(.int (1 : Int32))])) _
            exact kt
          exact ⟨(1 : Int32), by rw [if_neg hc107_26, if_pos hc114_32, if_pos hc121_34], pre35⟩
        · have pre36 : ∀ t, Steps p.tables e below (T18.setTop (mkF m 129 #[.val (.int pp), .val (.int pq), .val (.int pr), .val (.int px), .val (.int pm), .val (.int (pp &&& (127 : Int32))), .val (.int (pq &&& (127 : Int32))), .val (.int lo), .val (.int hi), .val (.int sg), .val (.ref b6), .val (.ref b15), .val (.int cx), .unset] [(.int (0 : Int32))])) t → Steps p.tables e below (s₁.setTop (entryFrame m #[(.int pp), (.int pq), (.int pr), (.int px), (.int pm)] maxLocals)) t := by
            intro t kt
            refine pre33 t ?_
            show Steps p.tables e below (T18.setTop (mkF m 121 #[.val (.int pp), .val (.int pq), .val (.int pr), .val (.int px), .val (.int pm), .val (.int (pp &&& (127 : Int32))), .val (.int (pq &&& (127 : Int32))), .val (.int lo), .val (.int hi), .val (.int sg), .val (.ref b6), .val (.ref b15), .val (.int cx), .unset] [(.int sg), (.int cx)])) _
            refine XS.icmpYes X18.here hx rfl (pc0 := 121) (pc' := 128) rfl (hb hby at_121) rfl (feq hc121_34).2 (by decide) (by decide) ?_
            show Steps p.tables e below (T18.setTop (mkF m 128 #[.val (.int pp), .val (.int pq), .val (.int pr), .val (.int px), .val (.int pm), .val (.int (pp &&& (127 : Int32))), .val (.int (pq &&& (127 : Int32))), .val (.int lo), .val (.int hi), .val (.int sg), .val (.ref b6), .val (.ref b15), .val (.int cx), .unset] [])) _
            refine XS.iconst X18.here hx rfl (hb hby at_128) ?_
            show Steps p.tables e below (T18.setTop (mkF m 129 #[.val (.int pp), .val (.int pq), .val (.int pr), .val (.int px), .val (.int pm), .val (.int (pp &&& (127 : Int32))), .val (.int (pq &&& (127 : Int32))), .val (.int lo), .val (.int hi), .val (.int sg), .val (.ref b6), .val (.ref b15), .val (.int cx), .unset] [(.int (0 : Int32))])) _
            exact kt
          exact ⟨(0 : Int32), by rw [if_neg hc107_26, if_pos hc114_32, if_neg hc121_34], pre36⟩
      · have pre37 : ∀ t, Steps p.tables e below (T18.setTop (mkF m 129 #[.val (.int pp), .val (.int pq), .val (.int pr), .val (.int px), .val (.int pm), .val (.int (pp &&& (127 : Int32))), .val (.int (pq &&& (127 : Int32))), .val (.int lo), .val (.int hi), .val (.int sg), .val (.ref b6), .val (.ref b15), .val (.int cx), .unset] [(.int (1 : Int32))])) t → Steps p.tables e below (s₁.setTop (entryFrame m #[(.int pp), (.int pq), (.int pr), (.int px), (.int pm)] maxLocals)) t := by
          intro t kt
          refine pre31 t ?_
          show Steps p.tables e below (T18.setTop (mkF m 114 #[.val (.int pp), .val (.int pq), .val (.int pr), .val (.int px), .val (.int pm), .val (.int (pp &&& (127 : Int32))), .val (.int (pq &&& (127 : Int32))), .val (.int lo), .val (.int hi), .val (.int sg), .val (.ref b6), .val (.ref b15), .val (.int cx), .unset] [(.int hi), (.int cx)])) _
          refine XS.icmpYes X18.here hx rfl (pc0 := 114) (pc' := 124) rfl (hb hby at_114) rfl (flt hc114_32).2.2.2 (by decide) (by decide) ?_
          show Steps p.tables e below (T18.setTop (mkF m 124 #[.val (.int pp), .val (.int pq), .val (.int pr), .val (.int px), .val (.int pm), .val (.int (pp &&& (127 : Int32))), .val (.int (pq &&& (127 : Int32))), .val (.int lo), .val (.int hi), .val (.int sg), .val (.ref b6), .val (.ref b15), .val (.int cx), .unset] [])) _
          refine XS.iconst X18.here hx rfl (hb hby at_124) ?_
          show Steps p.tables e below (T18.setTop (mkF m 125 #[.val (.int pp), .val (.int pq), .val (.int pr), .val (.int px), .val (.int pm), .val (.int (pp &&& (127 : Int32))), .val (.int (pq &&& (127 : Int32))), .val (.int lo), .val (.int hi), .val (.int sg), .val (.ref b6), .val (.ref b15), .val (.int cx), .unset] [(.int (1 : Int32))])) _
          refine XS.goto X18.here hx rfl (pc0 := 125) (pc' := 129) rfl (hb hby at_125) (by decide) (by decide) ?_
          show Steps p.tables e below (T18.setTop (mkF m 129 #[.val (.int pp), .val (.int pq), .val (.int pr), .val (.int px), .val (.int pm), .val (.int (pp &&& (127 : Int32))), .val (.int (pq &&& (127 : Int32))), .val (.int lo), .val (.int hi), .val (.int sg), .val (.ref b6), .val (.ref b15), .val (.int cx), .unset] [(.int (1 : Int32))])) _
          exact kt
        exact ⟨(1 : Int32), by rw [if_neg hc107_26, if_neg hc114_32], pre37⟩
  obtain ⟨cq38, kq38, q38a, q38b, q38c⟩ := isOf hZ rfl A18c
  obtain ⟨_, _, ⟨T38, L38, k38, n38⟩, -, X38, ⟨Lc38, hQ38, l38, y38, z38⟩, st38⟩ := X18.virtualBack hx (y := (⟨"com/example/attestrail/attestrail/event/AsciiClass", "has", "(C)Z"⟩ : MethodName)) (z := (⟨"com/example/attestrail/attestrail/event/AsciiClass", "has", "(C)Z"⟩ : MethodName)) hown (mvT hZ (hw _ (List.mem_of_getElem? (i := 79) rfl))) (mvT hZ (hw _ (List.mem_of_getElem? (i := 80) rfl))) (notFace_of_selects (args := #[]) (mvT hZ (hw _ (List.mem_of_getElem? (i := 82) rfl)))) (mvT hZ (hw _ (List.mem_of_getElem? (i := 82) rfl))) (mvT hZ (hw _ (List.mem_of_getElem? (i := 81) rfl))) (by decide) (backOf (W := 0) (rm17 l Z a0 hw [] b15 cx ar fa T18.heap n0 (Nat.le_trans Z0 Kc18.1) Fm18 Va18 rcx) hZ (hw _ (List.mem_of_getElem? (i := 83) rfl)) (hw _ (List.mem_of_getElem? (i := 10) rfl)) (by decide) (by decide)) q38a q38c (g := (mkF m 135 #[.val (.int pp), .val (.int pq), .val (.int pr), .val (.int px), .val (.int pm), .val (.int (pp &&& (127 : Int32))), .val (.int (pq &&& (127 : Int32))), .val (.int lo), .val (.int hi), .val (.int sg), .val (.ref b6), .val (.ref b15), .val (.int cx), .val (.int ex)] [(.int cx), (.ref b15)])) rfl (by rw [hml]; rfl) (Steps.refl _) (argsL := [(.int cx)]) (rest := []) (lenOf pd_5 rfl) rfl (by show 2 * 0 + _ ≤ _; exact Nat.le_of_eq rfl) (hb hby at_135) (fun _ _ => ⟨rfl, rfl, (by decide : 5 + 0 ≤ _), (by decide : 141 + 0 ≤ _)⟩)
  dsimp only [Pt.U, Pt.locs, Pt.cells, Pt.slots] at X38 l38 y38 z38 st38 hQ38
  subst l38 y38 z38
  obtain ⟨rfl, N38q, e38⟩ := hQ38
  have N38 := Fr.app N18 N38q
  obtain ⟨fs, hr, hrun, hended, hW, hsame⟩ := X38.leave (v := some (.int (1 : Int32))) (fun h => by rw [Bd.returns] at h; cases h)
  refine ⟨_, _, pre25 _ ?_, hrun, hended, _, _, rfl, ?_, ⟨_, rfl⟩, hW, hsame.mono (by decide) (by decide)⟩
  · show Steps p.tables e below (T18.setTop (mkF m 129 #[.val (.int pp), .val (.int pq), .val (.int pr), .val (.int px), .val (.int pm), .val (.int (pp &&& (127 : Int32))), .val (.int (pq &&& (127 : Int32))), .val (.int lo), .val (.int hi), .val (.int sg), .val (.ref b6), .val (.ref b15), .val (.int cx), .unset] [(.int ex)])) _
    refine XS.istore X18.here hx rfl (hb hby at_129) rfl (l' := #[.val (.int pp), .val (.int pq), .val (.int pr), .val (.int px), .val (.int pm), .val (.int (pp &&& (127 : Int32))), .val (.int (pq &&& (127 : Int32))), .val (.int lo), .val (.int hi), .val (.int sg), .val (.ref b6), .val (.ref b15), .val (.int cx), .val (.int ex)]) rfl ?_
    show Steps p.tables e below (T18.setTop (mkF m 131 #[.val (.int pp), .val (.int pq), .val (.int pr), .val (.int px), .val (.int pm), .val (.int (pp &&& (127 : Int32))), .val (.int (pq &&& (127 : Int32))), .val (.int lo), .val (.int hi), .val (.int sg), .val (.ref b6), .val (.ref b15), .val (.int cx), .val (.int ex)] [])) _
    refine XS.aload X18.here hx rfl (hb hby at_131) rfl rfl ?_
    show Steps p.tables e below (T18.setTop (mkF m 133 #[.val (.int pp), .val (.int pq), .val (.int pr), .val (.int px), .val (.int pm), .val (.int (pp &&& (127 : Int32))), .val (.int (pq &&& (127 : Int32))), .val (.int lo), .val (.int hi), .val (.int sg), .val (.ref b6), .val (.ref b15), .val (.int cx), .val (.int ex)] [(.ref b15)])) _
    refine XS.iload X18.here hx rfl (hb hby at_133) rfl ?_
    show Steps p.tables e below (T18.setTop (mkF m 135 #[.val (.int pp), .val (.int pq), .val (.int pr), .val (.int px), .val (.int pm), .val (.int (pp &&& (127 : Int32))), .val (.int (pq &&& (127 : Int32))), .val (.int lo), .val (.int hi), .val (.int sg), .val (.ref b6), .val (.ref b15), .val (.int cx), .val (.int ex)] [(.int cx), (.ref b15)])) _
    refine st38.trans ?_
    show Steps p.tables e below (T38.setTop (mkF m 138 #[.val (.int pp), .val (.int pq), .val (.int pr), .val (.int px), .val (.int pm), .val (.int (pp &&& (127 : Int32))), .val (.int (pq &&& (127 : Int32))), .val (.int lo), .val (.int hi), .val (.int sg), .val (.ref b6), .val (.ref b15), .val (.int cx), .val (.int ex)] [(.int (hasF cx fa))])) _
    refine XS.iload X38.here hx rfl (hb hby at_138) rfl ?_
    show Steps p.tables e below (T38.setTop (mkF m 140 #[.val (.int pp), .val (.int pq), .val (.int pr), .val (.int px), .val (.int pm), .val (.int (pp &&& (127 : Int32))), .val (.int (pq &&& (127 : Int32))), .val (.int lo), .val (.int hi), .val (.int sg), .val (.ref b6), .val (.ref b15), .val (.int cx), .val (.int ex)] [(.int ex), (.int (hasF cx fa))])) _
    refine XS.icmpNo X38.here hx rfl (hb hby at_140) rfl (teq (own_fin rcx l0 l1 l2 s0 s1 hfa hv_ex : (hasF cx fa) = ex)).2 ?_
    show Steps p.tables e below (T38.setTop (mkF m 143 #[.val (.int pp), .val (.int pq), .val (.int pr), .val (.int px), .val (.int pm), .val (.int (pp &&& (127 : Int32))), .val (.int (pq &&& (127 : Int32))), .val (.int lo), .val (.int hi), .val (.int sg), .val (.ref b6), .val (.ref b15), .val (.int cx), .val (.int ex)] [])) _
    refine XS.iconst X38.here hx rfl (hb hby at_143) ?_
    show Steps p.tables e below (T38.setTop (mkF m 144 #[.val (.int pp), .val (.int pq), .val (.int pr), .val (.int px), .val (.int pm), .val (.int (pp &&& (127 : Int32))), .val (.int (pq &&& (127 : Int32))), .val (.int lo), .val (.int hi), .val (.int sg), .val (.ref b6), .val (.ref b15), .val (.int cx), .val (.int ex)] [(.int (1 : Int32))])) _
    refine XS.goto X38.here hx rfl (pc0 := 144) (pc' := 148) rfl (hb hby at_144) (by decide) (by decide) ?_
    show Steps p.tables e below (T38.setTop (mkF m 148 #[.val (.int pp), .val (.int pq), .val (.int pr), .val (.int px), .val (.int pm), .val (.int (pp &&& (127 : Int32))), .val (.int (pq &&& (127 : Int32))), .val (.int lo), .val (.int hi), .val (.int sg), .val (.ref b6), .val (.ref b15), .val (.int cx), .val (.int ex)] [(.int (1 : Int32))])) _
    exact retN X38 hx (t := .boolean) Bd.returns (by simp) (hb hby at_148) hr
  · show Q0 Z pp pq pr px pm zc fm h0 n0 _ T38.heap _
    rw [e38]
    exact ⟨rfl, N38⟩
set_option maxRecDepth 65536 in
set_option maxHeartbeats 40000000 in
theorem comes_1 {Post : Tables → Env → Array Value → State → Outcome → State → Prop} (hpost : ∀ tb e args s v u, (limb_1_1.after args s (.returned v) u = true ∧ limb_1_2.after args s (.returned v) u = true ∧ True) → FrameEnd s (.returned v) u (Jvm.fieldLocs frame_1_writes args s ++ Jvm.arrayLocs frame_1_arrays args s ++ Jvm.staticLocs frame_1_statics s) 24 384 → Post tb e args s (.returned v) u) :
    ArmFor flags0 classFile x code maxLocals ret World_1 tables_1 room_1 Calls_1 rest_1 Pre_1 Post := by
  intro l hfl _ _ p e ha hc hk s m args below hf hA hF happ hP
  obtain ⟨hcalls, hrest, hpre⟩ := hP
  obtain ⟨-, -, -, hnamed, -, -, -, hat⟩ := (Spec.applies_iff hf).mp happ
  obtain ⟨hg, hn⟩ := and_e (Cond.before_iff.mp (show (Jvm.Cond.and given_1 narrow_1).before args s = true from hpre))
  obtain ⟨g1, g2⟩ := and_e hg
  obtain ⟨g3, g4⟩ := and_e g2
  obtain ⟨g5, g6⟩ := and_e g4
  obtain ⟨g7, g8⟩ := and_e g6
  obtain ⟨g9, g10⟩ := and_e g8
  obtain ⟨w0, w1, w2, w3, w4, rfl⟩ : ∃ w0 w1 w2 w3 w4 : Value, args = #[w0, w1, w2, w3, w4] := by
    have hs : args.size = 5 := by simpa [Cond.value, given_1] using g1
    obtain ⟨L⟩ := args
    match L, hs with
    | [w0, w1, w2, w3, w4], _ => exact ⟨w0, w1, w2, w3, w4, rfl⟩
  have hw := fun d (hd : d ∈ tables_1) => atoms_spec (ws := Jvm.Cond.code x code maxLocals ret :: tables_1) hat d (List.mem_cons_of_mem _ hd)
  have hfit : Fit s := fun {y c} hc i hi => by
    obtain ⟨ha, rfl⟩ := Array.getElem?_eq_some_iff.mp hc
    have q := List.all_eq_true.mp ((Array.all_eq_true_iff_forall_mem.mp hF) _ (Array.getElem_mem ha)) i (List.mem_range.mpr hi)
    simpa [Array.getElem?_eq_getElem hi] using q
  obtain ⟨hsets, hown0⟩ := atoms_of _ (rest_1_c_eq ▸ (show rest_1_c.before _ s = true from hrest))
  have hr0 := Cond.before_iff.mp hown0
  obtain ⟨i0, ei0⟩ := is_v g3
  obtain rfl : w0 = (.int i0) := Option.some.inj ei0
  obtain ⟨i1, ei1⟩ := is_v g5
  obtain rfl : w1 = (.int i1) := Option.some.inj ei1
  obtain ⟨i2, ei2⟩ := is_v g7
  obtain rfl : w2 = (.int i2) := Option.some.inj ei2
  obtain ⟨i3, ei3⟩ := is_v g9
  obtain rfl : w3 = (.int i3) := Option.some.inj ei3
  obtain ⟨i4, ei4⟩ := is_v g10
  obtain rfl : w4 = (.int i4) := Option.some.inj ei4
  obtain ⟨zc, ezc⟩ := is_v (Cond.before_iff.mp (hsets _ (List.mem_of_getElem? (i := 1) rfl)))
  have S_c := Sta.start ezc (Or.inl (hsets _ (List.mem_of_getElem? (i := 0) rfl)))
  have hzc : ¬ zc = (0 : Int32) := gotF (Cond.eq_ints ezc (Term.int_eval (0))) (not_v (Cond.before_iff.mp (hsets _ (List.mem_of_getElem? (i := 2) rfl))))
  obtain ⟨fm, efm, rfm⟩ := isR_v (Cond.before_iff.mp (hsets _ (List.mem_of_getElem? (i := 8) rfl)))
  have S_f := Sta.start efm (Or.inl (hsets _ (List.mem_of_getElem? (i := 7) rfl)))
  obtain ⟨n, o, h1, h2, h3, _, L, rfl, ⟨rfl, N⟩, hq⟩ := rm0 l s _ hw tables_1 i0 i1 i2 i3 i4 zc fm s.heap s.heap.size (Nat.le_refl _) (Old.start s) S_c hzc S_f rfm p e ha hc hk s m _ below hf ((Spec.applies_iff_loose hf).mp happ).1 ⟨rfl, State.Warmed39.refl s, rfl⟩ trivial
  refine ⟨n, _, h1, h2, h3, hpost _ _ _ _ _ _ ⟨Cond.after_iff.mpr rfl, Cond.after_iff.mpr (eq_i res_at (Term.int_eval (1)) rfl), trivial⟩ ⟨hq.1, hq.2.1, (hq.2.2.sift fun y hy => Or.inr (N y hy)).mono (by decide) (by decide)⟩⟩
theorem main_1_1 : Claimed_1_1 := comes_1 fun _ _ _ _ _ _ h hF => ⟨h.1, hF⟩
theorem main_1_2 : Claimed_1_2 := comes_1 fun _ _ _ _ _ _ h hF => ⟨h.2.1, hF⟩
end Jvm.Pilot.@@N@@
namespace Jvm.Pilot.@@N@@
open Jvm Jvm.ClassFile Sem Op Lib Jvm.Free Jvm.Stand Jvm.Pilot.@@N@@.Jvm.D
/-! MADE BY PROGRAM (witnessworld.py) out of the Statement's table words and the real class files: 23 classes; the members and pool entries that the words name. The judged class is class 1, her method 1. -/
namespace start1
open Jvm.ClassFile
def u (s : String) : CpInfo := .utf8 (stringToUtf16 s)
/-- a pool by its gaps: so many unusable entries, then the entry; so many at the end -/
def gap : Nat → List CpInfo → List CpInfo
  | 0, r => r
  | n + 1, r => .unusable :: gap n r
def poolList (es : List (Nat × CpInfo)) (last : Nat) : List CpInfo := es.foldr (fun e r => gap e.1 (e.2 :: r)) (gap last [])
def pool (es : List (Nat × CpInfo)) (last : Nat) : Array CpInfo := ⟨poolList es last⟩
def fileOf (pool : Array CpInfo) (this : Nat) (attrs : Array Attribute := #[]) (ms : Array MethodInfo := #[]) (fl : Nat := 33) (sup : Nat := 0) (ifs : Array Nat := #[]) (fds : Array FieldInfo := #[]) : ClassFile where
  minorVersion := 0
  majorVersion := 65
  constantPool := pool
  accessFlags := fl
  thisClass := this
  superClass := sup
  interfaces := ifs
  fields := fds
  methods := ms
  attributes := attrs
def plain (name : String) (sup : Option ClassId) : Class where
  name := name
  kind := .ordinary
  loader := none
  accessFlags := 33
  super := sup
  interfaces := #[]
  cf := none
  fields := #[]
  methods := #[]
  instanceTypes := #[]
  staticTypes := #[]
  resolved := #[]
  callSites := []
  init := .initialized
  statics := none
  mirror := none

def pool0 : Array CpInfo := pool [(5, u "<init>"), (0, u "()V"), (1, .class_ 10), (1, u "java/lang/Object")] 113

def k0c0 : Code := { maxStack := 0, maxLocals := 1, code := object_method_1_code, exceptionTable := #[], attributes := #[] }
def k0m0 : Method := { name := "<init>", desc := "()V", sig := { parameters := [], returnType := none }, accessFlags := 1, code := some k0c0 }
/-- java/lang/Object -/
def k0 : Class := { plain "java/lang/Object" none with
  accessFlags := 33
  interfaces := #[]
  cf := some (fileOf pool0 8 #[] #[{ accessFlags := 1, nameIndex := 5, descriptorIndex := 6, attributes := #[] }] 33 0 #[] #[])
  fields := #[]
  methods := #[k0m0]
  instanceTypes := #[]
  staticTypes := #[]
  resolved := Array.replicate 124 none
  statics := none }

def pool1 : Array CpInfo := pool [(2, .class_ 4), (1, u "java/lang/Object"), (0, u "<init>"), (0, u "()V"), (0, .methodref 8 9), (0, .class_ 10), (0, .nameAndType 11 12), (0, u "java/lang/Math"), (0, u "min"), (0, u "(II)I"), (0, .methodref 8 14), (0, .nameAndType 15 12), (0, u "max"), (0, .class_ 17), (0, u "com/example/attestrail/attestrail/event/AsciiClass"), (0, .class_ 19), (0, u "java/lang/String"), (0, .methodref 18 21), (0, .nameAndType 5 22), (0, u "([C)V"), (0, .methodref 16 24), (0, .nameAndType 5 25), (0, u "(Ljava/lang/String;)V"), (0, .methodref 16 27), (0, .nameAndType 28 29), (0, u "has"), (0, u "(C)Z"), (0, .class_ 31), (0, u "com/example/attestrail/attestrail/event/AsciiClassHasPinLaw"), (2, u "law"), (0, u "(IIIII)Z")] 5

def k1m0 : Method := { name := "<init>", desc := "()V", sig := { parameters := [], returnType := none }, accessFlags := 1, code := none }
def k1c1 : Code := { maxStack := 5, maxLocals := 14, code := code, exceptionTable := #[], attributes := #[] }
def k1m1 : Method := { name := "law", desc := "(IIIII)Z", sig := { parameters := [.int, .int, .int, .int, .int], returnType := some .boolean }, accessFlags := 9, code := some k1c1 }
/-- com/example/attestrail/attestrail/event/AsciiClassHasPinLaw -/
def k1 : Class := { plain "com/example/attestrail/attestrail/event/AsciiClassHasPinLaw" (some 0) with
  accessFlags := 49
  interfaces := #[]
  cf := some (fileOf pool1 30 #[] #[{ accessFlags := 1, nameIndex := 5, descriptorIndex := 6, attributes := #[] }, { accessFlags := 9, nameIndex := 34, descriptorIndex := 35, attributes := #[] }] 49 2 #[] #[])
  fields := #[]
  methods := #[k1m0, k1m1]
  instanceTypes := #[]
  staticTypes := #[]
  resolved := Array.replicate 41 none
  statics := none }

def pool2 : Array CpInfo := pool [(1, .class_ 2), (0, u "java/lang/Math"), (1, .class_ 6), (1, u "java/lang/Object"), (0, u "<init>"), (0, u "()V"), (89, .class_ 100), (1, u "java/lang/Math$RandomNumberGeneratorHolder"), (71, u "negativeZeroFloatBits"), (0, u "J"), (2, u "negativeZeroDoubleBits"), (21, u "max"), (2, u "min"), (43, u "$assertionsDisabled"), (0, u "Z"), (88, u "(II)I"), (2, u "twoToTheDoubleScaleDown"), (0, u "D"), (4, u "twoToTheDoubleScaleUp"), (9, u "E"), (3, u "PI"), (2, u "TAU"), (2, u "DEGREES_TO_RADIANS"), (0, u "RADIANS_TO_DEGREES")] 94

def k2m0 : Method := { name := "<init>", desc := "()V", sig := { parameters := [], returnType := none }, accessFlags := 2, code := none }
def k2c1 : Code := { maxStack := 2, maxLocals := 2, code := jdk_29_method_65_code, exceptionTable := #[], attributes := #[] }
def k2m1 : Method := { name := "max", desc := "(II)I", sig := { parameters := [.int, .int], returnType := some .int }, accessFlags := 9, code := some k2c1 }
def k2c2 : Code := { maxStack := 2, maxLocals := 2, code := jdk_29_method_69_code, exceptionTable := #[], attributes := #[] }
def k2m2 : Method := { name := "min", desc := "(II)I", sig := { parameters := [.int, .int], returnType := some .int }, accessFlags := 9, code := some k2c2 }
/-- java/lang/Math -/
def k2 : Class := { plain "java/lang/Math" (some 0) with
  accessFlags := 49
  interfaces := #[]
  cf := some (fileOf pool2 1 #[.nestMembers #[98]] #[{ accessFlags := 2, nameIndex := 7, descriptorIndex := 8, attributes := #[] }, { accessFlags := 9, nameIndex := 198, descriptorIndex := 335, attributes := #[] }, { accessFlags := 9, nameIndex := 201, descriptorIndex := 335, attributes := #[] }] 49 4 #[] #[{ accessFlags := 25, nameIndex := 354, descriptorIndex := 339, attributes := #[] }, { accessFlags := 25, nameIndex := 358, descriptorIndex := 339, attributes := #[] }, { accessFlags := 25, nameIndex := 361, descriptorIndex := 339, attributes := #[] }, { accessFlags := 26, nameIndex := 364, descriptorIndex := 339, attributes := #[] }, { accessFlags := 26, nameIndex := 365, descriptorIndex := 339, attributes := #[] }, { accessFlags := 26, nameIndex := 172, descriptorIndex := 173, attributes := #[] }, { accessFlags := 26, nameIndex := 176, descriptorIndex := 173, attributes := #[] }, { accessFlags := 8, nameIndex := 344, descriptorIndex := 339, attributes := #[] }, { accessFlags := 8, nameIndex := 338, descriptorIndex := 339, attributes := #[] }, { accessFlags := 4120, nameIndex := 245, descriptorIndex := 246, attributes := #[] }])
  fields := #[{ name := "E", type := .double, accessFlags := 25, slot := 0, constantValue := 0 }, { name := "PI", type := .double, accessFlags := 25, slot := 1, constantValue := 0 }, { name := "TAU", type := .double, accessFlags := 25, slot := 2, constantValue := 0 }, { name := "DEGREES_TO_RADIANS", type := .double, accessFlags := 26, slot := 3, constantValue := 0 }, { name := "RADIANS_TO_DEGREES", type := .double, accessFlags := 26, slot := 4, constantValue := 0 }, { name := "negativeZeroFloatBits", type := .long, accessFlags := 26, slot := 5, constantValue := 0 }, { name := "negativeZeroDoubleBits", type := .long, accessFlags := 26, slot := 6, constantValue := 0 }, { name := "twoToTheDoubleScaleUp", type := .double, accessFlags := 8, slot := 7, constantValue := 0 }, { name := "twoToTheDoubleScaleDown", type := .double, accessFlags := 8, slot := 8, constantValue := 0 }, { name := "$assertionsDisabled", type := .boolean, accessFlags := 4120, slot := 9, constantValue := 0 }]
  methods := #[k2m0, k2m1, k2m2]
  instanceTypes := #[]
  staticTypes := #[.double, .double, .double, .double, .double, .long, .long, .double, .double, .boolean]
  resolved := Array.replicate 460 none
  statics := none }

def pool3 : Array CpInfo := pool [(1, .methodref 2 3), (0, .class_ 4), (0, .nameAndType 5 6), (0, u "java/lang/Object"), (0, u "<init>"), (0, u "()V"), (0, .fieldref 8 9), (0, .class_ 10), (0, .nameAndType 11 12), (0, u "com/example/attestrail/attestrail/event/AsciiClass"), (0, u "members"), (0, u "[Z"), (0, .methodref 14 15), (0, .class_ 16), (0, .nameAndType 17 18), (0, u "java/lang/String"), (0, u "length"), (0, u "()I"), (0, .methodref 14 20), (0, .nameAndType 21 22), (0, u "charAt"), (0, u "(I)C"), (8, u "(Ljava/lang/String;)V"), (2, u "has"), (0, u "(C)Z")] 22

def k3c0 : Code := { maxStack := 3, maxLocals := 6, code := prog_37_method_1_code, exceptionTable := #[], attributes := #[] }
def k3m0 : Method := { name := "<init>", desc := "(Ljava/lang/String;)V", sig := { parameters := [(.object "java/lang/String")], returnType := none }, accessFlags := 0, code := some k3c0 }
def k3c1 : Code := { maxStack := 2, maxLocals := 2, code := prog_37_method_2_code, exceptionTable := #[], attributes := #[] }
def k3m1 : Method := { name := "has", desc := "(C)Z", sig := { parameters := [.char], returnType := some .boolean }, accessFlags := 0, code := some k3c1 }
/-- com/example/attestrail/attestrail/event/AsciiClass -/
def k3 : Class := { plain "com/example/attestrail/attestrail/event/AsciiClass" (some 0) with
  accessFlags := 48
  interfaces := #[]
  cf := some (fileOf pool3 8 #[] #[{ accessFlags := 0, nameIndex := 5, descriptorIndex := 31, attributes := #[] }, { accessFlags := 0, nameIndex := 34, descriptorIndex := 35, attributes := #[] }] 48 2 #[] #[{ accessFlags := 18, nameIndex := 11, descriptorIndex := 12, attributes := #[] }])
  fields := #[{ name := "members", type := (.array .boolean), accessFlags := 18, slot := 0, constantValue := 0 }]
  methods := #[k3m0, k3m1]
  instanceTypes := #[(.array .boolean)]
  staticTypes := #[]
  resolved := Array.replicate 58 none
  statics := none }

def pool4 : Array CpInfo := pool [(1, .class_ 2), (0, u "java/io/Serializable"), (0, .class_ 4), (0, u "java/lang/Object")] 2

/-- java/io/Serializable -/
def k4 : Class := { plain "java/io/Serializable" (some 0) with
  accessFlags := 1537
  interfaces := #[]
  cf := some (fileOf pool4 1 #[] #[] 1537 3 #[] #[])
  fields := #[]
  methods := #[]
  instanceTypes := #[]
  staticTypes := #[]
  resolved := Array.replicate 7 none
  statics := none }

def pool5 : Array CpInfo := pool [(1, .class_ 2), (0, u "java/lang/Comparable"), (0, .class_ 4), (0, u "java/lang/Object")] 7

/-- java/lang/Comparable -/
def k5 : Class := { plain "java/lang/Comparable" (some 0) with
  accessFlags := 1537
  interfaces := #[]
  cf := some (fileOf pool5 1 #[] #[] 1537 3 #[] #[])
  fields := #[]
  methods := #[]
  instanceTypes := #[]
  staticTypes := #[]
  resolved := Array.replicate 12 none
  statics := none }

def pool6 : Array CpInfo := pool [(2, .class_ 4), (1, u "java/lang/CharSequence"), (42, .class_ 48), (0, u "java/lang/CharSequence$1CodePointIterator"), (10, .class_ 60), (0, u "java/lang/CharSequence$1CharIterator"), (5, .class_ 67), (0, u "java/lang/Object")] 63

/-- java/lang/CharSequence -/
def k6 : Class := { plain "java/lang/CharSequence" (some 0) with
  accessFlags := 1537
  interfaces := #[]
  cf := some (fileOf pool6 2 #[.nestMembers #[47, 59]] #[] 1537 66 #[] #[])
  fields := #[]
  methods := #[]
  instanceTypes := #[]
  staticTypes := #[]
  resolved := Array.replicate 131 none
  statics := none }

def pool7 : Array CpInfo := pool [(1, .class_ 2), (0, u "java/lang/constant/Constable"), (0, .class_ 4), (0, u "java/lang/Object")] 6

/-- java/lang/constant/Constable -/
def k7 : Class := { plain "java/lang/constant/Constable" (some 0) with
  accessFlags := 1537
  interfaces := #[]
  cf := some (fileOf pool7 1 #[] #[] 1537 3 #[] #[])
  fields := #[]
  methods := #[]
  instanceTypes := #[]
  staticTypes := #[]
  resolved := Array.replicate 11 none
  statics := none }

def pool8 : Array CpInfo := pool [(1, .class_ 2), (0, u "java/lang/constant/ConstantDesc"), (0, .class_ 4), (0, u "java/lang/Object")] 32

/-- java/lang/constant/ConstantDesc -/
def k8 : Class := { plain "java/lang/constant/ConstantDesc" (some 0) with
  accessFlags := 1537
  interfaces := #[]
  cf := some (fileOf pool8 1 #[] #[] 1537 3 #[] #[])
  fields := #[]
  methods := #[]
  instanceTypes := #[]
  staticTypes := #[]
  resolved := Array.replicate 37 none
  statics := none }

def pool9 : Array CpInfo := pool [(1, .methodref 2 3), (0, .class_ 4), (0, .nameAndType 5 6), (0, u "java/lang/Object"), (0, u "<init>"), (0, u "()V"), (2, .fieldref 10 11), (0, .class_ 12), (0, .nameAndType 13 14), (0, u "java/lang/String"), (0, u "value"), (0, u "[B"), (0, .fieldref 10 16), (0, .nameAndType 17 18), (0, u "coder"), (0, u "B"), (2, u "hash"), (0, u "I"), (2, u "hashIsZero"), (0, u "Z"), (0, .methodref 10 28), (0, .nameAndType 5 29), (0, u "([CIILjava/lang/Void;)V"), (8, .fieldref 10 39), (0, .nameAndType 40 26), (0, u "COMPACT_STRINGS"), (1, .class_ 44), (1, u "java/lang/StringUTF16"), (0, u "compress"), (1, .methodref 42 48), (0, .nameAndType 49 50), (0, u "coderFromArrayLen"), (0, u "([BI)B"), (56, .class_ 109), (1, u "java/lang/StringLatin1"), (32, u "()Z"), (34, .methodref 42 178), (0, .nameAndType 45 179), (0, u "([CII)[B"), (154, u "()I"), (0, .methodref 10 336), (0, .nameAndType 17 337), (0, u "()B"), (25, u "([BI)C"), (27, u "(II)V"), (35, u "(I)C"), (64, .methodref 10 493), (0, .nameAndType 494 142), (0, u "isLatin1"), (0, .methodref 107 496), (0, .nameAndType 497 363), (0, u "charAt"), (3, u "checkIndex"), (5, u "length"), (67, .class_ 576), (0, u "java/lang/CharSequence"), (22, u "CASE_INSENSITIVE_ORDER"), (0, u "Ljava/util/Comparator;"), (409, u "([C)V"), (42, .fieldref 1054 1055), (0, .class_ 1056), (0, .nameAndType 1057 1058), (0, u "jdk/internal/util/Preconditions"), (0, u "SIOOBE_FORMATTER"), (0, u "Ljava/util/function/BiFunction;"), (0, .methodref 1054 1060), (0, .nameAndType 501 1061), (0, u "(IILjava/util/function/BiFunction;)I"), (39, u "serialPersistentFields"), (0, u "[Ljava/io/ObjectStreamField;"), (0, .class_ 1104), (0, u "java/lang/String$CaseInsensitiveComparator"), (1, .class_ 1107), (0, u "java/io/Serializable"), (0, .class_ 1109), (0, u "java/lang/Comparable"), (0, .class_ 1111), (0, u "java/lang/constant/Constable"), (0, .class_ 1113), (0, u "java/lang/constant/ConstantDesc"), (2, u "serialVersionUID"), (0, u "J"), (3, u "REPL"), (0, u "C"), (2, u "LATIN1"), (1, u "UTF16")] 323

def k9m0 : Method := { name := "<init>", desc := "()V", sig := { parameters := [], returnType := none }, accessFlags := 1, code := none }
def k9c1 : Code := { maxStack := 5, maxLocals := 2, code := jdk_42_method_3_code, exceptionTable := #[], attributes := #[] }
def k9m1 : Method := { name := "<init>", desc := "([C)V", sig := { parameters := [(.array .char)], returnType := none }, accessFlags := 1, code := some k9c1 }
def k9c2 : Code := { maxStack := 2, maxLocals := 1, code := jdk_42_method_54_code, exceptionTable := #[], attributes := #[] }
def k9m2 : Method := { name := "length", desc := "()I", sig := { parameters := [], returnType := some .int }, accessFlags := 1, code := some k9c2 }
def k9c3 : Code := { maxStack := 2, maxLocals := 2, code := jdk_42_method_56_code, exceptionTable := #[], attributes := #[] }
def k9m3 : Method := { name := "charAt", desc := "(I)C", sig := { parameters := [.int], returnType := some .char }, accessFlags := 1, code := some k9c3 }
def k9c4 : Code := { maxStack := 4, maxLocals := 6, code := jdk_42_method_149_code, exceptionTable := #[], attributes := #[] }
def k9m4 : Method := { name := "<init>", desc := "([CIILjava/lang/Void;)V", sig := { parameters := [(.array .char), .int, .int, (.object "java/lang/Void")], returnType := none }, accessFlags := 2, code := some k9c4 }
def k9c5 : Code := { maxStack := 1, maxLocals := 1, code := jdk_42_method_152_code, exceptionTable := #[], attributes := #[] }
def k9m5 : Method := { name := "coder", desc := "()B", sig := { parameters := [], returnType := some .byte }, accessFlags := 0, code := some k9c5 }
def k9c6 : Code := { maxStack := 1, maxLocals := 1, code := jdk_42_method_154_code, exceptionTable := #[], attributes := #[] }
def k9m6 : Method := { name := "isLatin1", desc := "()Z", sig := { parameters := [], returnType := some .boolean }, accessFlags := 0, code := some k9c6 }
def k9c7 : Code := { maxStack := 3, maxLocals := 2, code := jdk_42_method_155_code, exceptionTable := #[], attributes := #[] }
def k9m7 : Method := { name := "checkIndex", desc := "(II)V", sig := { parameters := [.int, .int], returnType := none }, accessFlags := 8, code := some k9c7 }
/-- java/lang/String -/
def k9 : Class := { plain "java/lang/String" (some 0) with
  accessFlags := 49
  interfaces := #[4, 5, 6, 7, 8]
  cf := some (fileOf pool9 10 #[.nestMembers #[1103]] #[{ accessFlags := 1, nameIndex := 5, descriptorIndex := 6, attributes := #[] }, { accessFlags := 1, nameIndex := 5, descriptorIndex := 1010, attributes := #[] }, { accessFlags := 1, nameIndex := 507, descriptorIndex := 334, attributes := #[] }, { accessFlags := 1, nameIndex := 497, descriptorIndex := 427, attributes := #[] }, { accessFlags := 2, nameIndex := 5, descriptorIndex := 29, attributes := #[] }, { accessFlags := 0, nameIndex := 17, descriptorIndex := 337, attributes := #[] }, { accessFlags := 0, nameIndex := 494, descriptorIndex := 142, attributes := #[] }, { accessFlags := 8, nameIndex := 501, descriptorIndex := 391, attributes := #[] }] 49 2 #[1106, 1108, 575, 1110, 1112] #[{ accessFlags := 18, nameIndex := 13, descriptorIndex := 14, attributes := #[] }, { accessFlags := 18, nameIndex := 17, descriptorIndex := 18, attributes := #[] }, { accessFlags := 2, nameIndex := 21, descriptorIndex := 22, attributes := #[] }, { accessFlags := 2, nameIndex := 25, descriptorIndex := 26, attributes := #[] }, { accessFlags := 26, nameIndex := 1116, descriptorIndex := 1117, attributes := #[] }, { accessFlags := 24, nameIndex := 40, descriptorIndex := 26, attributes := #[] }, { accessFlags := 26, nameIndex := 1101, descriptorIndex := 1102, attributes := #[] }, { accessFlags := 26, nameIndex := 1121, descriptorIndex := 1122, attributes := #[] }, { accessFlags := 25, nameIndex := 599, descriptorIndex := 600, attributes := #[] }, { accessFlags := 24, nameIndex := 1125, descriptorIndex := 18, attributes := #[] }, { accessFlags := 24, nameIndex := 1127, descriptorIndex := 18, attributes := #[] }])
  fields := #[{ name := "value", type := (.array .byte), accessFlags := 18, slot := 0, constantValue := 0 }, { name := "coder", type := .byte, accessFlags := 18, slot := 1, constantValue := 0 }, { name := "hash", type := .int, accessFlags := 2, slot := 2, constantValue := 0 }, { name := "hashIsZero", type := .boolean, accessFlags := 2, slot := 3, constantValue := 0 }, { name := "serialVersionUID", type := .long, accessFlags := 26, slot := 0, constantValue := 0 }, { name := "COMPACT_STRINGS", type := .boolean, accessFlags := 24, slot := 1, constantValue := 0 }, { name := "serialPersistentFields", type := (.array (.object "java/io/ObjectStreamField")), accessFlags := 26, slot := 2, constantValue := 0 }, { name := "REPL", type := .char, accessFlags := 26, slot := 3, constantValue := 0 }, { name := "CASE_INSENSITIVE_ORDER", type := (.object "java/util/Comparator"), accessFlags := 25, slot := 4, constantValue := 0 }, { name := "LATIN1", type := .byte, accessFlags := 24, slot := 5, constantValue := 0 }, { name := "UTF16", type := .byte, accessFlags := 24, slot := 6, constantValue := 0 }]
  methods := #[k9m0, k9m1, k9m2, k9m3, k9m4, k9m5, k9m6, k9m7]
  instanceTypes := #[(.array .byte), .byte, .int, .boolean]
  staticTypes := #[.long, .boolean, (.array (.object "java/io/ObjectStreamField")), .char, (.object "java/util/Comparator"), .byte, .byte]
  resolved := Array.replicate 1451 none
  statics := some 0 }

def pool10 : Array CpInfo := pool [(6, .class_ 8), (1, u "java/lang/Object"), (0, u "<init>"), (0, u "()V"), (1, .class_ 14), (1, u "java/lang/StringUTF16"), (31, u "$assertionsDisabled"), (0, u "Z"), (13, u "HI_BYTE_SHIFT"), (0, u "I"), (2, u "LO_BYTE_SHIFT"), (49, .methodref 12 116), (0, .nameAndType 117 118), (0, u "compress"), (0, u "([CI[BII)I"), (3, u "([CII)[B"), (138, u "coderFromArrayLen"), (0, u "([BI)B"), (106, .class_ 371), (1, u "java/lang/StringUTF16$LinesSpliterator"), (58, u "MAX_LENGTH"), (196, .class_ 628), (0, u "java/lang/StringUTF16$CodePointsSpliterator"), (0, .class_ 630), (0, u "java/lang/StringUTF16$CharsSpliterator")] 4

def k10m0 : Method := { name := "<init>", desc := "()V", sig := { parameters := [], returnType := none }, accessFlags := 0, code := none }
def k10c1 : Code := { maxStack := 2, maxLocals := 2, code := jdk_52_method_15_code, exceptionTable := #[], attributes := #[] }
def k10m1 : Method := { name := "coderFromArrayLen", desc := "([BI)B", sig := { parameters := [(.array .byte), .int], returnType := some .byte }, accessFlags := 8, code := some k10c1 }
def k10c2 : Code := { maxStack := 5, maxLocals := 6, code := jdk_52_method_16_code, exceptionTable := #[], attributes := #[] }
def k10m2 : Method := { name := "compress", desc := "([CII)[B", sig := { parameters := [(.array .char), .int, .int], returnType := some (.array .byte) }, accessFlags := 9, code := some k10c2 }
def k10c3 : Code := { maxStack := 3, maxLocals := 7, code := jdk_52_method_21_code, exceptionTable := #[], attributes := #[] }
def k10m3 : Method := { name := "compress", desc := "([CI[BII)I", sig := { parameters := [(.array .char), .int, (.array .byte), .int, .int], returnType := some .int }, accessFlags := 9, code := some k10c3 }
/-- java/lang/StringUTF16 -/
def k10 : Class := { plain "java/lang/StringUTF16" (some 0) with
  accessFlags := 48
  interfaces := #[]
  cf := some (fileOf pool10 12 #[.nestMembers #[627, 629, 369]] #[{ accessFlags := 0, nameIndex := 9, descriptorIndex := 10, attributes := #[] }, { accessFlags := 8, nameIndex := 261, descriptorIndex := 262, attributes := #[] }, { accessFlags := 9, nameIndex := 117, descriptorIndex := 122, attributes := #[] }, { accessFlags := 9, nameIndex := 117, descriptorIndex := 118, attributes := #[] }] 48 6 #[] #[{ accessFlags := 26, nameIndex := 61, descriptorIndex := 62, attributes := #[] }, { accessFlags := 26, nameIndex := 65, descriptorIndex := 62, attributes := #[] }, { accessFlags := 24, nameIndex := 430, descriptorIndex := 62, attributes := #[] }, { accessFlags := 4120, nameIndex := 46, descriptorIndex := 47, attributes := #[] }])
  fields := #[{ name := "HI_BYTE_SHIFT", type := .int, accessFlags := 26, slot := 0, constantValue := 0 }, { name := "LO_BYTE_SHIFT", type := .int, accessFlags := 26, slot := 1, constantValue := 0 }, { name := "MAX_LENGTH", type := .int, accessFlags := 24, slot := 2, constantValue := 0 }, { name := "$assertionsDisabled", type := .boolean, accessFlags := 4120, slot := 3, constantValue := 0 }]
  methods := #[k10m0, k10m1, k10m2, k10m3]
  instanceTypes := #[]
  staticTypes := #[.int, .int, .int, .boolean]
  resolved := Array.replicate 635 none
  statics := none }

def pool11 : Array CpInfo := pool [(1, .class_ 2), (0, u "java/lang/String"), (1, .class_ 6), (1, u "java/lang/Object"), (0, u "<init>"), (0, u "()V"), (0, .methodref 1 10), (0, .nameAndType 11 12), (0, u "checkIndex"), (0, u "(II)V"), (1, .class_ 16), (1, u "java/lang/StringLatin1"), (36, u "([BI)C"), (67, u "$assertionsDisabled"), (0, u "Z"), (98, .class_ 223), (1, u "java/lang/StringLatin1$LinesSpliterator"), (28, u "charAt"), (137, .class_ 391), (0, u "java/lang/StringLatin1$CharsSpliterator")] 3

def k11m0 : Method := { name := "<init>", desc := "()V", sig := { parameters := [], returnType := none }, accessFlags := 0, code := none }
def k11c1 : Code := { maxStack := 2, maxLocals := 2, code := jdk_43_method_2_code, exceptionTable := #[], attributes := #[] }
def k11m1 : Method := { name := "charAt", desc := "([BI)C", sig := { parameters := [(.array .byte), .int], returnType := some .char }, accessFlags := 9, code := some k11c1 }
/-- java/lang/StringLatin1 -/
def k11 : Class := { plain "java/lang/StringLatin1" (some 0) with
  accessFlags := 48
  interfaces := #[]
  cf := some (fileOf pool11 14 #[.nestMembers #[390, 221]] #[{ accessFlags := 0, nameIndex := 7, descriptorIndex := 8, attributes := #[] }, { accessFlags := 9, nameIndex := 252, descriptorIndex := 53, attributes := #[] }] 48 4 #[] #[{ accessFlags := 4120, nameIndex := 121, descriptorIndex := 122, attributes := #[] }])
  fields := #[{ name := "$assertionsDisabled", type := .boolean, accessFlags := 4120, slot := 0, constantValue := 0 }]
  methods := #[k11m0, k11m1]
  instanceTypes := #[]
  staticTypes := #[.boolean]
  resolved := Array.replicate 395 none
  statics := none }

def pool12 : Array CpInfo := pool [(2, .class_ 4), (1, u "java/lang/Object"), (0, u "<init>"), (0, u "()V"), (17, .class_ 26), (1, u "jdk/internal/util/Preconditions"), (6, u "checkIndex"), (21, .class_ 56), (0, u "jdk/internal/util/Preconditions$4"), (57, .class_ 115), (0, u "jdk/internal/util/Preconditions$1"), (7, u "SIOOBE_FORMATTER"), (0, u "Ljava/util/function/BiFunction;"), (0, .class_ 126), (0, u "jdk/internal/util/Preconditions$2"), (3, u "AIOOBE_FORMATTER"), (0, .class_ 132), (0, u "jdk/internal/util/Preconditions$3"), (3, u "IOOBE_FORMATTER"), (41, u "(IILjava/util/function/BiFunction;)I")] 15

def k12m0 : Method := { name := "<init>", desc := "()V", sig := { parameters := [], returnType := none }, accessFlags := 1, code := none }
def k12c1 : Code := { maxStack := 3, maxLocals := 3, code := jdk_41_method_11_code, exceptionTable := #[], attributes := #[] }
def k12m1 : Method := { name := "checkIndex", desc := "(IILjava/util/function/BiFunction;)I", sig := { parameters := [.int, .int, (.object "java/util/function/BiFunction")], returnType := some .int }, accessFlags := 9, code := some k12c1 }
/-- jdk/internal/util/Preconditions -/
def k12 : Class := { plain "jdk/internal/util/Preconditions" (some 0) with
  accessFlags := 33
  interfaces := #[]
  cf := some (fileOf pool12 24 #[.nestMembers #[55, 131, 125, 114]] #[{ accessFlags := 1, nameIndex := 5, descriptorIndex := 6, attributes := #[] }, { accessFlags := 9, nameIndex := 33, descriptorIndex := 178, attributes := #[] }] 33 2 #[] #[{ accessFlags := 25, nameIndex := 123, descriptorIndex := 124, attributes := #[] }, { accessFlags := 25, nameIndex := 130, descriptorIndex := 124, attributes := #[] }, { accessFlags := 25, nameIndex := 136, descriptorIndex := 124, attributes := #[] }])
  fields := #[{ name := "SIOOBE_FORMATTER", type := (.object "java/util/function/BiFunction"), accessFlags := 25, slot := 0, constantValue := 0 }, { name := "AIOOBE_FORMATTER", type := (.object "java/util/function/BiFunction"), accessFlags := 25, slot := 1, constantValue := 0 }, { name := "IOOBE_FORMATTER", type := (.object "java/util/function/BiFunction"), accessFlags := 25, slot := 2, constantValue := 0 }]
  methods := #[k12m0, k12m1]
  instanceTypes := #[]
  staticTypes := #[(.object "java/util/function/BiFunction"), (.object "java/util/function/BiFunction"), (.object "java/util/function/BiFunction")]
  resolved := Array.replicate 194 none
  statics := some 1 }

def pool13 : Array CpInfo := pool [(9, u "<init>"), (6, .class_ 18), (1, u "java/lang/Object"), (0, u "()V"), (1, .class_ 23), (1, u "jdk/internal/util/ArraysSupport"), (0, u "LOG2_ARRAY_LONG_INDEX_SCALE"), (0, u "I"), (2, u "U"), (0, u "Ljdk/internal/misc/Unsafe;"), (8, u "BIG_ENDIAN"), (0, u "Z"), (8, u "LOG2_BYTE_BIT_SIZE"), (4, u "LOG2_ARRAY_INT_INDEX_SCALE"), (54, u "JLA"), (0, u "Ljdk/internal/access/JavaLangAccess;"), (11, u "LOG2_ARRAY_BOOLEAN_INDEX_SCALE"), (9, u "LOG2_ARRAY_BYTE_INDEX_SCALE"), (5, u "LOG2_ARRAY_CHAR_INDEX_SCALE"), (5, u "LOG2_ARRAY_SHORT_INDEX_SCALE"), (18, u "LOG2_ARRAY_FLOAT_INDEX_SCALE"), (24, u "LOG2_ARRAY_DOUBLE_INDEX_SCALE"), (89, u "T_BOOLEAN"), (2, u "T_CHAR"), (1, u "T_FLOAT"), (1, u "T_DOUBLE"), (1, u "T_BYTE"), (1, u "T_SHORT"), (1, u "T_INT"), (1, u "T_LONG"), (1, u "SOFT_MAX_ARRAY_LENGTH")] 83

def k13m0 : Method := { name := "<init>", desc := "()V", sig := { parameters := [], returnType := none }, accessFlags := 2, code := none }
/-- jdk/internal/util/ArraysSupport -/
def k13 : Class := { plain "jdk/internal/util/ArraysSupport" (some 0) with
  accessFlags := 33
  interfaces := #[]
  cf := some (fileOf pool13 21 #[] #[{ accessFlags := 2, nameIndex := 9, descriptorIndex := 19, attributes := #[] }] 33 16 #[] #[{ accessFlags := 24, nameIndex := 28, descriptorIndex := 29, attributes := #[] }, { accessFlags := 26, nameIndex := 38, descriptorIndex := 39, attributes := #[] }, { accessFlags := 25, nameIndex := 121, descriptorIndex := 25, attributes := #[] }, { accessFlags := 25, nameIndex := 131, descriptorIndex := 25, attributes := #[] }, { accessFlags := 25, nameIndex := 137, descriptorIndex := 25, attributes := #[] }, { accessFlags := 25, nameIndex := 143, descriptorIndex := 25, attributes := #[] }, { accessFlags := 25, nameIndex := 53, descriptorIndex := 25, attributes := #[] }, { accessFlags := 25, nameIndex := 24, descriptorIndex := 25, attributes := #[] }, { accessFlags := 25, nameIndex := 162, descriptorIndex := 25, attributes := #[] }, { accessFlags := 25, nameIndex := 187, descriptorIndex := 25, attributes := #[] }, { accessFlags := 26, nameIndex := 48, descriptorIndex := 25, attributes := #[] }, { accessFlags := 25, nameIndex := 277, descriptorIndex := 25, attributes := #[] }, { accessFlags := 25, nameIndex := 280, descriptorIndex := 25, attributes := #[] }, { accessFlags := 25, nameIndex := 282, descriptorIndex := 25, attributes := #[] }, { accessFlags := 25, nameIndex := 284, descriptorIndex := 25, attributes := #[] }, { accessFlags := 25, nameIndex := 286, descriptorIndex := 25, attributes := #[] }, { accessFlags := 25, nameIndex := 288, descriptorIndex := 25, attributes := #[] }, { accessFlags := 25, nameIndex := 290, descriptorIndex := 25, attributes := #[] }, { accessFlags := 25, nameIndex := 292, descriptorIndex := 25, attributes := #[] }, { accessFlags := 26, nameIndex := 108, descriptorIndex := 109, attributes := #[] }, { accessFlags := 25, nameIndex := 294, descriptorIndex := 25, attributes := #[] }])
  fields := #[{ name := "U", type := (.object "jdk/internal/misc/Unsafe"), accessFlags := 24, slot := 0, constantValue := 0 }, { name := "BIG_ENDIAN", type := .boolean, accessFlags := 26, slot := 1, constantValue := 0 }, { name := "LOG2_ARRAY_BOOLEAN_INDEX_SCALE", type := .int, accessFlags := 25, slot := 2, constantValue := 0 }, { name := "LOG2_ARRAY_BYTE_INDEX_SCALE", type := .int, accessFlags := 25, slot := 3, constantValue := 0 }, { name := "LOG2_ARRAY_CHAR_INDEX_SCALE", type := .int, accessFlags := 25, slot := 4, constantValue := 0 }, { name := "LOG2_ARRAY_SHORT_INDEX_SCALE", type := .int, accessFlags := 25, slot := 5, constantValue := 0 }, { name := "LOG2_ARRAY_INT_INDEX_SCALE", type := .int, accessFlags := 25, slot := 6, constantValue := 0 }, { name := "LOG2_ARRAY_LONG_INDEX_SCALE", type := .int, accessFlags := 25, slot := 7, constantValue := 0 }, { name := "LOG2_ARRAY_FLOAT_INDEX_SCALE", type := .int, accessFlags := 25, slot := 8, constantValue := 0 }, { name := "LOG2_ARRAY_DOUBLE_INDEX_SCALE", type := .int, accessFlags := 25, slot := 9, constantValue := 0 }, { name := "LOG2_BYTE_BIT_SIZE", type := .int, accessFlags := 26, slot := 10, constantValue := 0 }, { name := "T_BOOLEAN", type := .int, accessFlags := 25, slot := 11, constantValue := 0 }, { name := "T_CHAR", type := .int, accessFlags := 25, slot := 12, constantValue := 0 }, { name := "T_FLOAT", type := .int, accessFlags := 25, slot := 13, constantValue := 0 }, { name := "T_DOUBLE", type := .int, accessFlags := 25, slot := 14, constantValue := 0 }, { name := "T_BYTE", type := .int, accessFlags := 25, slot := 15, constantValue := 0 }, { name := "T_SHORT", type := .int, accessFlags := 25, slot := 16, constantValue := 0 }, { name := "T_INT", type := .int, accessFlags := 25, slot := 17, constantValue := 0 }, { name := "T_LONG", type := .int, accessFlags := 25, slot := 18, constantValue := 0 }, { name := "JLA", type := (.object "jdk/internal/access/JavaLangAccess"), accessFlags := 26, slot := 19, constantValue := 0 }, { name := "SOFT_MAX_ARRAY_LENGTH", type := .int, accessFlags := 25, slot := 20, constantValue := 0 }]
  methods := #[k13m0]
  instanceTypes := #[]
  staticTypes := #[(.object "jdk/internal/misc/Unsafe"), .boolean, .int, .int, .int, .int, .int, .int, .int, .int, .int, .int, .int, .int, .int, .int, .int, .int, .int, (.object "jdk/internal/access/JavaLangAccess"), .int]
  resolved := Array.replicate 378 none
  statics := none }

def pool14 : Array CpInfo := pool [(1, u "java/lang/Cloneable"), (0, .class_ 1), (0, u "java/lang/Object"), (0, .class_ 3)] 3

/-- java/lang/Cloneable -/
def k14 : Class := { plain "java/lang/Cloneable" (some 0) with
  accessFlags := 1537
  interfaces := #[]
  cf := some (fileOf pool14 2 #[] #[] 1537 4 #[] #[])
  fields := #[]
  methods := #[]
  instanceTypes := #[]
  staticTypes := #[]
  resolved := Array.replicate 8 none
  statics := none }

/-- the primitive boolean -/
def k15 : Class := { plain "boolean" none with kind := .primitive 'Z', accessFlags := 0x411 }
/-- [Z -/
def k16 : Class := { plain "[Z" (some 0) with kind := .array 15 .boolean, interfaces := #[14, 4], accessFlags := 1041 }

/-- the primitive byte -/
def k17 : Class := { plain "byte" none with kind := .primitive 'B', accessFlags := 0x411 }
/-- [B -/
def k18 : Class := { plain "[B" (some 0) with kind := .array 17 .byte, interfaces := #[14, 4], accessFlags := 1041 }

/-- the primitive char -/
def k19 : Class := { plain "char" none with kind := .primitive 'C', accessFlags := 0x411 }
/-- [C -/
def k20 : Class := { plain "[C" (some 0) with kind := .array 19 .char, interfaces := #[14, 4], accessFlags := 1041 }

/-- the primitive int -/
def k21 : Class := { plain "int" none with kind := .primitive 'I', accessFlags := 0x411 }
/-- [I -/
def k22 : Class := { plain "[I" (some 0) with kind := .array 21 .int, interfaces := #[14, 4], accessFlags := 1041 }

def heap : Heap := #[{ cls := 9, slots := #[.long 0, .int 1, .null, .int 0, .null, .int 0, .int 0], vm := .statics 9 },
  { cls := 12, slots := #[.null, .null, .null], vm := .statics 12 }]
def classes : Array Class := #[k0, k1, k2, k3, k4, k5, k6, k7, k8, k9, k10, k11, k12, k13, k14, k15, k16, k17, k18, k19, k20, k21, k22]
def interned : List (Array UInt16 × Addr) := []
def slotsUsed : Nat := 10
def theMethod : MethodId := ⟨1, 1⟩
def args0 : Array Value := #[.int 0, .int 3, .int 2, .int 1, .int 0]
def aboutOver (below : List Frame) : State where
  vm := { classes := classes, interned := interned.toArray }
  heap := heap
  slotsUsed := slotsUsed
  threads := #[{ frames := .invoking theMethod args0 :: below }]
def below0 : List Frame := [.native { method := ⟨0, 0⟩, args := #[] }]
def about1 : State := aboutOver below0
def p0 : Program := .bare "" "" ""
def e0 : Env := launch0.env 0 0 0
theorem w_frames : about1.frames = Frame.invoking theMethod args0 :: below0 := rfl
set_option maxRecDepth 65536 in
theorem w_args : argsFit about1.vm theMethod args0 = true := by decide +kernel
set_option maxRecDepth 65536 in
theorem w_heap : heapFits about1 = true := by decide +kernel
set_option maxRecDepth 65536 in
theorem w_runnable : about1.curStatus? = some .runnable := by decide +kernel
set_option maxRecDepth 65536 in
theorem w_alone : about1.alone = true := by decide +kernel
set_option maxRecDepth 65536 in
theorem w_named : about1.methodNamed? x = some theMethod := by decide +kernel
set_option maxRecDepth 65536 in
theorem w_hears : about1.hears theMethod below0 = true := by decide +kernel
set_option maxRecDepth 65536 in
theorem w_ripe : about1.ripe theMethod args0 below0 = true := by decide +kernel
theorem w_running : about1.status = .running := rfl
set_option maxRecDepth 65536 in
theorem w_room : about1.hasRoom e0.platform room_1 = true :=
  launch0.hasRoom_least _ room_1 (by decide +kernel) (by decide +kernel) (by decide +kernel) (by decide +kernel) (by decide +kernel) (by decide +kernel)
theorem allAtoms_all (ts : List Jvm.Cond) (a : Array Jvm.Value) (st : Jvm.State) : (allAtoms ts).before a st = ts.all (fun c => c.before a st) := by
  induction ts with
  | nil => rfl
  | cons c t ih =>
    show (Jvm.Cond.and c (allAtoms t)).before a st = _
    rw [Jvm.Cond.before_and, ih, List.all_cons]
def words1 : List Jvm.Cond := Jvm.Cond.code x code maxLocals ret :: tables_1
/-- a 'code' word, met by the world's own term for the bytes: nothing is compared byte by byte -/
theorem code_word {y : MethodName} {bytes : ByteArray} {mx : Nat} {rt : Option FieldType} {a : Array Value} {s : State} {m : MethodId} {meth : Method} {c : Code} (h1 : s.methodNamed? y = some m) (h2 : s.vm.method? m = some meth) (h3 : meth.code = some c) (h4 : c.code = bytes)
    (h5 : (c.maxLocals == mx && c.exceptionTable.isEmpty && decide (c.maxStack ≤ mostOperands) && decide (meth.sig.returnType = rt) && !meth.locks && decide (parseMethodDescriptor y.desc = some meth.sig)) = true) : (Jvm.Cond.code y bytes mx rt).before a s = true := by
  simp only [Bool.and_eq_true, beq_iff_eq, Bool.not_eq_true', decide_eq_true_eq] at h5
  obtain ⟨⟨⟨⟨⟨g1, g2⟩, g3⟩, g4⟩, g5⟩, g6⟩ := h5
  simp [Cond.before, Cond.holds, Cond.value, h1, h2, h3, h4, g1, g2, g3, g4, g5, g6]
def isCode : Jvm.Cond → Bool
  | .code _ _ _ _ => true
  | _ => false
theorem all_split {L : List Jvm.Cond} {P : Jvm.Cond → Bool} (h1 : L.all (fun c => isCode c || P c) = true) (h2 : ∀ c ∈ L.filter isCode, P c = true) : L.all P = true := by
  refine List.all_eq_true.mpr fun c hc => ?_
  have h := List.all_eq_true.mp h1 c hc
  rcases Bool.eq_false_or_eq_true (isCode c) with hi | hi
  · exact h2 c (List.mem_filter.mpr ⟨hc, hi⟩)
  · simpa [hi] using h
set_option maxRecDepth 65536 in
theorem w_c0 : (Jvm.Cond.code x code maxLocals ret).before args0 about1 = true := code_word (m := ⟨1, 1⟩) (meth := k1m1) (c := k1c1) (by decide +kernel) rfl rfl rfl (by decide +kernel)
set_option maxRecDepth 65536 in
theorem w_c1 : (Jvm.Cond.code ({ cls := "java/lang/Math", name := "min", desc := "(II)I" } : Jvm.MethodName) jdk_29_method_69_code (2 : Nat) (Option.some Jvm.ClassFile.FieldType.int)).before args0 about1 = true := code_word (m := ⟨2, 2⟩) (meth := k2m2) (c := k2c2) (by decide +kernel) rfl rfl rfl (by decide +kernel)
set_option maxRecDepth 65536 in
theorem w_c2 : (Jvm.Cond.code ({ cls := "java/lang/Math", name := "max", desc := "(II)I" } : Jvm.MethodName) jdk_29_method_65_code (2 : Nat) (Option.some Jvm.ClassFile.FieldType.int)).before args0 about1 = true := code_word (m := ⟨2, 1⟩) (meth := k2m1) (c := k2c1) (by decide +kernel) rfl rfl rfl (by decide +kernel)
set_option maxRecDepth 65536 in
theorem w_c3 : (Jvm.Cond.code ({ cls := "java/lang/String", name := "<init>", desc := "([C)V" } : Jvm.MethodName) jdk_42_method_3_code (2 : Nat) (Option.none : Option Jvm.ClassFile.FieldType)).before args0 about1 = true := code_word (m := ⟨9, 1⟩) (meth := k9m1) (c := k9c1) (by decide +kernel) rfl rfl rfl (by decide +kernel)
set_option maxRecDepth 65536 in
theorem w_c4 : (Jvm.Cond.code ({ cls := "java/lang/String", name := "<init>", desc := "([CIILjava/lang/Void;)V" } : Jvm.MethodName) jdk_42_method_149_code (6 : Nat) (Option.none : Option Jvm.ClassFile.FieldType)).before args0 about1 = true := code_word (m := ⟨9, 4⟩) (meth := k9m4) (c := k9c4) (by decide +kernel) rfl rfl rfl (by decide +kernel)
set_option maxRecDepth 65536 in
theorem w_c5 : (Jvm.Cond.code ({ cls := "java/lang/Object", name := "<init>", desc := "()V" } : Jvm.MethodName) object_method_1_code (1 : Nat) (Option.none : Option Jvm.ClassFile.FieldType)).before args0 about1 = true := code_word (m := ⟨0, 0⟩) (meth := k0m0) (c := k0c0) (by decide +kernel) rfl rfl rfl (by decide +kernel)
set_option maxRecDepth 65536 in
theorem w_c6 : (Jvm.Cond.code ({ cls := "java/lang/StringUTF16", name := "compress", desc := "([CII)[B" } : Jvm.MethodName) jdk_52_method_16_code (6 : Nat) (Option.some (Jvm.ClassFile.FieldType.array Jvm.ClassFile.FieldType.byte))).before args0 about1 = true := code_word (m := ⟨10, 2⟩) (meth := k10m2) (c := k10c2) (by decide +kernel) rfl rfl rfl (by decide +kernel)
set_option maxRecDepth 65536 in
theorem w_c7 : (Jvm.Cond.code ({ cls := "java/lang/StringUTF16", name := "compress", desc := "([CI[BII)I" } : Jvm.MethodName) jdk_52_method_21_code (7 : Nat) (Option.some Jvm.ClassFile.FieldType.int)).before args0 about1 = true := code_word (m := ⟨10, 3⟩) (meth := k10m3) (c := k10c3) (by decide +kernel) rfl rfl rfl (by decide +kernel)
set_option maxRecDepth 65536 in
theorem w_c8 : (Jvm.Cond.code ({ cls := "java/lang/StringUTF16", name := "coderFromArrayLen", desc := "([BI)B" } : Jvm.MethodName) jdk_52_method_15_code (2 : Nat) (Option.some Jvm.ClassFile.FieldType.byte)).before args0 about1 = true := code_word (m := ⟨10, 1⟩) (meth := k10m1) (c := k10c1) (by decide +kernel) rfl rfl rfl (by decide +kernel)
set_option maxRecDepth 65536 in
theorem w_c9 : (Jvm.Cond.code ({ cls := "com/example/attestrail/attestrail/event/AsciiClass", name := "<init>", desc := "(Ljava/lang/String;)V" } : Jvm.MethodName) prog_37_method_1_code (6 : Nat) (Option.none : Option Jvm.ClassFile.FieldType)).before args0 about1 = true := code_word (m := ⟨3, 0⟩) (meth := k3m0) (c := k3c0) (by decide +kernel) rfl rfl rfl (by decide +kernel)
set_option maxRecDepth 65536 in
theorem w_c10 : (Jvm.Cond.code ({ cls := "java/lang/String", name := "length", desc := "()I" } : Jvm.MethodName) jdk_42_method_54_code (1 : Nat) (Option.some Jvm.ClassFile.FieldType.int)).before args0 about1 = true := code_word (m := ⟨9, 2⟩) (meth := k9m2) (c := k9c2) (by decide +kernel) rfl rfl rfl (by decide +kernel)
set_option maxRecDepth 65536 in
theorem w_c11 : (Jvm.Cond.code ({ cls := "java/lang/String", name := "coder", desc := "()B" } : Jvm.MethodName) jdk_42_method_152_code (1 : Nat) (Option.some Jvm.ClassFile.FieldType.byte)).before args0 about1 = true := code_word (m := ⟨9, 5⟩) (meth := k9m5) (c := k9c5) (by decide +kernel) rfl rfl rfl (by decide +kernel)
set_option maxRecDepth 65536 in
theorem w_c12 : (Jvm.Cond.code ({ cls := "java/lang/String", name := "charAt", desc := "(I)C" } : Jvm.MethodName) jdk_42_method_56_code (2 : Nat) (Option.some Jvm.ClassFile.FieldType.char)).before args0 about1 = true := code_word (m := ⟨9, 3⟩) (meth := k9m3) (c := k9c3) (by decide +kernel) rfl rfl rfl (by decide +kernel)
set_option maxRecDepth 65536 in
theorem w_c13 : (Jvm.Cond.code ({ cls := "java/lang/String", name := "isLatin1", desc := "()Z" } : Jvm.MethodName) jdk_42_method_154_code (1 : Nat) (Option.some Jvm.ClassFile.FieldType.boolean)).before args0 about1 = true := code_word (m := ⟨9, 6⟩) (meth := k9m6) (c := k9c6) (by decide +kernel) rfl rfl rfl (by decide +kernel)
set_option maxRecDepth 65536 in
theorem w_c14 : (Jvm.Cond.code ({ cls := "java/lang/StringLatin1", name := "charAt", desc := "([BI)C" } : Jvm.MethodName) jdk_43_method_2_code (2 : Nat) (Option.some Jvm.ClassFile.FieldType.char)).before args0 about1 = true := code_word (m := ⟨11, 1⟩) (meth := k11m1) (c := k11c1) (by decide +kernel) rfl rfl rfl (by decide +kernel)
set_option maxRecDepth 65536 in
theorem w_c15 : (Jvm.Cond.code ({ cls := "java/lang/String", name := "checkIndex", desc := "(II)V" } : Jvm.MethodName) jdk_42_method_155_code (2 : Nat) (Option.none : Option Jvm.ClassFile.FieldType)).before args0 about1 = true := code_word (m := ⟨9, 7⟩) (meth := k9m7) (c := k9c7) (by decide +kernel) rfl rfl rfl (by decide +kernel)
set_option maxRecDepth 65536 in
theorem w_c16 : (Jvm.Cond.code ({ cls := "jdk/internal/util/Preconditions", name := "checkIndex", desc := "(IILjava/util/function/BiFunction;)I" } : Jvm.MethodName) jdk_41_method_11_code (3 : Nat) (Option.some Jvm.ClassFile.FieldType.int)).before args0 about1 = true := code_word (m := ⟨12, 1⟩) (meth := k12m1) (c := k12c1) (by decide +kernel) rfl rfl rfl (by decide +kernel)
set_option maxRecDepth 65536 in
theorem w_c17 : (Jvm.Cond.code ({ cls := "com/example/attestrail/attestrail/event/AsciiClass", name := "has", desc := "(C)Z" } : Jvm.MethodName) prog_37_method_2_code (2 : Nat) (Option.some Jvm.ClassFile.FieldType.boolean)).before args0 about1 = true := code_word (m := ⟨3, 1⟩) (meth := k3m1) (c := k3c1) (by decide +kernel) rfl rfl rfl (by decide +kernel)
def codes1 : List Jvm.Cond := [Jvm.Cond.code x code maxLocals ret, Jvm.Cond.code ({ cls := "java/lang/Math", name := "min", desc := "(II)I" } : Jvm.MethodName) jdk_29_method_69_code (2 : Nat) (Option.some Jvm.ClassFile.FieldType.int), Jvm.Cond.code ({ cls := "java/lang/Math", name := "max", desc := "(II)I" } : Jvm.MethodName) jdk_29_method_65_code (2 : Nat) (Option.some Jvm.ClassFile.FieldType.int), Jvm.Cond.code ({ cls := "java/lang/String", name := "<init>", desc := "([C)V" } : Jvm.MethodName) jdk_42_method_3_code (2 : Nat) (Option.none : Option Jvm.ClassFile.FieldType), Jvm.Cond.code ({ cls := "java/lang/String", name := "<init>", desc := "([CIILjava/lang/Void;)V" } : Jvm.MethodName) jdk_42_method_149_code (6 : Nat) (Option.none : Option Jvm.ClassFile.FieldType), Jvm.Cond.code ({ cls := "java/lang/Object", name := "<init>", desc := "()V" } : Jvm.MethodName) object_method_1_code (1 : Nat) (Option.none : Option Jvm.ClassFile.FieldType), Jvm.Cond.code ({ cls := "java/lang/StringUTF16", name := "compress", desc := "([CII)[B" } : Jvm.MethodName) jdk_52_method_16_code (6 : Nat) (Option.some (Jvm.ClassFile.FieldType.array Jvm.ClassFile.FieldType.byte)), Jvm.Cond.code ({ cls := "java/lang/StringUTF16", name := "compress", desc := "([CI[BII)I" } : Jvm.MethodName) jdk_52_method_21_code (7 : Nat) (Option.some Jvm.ClassFile.FieldType.int), Jvm.Cond.code ({ cls := "java/lang/StringUTF16", name := "coderFromArrayLen", desc := "([BI)B" } : Jvm.MethodName) jdk_52_method_15_code (2 : Nat) (Option.some Jvm.ClassFile.FieldType.byte), Jvm.Cond.code ({ cls := "com/example/attestrail/attestrail/event/AsciiClass", name := "<init>", desc := "(Ljava/lang/String;)V" } : Jvm.MethodName) prog_37_method_1_code (6 : Nat) (Option.none : Option Jvm.ClassFile.FieldType), Jvm.Cond.code ({ cls := "java/lang/String", name := "length", desc := "()I" } : Jvm.MethodName) jdk_42_method_54_code (1 : Nat) (Option.some Jvm.ClassFile.FieldType.int), Jvm.Cond.code ({ cls := "java/lang/String", name := "coder", desc := "()B" } : Jvm.MethodName) jdk_42_method_152_code (1 : Nat) (Option.some Jvm.ClassFile.FieldType.byte), Jvm.Cond.code ({ cls := "java/lang/String", name := "charAt", desc := "(I)C" } : Jvm.MethodName) jdk_42_method_56_code (2 : Nat) (Option.some Jvm.ClassFile.FieldType.char), Jvm.Cond.code ({ cls := "java/lang/String", name := "isLatin1", desc := "()Z" } : Jvm.MethodName) jdk_42_method_154_code (1 : Nat) (Option.some Jvm.ClassFile.FieldType.boolean), Jvm.Cond.code ({ cls := "java/lang/StringLatin1", name := "charAt", desc := "([BI)C" } : Jvm.MethodName) jdk_43_method_2_code (2 : Nat) (Option.some Jvm.ClassFile.FieldType.char), Jvm.Cond.code ({ cls := "java/lang/String", name := "checkIndex", desc := "(II)V" } : Jvm.MethodName) jdk_42_method_155_code (2 : Nat) (Option.none : Option Jvm.ClassFile.FieldType), Jvm.Cond.code ({ cls := "jdk/internal/util/Preconditions", name := "checkIndex", desc := "(IILjava/util/function/BiFunction;)I" } : Jvm.MethodName) jdk_41_method_11_code (3 : Nat) (Option.some Jvm.ClassFile.FieldType.int), Jvm.Cond.code ({ cls := "com/example/attestrail/attestrail/event/AsciiClass", name := "has", desc := "(C)Z" } : Jvm.MethodName) prog_37_method_2_code (2 : Nat) (Option.some Jvm.ClassFile.FieldType.boolean)]
set_option maxRecDepth 65536 in
theorem codes_eq : words1.filter isCode = codes1 := rfl
theorem w_codes : ∀ c ∈ words1.filter isCode, c.before args0 about1 = true := by
  rw [codes_eq]
  intro c hc
  simp only [codes1, List.mem_cons, List.not_mem_nil, or_false] at hc
  rcases hc with rfl | rfl | rfl | rfl | rfl | rfl | rfl | rfl | rfl | rfl | rfl | rfl | rfl | rfl | rfl | rfl | rfl | rfl
  · exact w_c0
  · exact w_c1
  · exact w_c2
  · exact w_c3
  · exact w_c4
  · exact w_c5
  · exact w_c6
  · exact w_c7
  · exact w_c8
  · exact w_c9
  · exact w_c10
  · exact w_c11
  · exact w_c12
  · exact w_c13
  · exact w_c14
  · exact w_c15
  · exact w_c16
  · exact w_c17
set_option maxRecDepth 65536 in
theorem w_t1 : (words1.take 24).all (fun c => isCode c || c.before args0 about1) = true := by decide +kernel
set_option maxRecDepth 65536 in
theorem w_t2 : ((words1.drop 24).take 24).all (fun c => isCode c || c.before args0 about1) = true := by decide +kernel
set_option maxRecDepth 65536 in
theorem w_t3 : (((words1.drop 24).drop 24).take 24).all (fun c => isCode c || c.before args0 about1) = true := by decide +kernel
set_option maxRecDepth 65536 in
theorem w_t4 : (((words1.drop 24).drop 24).drop 24).all (fun c => isCode c || c.before args0 about1) = true := by decide +kernel
theorem w_tables : (allAtoms (Jvm.Cond.code x code maxLocals ret :: tables_1)).before args0 about1 = true := by
  rw [allAtoms_all]
  show words1.all (fun c => c.before args0 about1) = true
  refine all_split ?_ w_codes
  rw [← List.take_append_drop 24 words1, List.all_append, w_t1, ← List.take_append_drop 24 (words1.drop 24), List.all_append, w_t2, ← List.take_append_drop 24 ((words1.drop 24).drop 24), List.all_append, w_t3, w_t4]
  rfl
set_option maxRecDepth 65536 in
theorem w_rest : rest_1_c.before args0 about1 = true := by decide +kernel
set_option maxRecDepth 65536 in
theorem w_case : (Jvm.Cond.and given_1 narrow_1).before args0 about1 = true := by decide +kernel
theorem w_applies : (headSpec (Jvm.Cond.code x code maxLocals ret :: tables_1) room_1).applies x e0.platform about1 = true :=
  (Spec.applies_iff w_frames).mpr ⟨w_running, w_runnable, w_alone, w_named, w_hears, w_ripe, w_room, w_tables⟩
theorem atStart : AtStart classFile x code maxLocals ret World_1 tables_1 room_1 Calls_1 rest_1 Pre_1 launch0 p0 e0 about1 theMethod args0 below0 :=
  ⟨lists_1, trivial, launch0.admits_env _ _ _, launch0.least_env, fairChoices_fair.cas, fairChoices_fair.clock, w_frames, w_args, w_heap, w_applies, trivial, w_rest, w_case⟩
end start1
theorem witness_1 : WitnessClaimed_1 := ⟨start1.p0, start1.e0, start1.about1, start1.theMethod, start1.args0, start1.below0, start1.atStart⟩
end Jvm.Pilot.@@N@@
