import JvmDerived
import JvmDerived.Pilot.@@N@@Statement
import JvmDerived.Pilot.@@N@@Code
set_option linter.unusedVariables false
set_option linter.unusedSimpArgs false
namespace Jvm.RoadKit
open Sem ClassFile Op Lib Jvm.Stand Jvm.Free Jvm.LawKit
section New
variable {p : Program} {l : Launch} {e : Env} {R : Room} {s : State} {m : MethodId} {args : Array Value} {below : List Frame} {meth : Method} {c : Code} {T : State} {locs : List Loc} {cells slots : Nat}
theorem retI (X : Stand p l e R s m args below meth c T locs cells slots) (hx : p.tables.exec = Jvm.exec) {pc : Nat} {Ls : Array Slot} {z : Int32} {rest : List Value} (hret : meth.sig.returnType = some .int) (hd : decode c.code pc = .ok (.ireturn, 1)) {fs : List Frame}
    (hl : ∀ (f : JFrame) (acts : List Action), f.method = m → f.locked = none → f.entered = [] → (doReturn e (T.setTop f) acts (some (.int z))).1 = T.setFrames fs) : Steps p.tables e below (T.setTop (mkF m pc Ls (.int z :: rest))) (T.setFrames fs) :=
  retOut X hx hret rfl (Or.inl ⟨rfl, Or.inl rfl, _, rfl⟩) hd hl
end New
end Jvm.RoadKit
/- laws to paste: Road.backV, Road.lenW, Road.chN, Road.eqW, Road.codOf (cut by pick.py; bodies as the Statement names them) -/
namespace Jvm.Pilot.@@N@@
namespace StrChars
open Jvm Sem ClassFile Op Lib Jvm.Stand Jvm.Free.XT Jvm.Free.ALB Jvm.Free.JM Jvm.Free
open Jvm.Lib.Cold (StaticIs)
/-- a char array whose places are chars -/
def Ch (a : Addr) (A : Cell) (U : State) : Prop := Arr .char a A U ∧ Typed .char A
theorem Ch.mv {a : Addr} {A : Cell} {U U' : State} (h : Ch a A U) (hal : U.vm.Alike U'.vm) (hh : U'.heap = U.heap) : Ch a A U' := ⟨h.1.mv hal hh, h.2⟩
theorem Ch.keep {a : Addr} {A : Cell} {U U' : State} (h : Ch a A U) (hal : U.vm.Alike U'.vm) (hk : U'.heap[a]? = some A) : Ch a A U' := ⟨h.1.keep hal hk, h.2⟩
/-- what place i of a char[]'s cell holds -/
def cv (A : Cell) (i : Nat) : Int32 := match A.slots[i]? with | some (.int x) => x | _ => 0
theorem Ch.get {a : Addr} {A : Cell} {U : State} (h : Ch a A U) {i : Nat} (hi : i < A.slots.size) : A.slots[i]? = some (.int (cv A i)) := by
  have e := Array.getElem?_eq_getElem hi
  have f := h.2 i _ e
  unfold cv; rw [e]
  generalize A.slots[i] = v at f
  cases v <;> simp [fits] at f ⊢
/-- the byte that i2b leaves of a char -/
def lo8 (x : Int32) : Int32 := x.toInt8.toInt32
theorem fits_lo8 (y : Int32) : fits .byte (.int (lo8 y)) = true := by
  have h1 := y.toInt8.le_toInt
  have h2 := y.toInt8.toInt_lt
  simp only [lo8, fits, Bool.and_eq_true, decide_eq_true_eq, Int32.le_iff_toInt_le, Int8.toInt_toInt32, show (-128 : Int32).toInt = -128 from by decide, show (127 : Int32).toInt = 127 from by decide]
  omega
/-- A' is A but that each place j of lo .. hi - 1 holds f j -/
def Laid (A A' : Cell) (lo hi : Nat) (f : Nat → Value) : Prop := A'.cls = A.cls ∧ A'.vm = A.vm ∧ A'.slots.size = A.slots.size ∧ ∀ i, A'.slots[i]? = if lo ≤ i ∧ i < hi then some (f i) else A.slots[i]?
theorem Laid.zero (A : Cell) (lo : Nat) (f : Nat → Value) : Laid A A lo (lo + 0) f := ⟨rfl, rfl, rfl, fun i => by rw [if_neg (by omega)]⟩
theorem Laid.step {A Ak : Cell} {lo k : Nat} {f : Nat → Value} {v : Value} (h : Laid A Ak lo k f) (hlo : lo ≤ k) (hk : k < Ak.slots.size) (hv : v = f k) : Laid A (Ak.setSlot k v) lo (k + 1) f := by
  refine ⟨h.1, h.2.1, by simpa [Cell.setSlot] using h.2.2.1, fun i => ?_⟩
  by_cases e : k = i
  · subst e; rw [Cell.slots_setSlot_self v hk, if_pos (by omega), hv]
  · rw [Cell.slots_setSlot_ne v e, h.2.2.2 i]
    by_cases q : lo ≤ i ∧ i < k
    · rw [if_pos q, if_pos (by omega)]
    · rw [if_neg q, if_neg (by omega)]
def U16 : String := "java/lang/StringUTF16"
namespace Cmp5
def yN : MethodName := ⟨"java/lang/StringUTF16", "compress", "([CI[BII)I"⟩
abbrev yB : ByteArray := jdk_52_method_21_code
theorem d0 : decode yB 0 = .ok (.iconst 0, 1) := by decide +kernel
theorem d1 : decode yB 1 = .ok (.istore 5, 2) := by decide +kernel
theorem d3 : decode yB 3 = .ok (.iload 5, 2) := by decide +kernel
theorem d5 : decode yB 5 = .ok (.iload 4, 2) := by decide +kernel
theorem d7 : decode yB 7 = .ok (.if_icmp (.ge) 37, 3) := by decide +kernel
theorem d10 : decode yB 10 = .ok (.aload_n 0, 1) := by decide +kernel
theorem d11 : decode yB 11 = .ok (.iload_n 1, 1) := by decide +kernel
theorem d12 : decode yB 12 = .ok (.caload, 1) := by decide +kernel
theorem d13 : decode yB 13 = .ok (.istore 6, 2) := by decide +kernel
theorem d15 : decode yB 15 = .ok (.iload 6, 2) := by decide +kernel
theorem d17 : decode yB 17 = .ok (.sipush 255, 3) := by decide +kernel
theorem d20 : decode yB 20 = .ok (.if_icmp (.le) 6, 3) := by decide +kernel
theorem d26 : decode yB 26 = .ok (.aload_n 2, 1) := by decide +kernel
theorem d27 : decode yB 27 = .ok (.iload_n 3, 1) := by decide +kernel
theorem d28 : decode yB 28 = .ok (.iload 6, 2) := by decide +kernel
theorem d30 : decode yB 30 = .ok (.i2b, 1) := by decide +kernel
theorem d31 : decode yB 31 = .ok (.bastore, 1) := by decide +kernel
theorem d32 : decode yB 32 = .ok (.iinc 1 1, 3) := by decide +kernel
theorem d35 : decode yB 35 = .ok (.iinc 3 1, 3) := by decide +kernel
theorem d38 : decode yB 38 = .ok (.iinc 5 1, 3) := by decide +kernel
theorem d41 : decode yB 41 = .ok (.goto (-38), 3) := by decide +kernel
theorem d44 : decode yB 44 = .ok (.iload 4, 2) := by decide +kernel
theorem d46 : decode yB 46 = .ok (.ireturn, 1) := by decide +kernel
def site : List Cond := []
def tab : Cond := tabOf yN yB 7 (some .int) site
def P (b : Addr) (A : Cell) (d : Addr) (B : Cell) (o q len : Nat) (args : Array Value) (s : State) : Prop := args = #[.ref b, .int (Int32.ofNat o), .ref d, .int (Int32.ofNat q), .int (Int32.ofNat len)] ∧ Ch b A s ∧ Arr .byte d B s ∧ b ≠ d ∧ o + len ≤ A.slots.size ∧ q + len ≤ B.slots.size ∧ ∀ i, i < len → ¬ 255 < cv A (o + i)
def E (b : Addr) (A : Cell) (d : Addr) (B : Cell) (o q len : Nat) (r : Option Value) (s u : State) : Prop := r = some (.int (Int32.ofNat len)) ∧ ∃ B', Put d B' s u ∧ Laid B B' q (q + len) (fun j => Value.int (lo8 (cv A (o + (j - q)))))
/-- no char of the range above 255: len; the places written hold each char's low byte -/
theorem law (l : Launch) (b : Addr) (A : Cell) (d : Addr) (B : Cell) (o q len : Nat) : Law l yN 5 5 0 0 yB 7 (some .int) site (P b A d B o q len) (E b A d B o q len) (copyLocs d q len) 0 0 := by
  refine Law.of_walk (plainFor_of_name (by decide +kernel)) (by decide +kernel) (by decide +kernel) (by decide) (fun _ _ h => by rw [h.1]; rfl) (fun _ U U' hal hh h => ⟨h.1, h.2.1.mv hal hh, h.2.2.1.mv hal hh, h.2.2.2⟩) (fun r U U' V V' h1 hal h2 h => ⟨h.1, h.2.elim fun B' q => ⟨B', q.1.mv h1 h2, q.2⟩⟩) ?_
  intro p e s m args below meth c s₁ X0 hexec hbytes hml hret hlk hnm hown hh0 W hP
  obtain ⟨rfl, hA, hB, hne, l1, l2, hp⟩ := hP
  have c1 : Steps p.tables e below (s₁.setTop (entryFrame m #[.ref b, .int (Int32.ofNat o), .ref d, .int (Int32.ofNat q), .int (Int32.ofNat len)] 7)) (s₁.setTop (mkF m 0 #[.val (.ref b), .val (.int (Int32.ofNat o)), .val (.ref d), .val (.int (Int32.ofNat q)), .val (.int (Int32.ofNat len)), .unset, .unset] [])) := entry rfl
  have hA0 := hA.1.mv X0.warmed.alike hh0
  have hB0 := hB.mv X0.warmed.alike hh0
  have a31 := hA.1.2.2.2
  have c2 : Steps p.tables e below (s₁.setTop (entryFrame m #[.ref b, .int (Int32.ofNat o), .ref d, .int (Int32.ofNat q), .int (Int32.ofNat len)] 7)) (s₁.setTop (mkF m 3 #[.val (.ref b), .val (.int (Int32.ofNat o)), .val (.ref d), .val (.int (Int32.ofNat q)), .val (.int (Int32.ofNat len)), .val (.int 0), .unset] [])) := c1.trans (by
    refine iconstV X0.here hexec rfl 0 (hb hbytes d0) (by decide) ?_
    refine XS.istore X0.here hexec rfl (hb hbytes d1) rfl rfl ?_
    exact Steps.refl _)
  have loop : ∀ (r i : Nat), i + r = len → ∀ (z : Slot), (z = .unset ∨ ∃ w, z = .val w ∧ w.category = 1) → ∀ (Tl : State) (Bk : Cell), Stand p l e { frames := 0, locals := 0, cells := 0, slots := 0 } s m #[.ref b, .int (Int32.ofNat o), .ref d, .int (Int32.ofNat q), .int (Int32.ofNat len)] below meth c Tl ([] ++ copyLocs d q i) 0 0 → Put d Bk s₁ Tl → Laid B Bk q (q + i) (fun j => Value.int (lo8 (cv A (o + (j - q))))) →
      Steps p.tables e below (s₁.setTop (entryFrame m #[.ref b, .int (Int32.ofNat o), .ref d, .int (Int32.ofNat q), .int (Int32.ofNat len)] 7)) (Tl.setTop (mkF m 3 #[.val (.ref b), .val (.int (Int32.ofNat (o + i))), .val (.ref d), .val (.int (Int32.ofNat (q + i))), .val (.int (Int32.ofNat len)), .val (.int (Int32.ofNat i)), z] [])) → ∃ (T' : State) (B' : Cell) (z' : Slot), Stand p l e { frames := 0, locals := 0, cells := 0, slots := 0 } s m #[.ref b, .int (Int32.ofNat o), .ref d, .int (Int32.ofNat q), .int (Int32.ofNat len)] below meth c T' ([] ++ copyLocs d q len) 0 0 ∧ Put d B' s₁ T' ∧ Laid B B' q (q + len) (fun j => Value.int (lo8 (cv A (o + (j - q))))) ∧
      Steps p.tables e below (s₁.setTop (entryFrame m #[.ref b, .int (Int32.ofNat o), .ref d, .int (Int32.ofNat q), .int (Int32.ofNat len)] 7)) (T'.setTop (mkF m 3 #[.val (.ref b), .val (.int (Int32.ofNat (o + len))), .val (.ref d), .val (.int (Int32.ofNat (q + len))), .val (.int (Int32.ofNat len)), .val (.int (Int32.ofNat len)), z'] [])) := by
    intro r
    induction r with
    | zero =>
      intro i hi z hz Tl Bk Xl pl fl cl
      have hil : i = len := by omega
      rw [hil] at Xl fl cl
      exact ⟨Tl, Bk, z, Xl, pl, fl, cl⟩
    | succ r ih =>
      intro i hi z hz Tl Bk Xl pl fl cl
      have all := X0.warmed.alike.symm.trans Xl.warmed.alike
      have hAl := hA0.keep all (pl.other hne hA0.1)
      have hBk := hB0.like all pl.1 fl.1 fl.2.1 fl.2.2.1
      have hlt : q + i < Bk.slots.size := by rw [fl.2.2.1]; omega
      have c3 : Steps p.tables e below (s₁.setTop (entryFrame m #[.ref b, .int (Int32.ofNat o), .ref d, .int (Int32.ofNat q), .int (Int32.ofNat len)] 7)) (Tl.setTop (mkF m 12 #[.val (.ref b), .val (.int (Int32.ofNat (o + i))), .val (.ref d), .val (.int (Int32.ofNat (q + i))), .val (.int (Int32.ofNat len)), .val (.int (Int32.ofNat i)), z] [.int (Int32.ofNat (o + i)), .ref b])) := cl.trans (by
        refine XS.iload Xl.here hexec rfl (hb hbytes d3) rfl ?_
        refine XS.iload Xl.here hexec rfl (hb hbytes d5) rfl ?_
        refine XS.icmpNo Xl.here hexec rfl (hb hbytes d7) rfl (ii_ge_f (lt32 (by omega) (by omega))) ?_
        refine XS.aloadN Xl.here hexec rfl (hb hbytes d10) rfl rfl ?_
        refine XS.iloadN Xl.here hexec rfl (hb hbytes d11) rfl ?_
        exact Steps.refl _)
      have c4 : Steps p.tables e below (s₁.setTop (entryFrame m #[.ref b, .int (Int32.ofNat o), .ref d, .int (Int32.ofNat q), .int (Int32.ofNat len)] 7)) (Tl.setTop (mkF m 13 #[.val (.ref b), .val (.int (Int32.ofNat (o + i))), .val (.ref d), .val (.int (Int32.ofNat (q + i))), .val (.int (Int32.ofNat len)), .val (.int (Int32.ofNat i)), z] [.int (cv A (o + i))])) := c3.trans (by
        refine Xl.aget hexec hAl rfl (hA.get (i := o + i) (by omega)) rfl rfl (hb hbytes d12) ?_
        exact Steps.refl _)
      have c5 : Steps p.tables e below (s₁.setTop (entryFrame m #[.ref b, .int (Int32.ofNat o), .ref d, .int (Int32.ofNat q), .int (Int32.ofNat len)] 7)) (Tl.setTop (mkF m 15 #[.val (.ref b), .val (.int (Int32.ofNat (o + i))), .val (.ref d), .val (.int (Int32.ofNat (q + i))), .val (.int (Int32.ofNat len)), .val (.int (Int32.ofNat i)), .val (.int (cv A (o + i)))] [])) := c4.trans (by
        refine XS.istoreS Xl.here hexec rfl (hb hbytes d13) rfl rfl hz ?_
        exact Steps.refl _)
      have c6 : Steps p.tables e below (s₁.setTop (entryFrame m #[.ref b, .int (Int32.ofNat o), .ref d, .int (Int32.ofNat q), .int (Int32.ofNat len)] 7)) (Tl.setTop (mkF m 31 #[.val (.ref b), .val (.int (Int32.ofNat (o + i))), .val (.ref d), .val (.int (Int32.ofNat (q + i))), .val (.int (Int32.ofNat len)), .val (.int (Int32.ofNat i)), .val (.int (cv A (o + i)))] [.int (lo8 (cv A (o + i))), .int (Int32.ofNat (q + i)), .ref d])) := c5.trans (by
        refine XS.iload Xl.here hexec rfl (hb hbytes d15) rfl ?_
        refine sipushV Xl.here hexec rfl 255 (hb hbytes d17) (by decide) ?_
        refine XS.icmpYes Xl.here hexec rfl (pc0 := 20) rfl (hb hbytes d20) rfl (ii_le_t (hp i (by omega))) (by decide) rfl ?_
        refine XS.aloadN Xl.here hexec rfl (hb hbytes d26) rfl rfl ?_
        refine XS.iloadN Xl.here hexec rfl (hb hbytes d27) rfl ?_
        refine XS.iload Xl.here hexec rfl (hb hbytes d28) rfl ?_
        refine i2b Xl.here hexec rfl (hb hbytes d30) rfl ?_
        exact Steps.refl _)
      obtain ⟨T7, X7, p7, st7⟩ := Xl.aput hexec hBk rfl hlt rfl (fits_lo8 (cv A (o + i))) (g := (mkF m 31 #[.val (.ref b), .val (.int (Int32.ofNat (o + i))), .val (.ref d), .val (.int (Int32.ofNat (q + i))), .val (.int (Int32.ofNat len)), .val (.int (Int32.ofNat i)), .val (.int (cv A (o + i)))] [.int (lo8 (cv A (o + i))), .int (Int32.ofNat (q + i)), .ref d])) rfl (rest := []) rfl (hb hbytes d31)
      have c8 : Steps p.tables e below (s₁.setTop (entryFrame m #[.ref b, .int (Int32.ofNat o), .ref d, .int (Int32.ofNat q), .int (Int32.ofNat len)] 7)) (T7.setTop (mkF m 32 #[.val (.ref b), .val (.int (Int32.ofNat (o + i))), .val (.ref d), .val (.int (Int32.ofNat (q + i))), .val (.int (Int32.ofNat len)), .val (.int (Int32.ofNat i)), .val (.int (cv A (o + i)))] [])) := c6.trans (st7 _ (Steps.refl _))
      have c9 : Steps p.tables e below (s₁.setTop (entryFrame m #[.ref b, .int (Int32.ofNat o), .ref d, .int (Int32.ofNat q), .int (Int32.ofNat len)] 7)) (T7.setTop (mkF m 3 #[.val (.ref b), .val (.int (Int32.ofNat (o + i) + 1)), .val (.ref d), .val (.int (Int32.ofNat (q + i) + 1)), .val (.int (Int32.ofNat len)), .val (.int (Int32.ofNat i + 1)), .val (.int (cv A (o + i)))] [])) := c8.trans (by
        refine iincV X7.here hexec rfl 1 (hb hbytes d32) (by decide) rfl rfl ?_
        refine iincV X7.here hexec rfl 1 (hb hbytes d35) (by decide) rfl rfl ?_
        refine iincV X7.here hexec rfl 1 (hb hbytes d38) (by decide) rfl rfl ?_
        refine XS.goto X7.here hexec rfl (pc0 := 41) rfl (hb hbytes d41) (by decide) rfl ?_
        exact Steps.refl _)
      have c10 : Steps p.tables e below (s₁.setTop (entryFrame m #[.ref b, .int (Int32.ofNat o), .ref d, .int (Int32.ofNat q), .int (Int32.ofNat len)] 7)) (T7.setTop (mkF m 3 #[.val (.ref b), .val (.int (Int32.ofNat (o + (i + 1)))), .val (.ref d), .val (.int (Int32.ofNat (q + (i + 1)))), .val (.int (Int32.ofNat len)), .val (.int (Int32.ofNat (i + 1))), .val (.int (cv A (o + i)))] [])) := by
        have := c9
        rw [succ32, succ32, succ32] at this
        exact this
      exact ih (i + 1) (by omega) _ (Or.inr ⟨_, rfl, rfl⟩) T7 _ (by rw [copyLocs_step, ← List.append_assoc]; exact X7) (pl.trans p7) (fl.step (by omega) hlt (by simp)) c10
  obtain ⟨T9, B9, z9, X9, p9, f9, g9⟩ := loop len 0 (by omega) .unset (Or.inl rfl) s₁ B (by simpa [copyLocs] using X0) ⟨hB0.1, fun _ _ => rfl, rfl⟩ (Laid.zero _ _ _) c2
  have c11 : Steps p.tables e below (s₁.setTop (entryFrame m #[.ref b, .int (Int32.ofNat o), .ref d, .int (Int32.ofNat q), .int (Int32.ofNat len)] 7)) (T9.setTop (mkF m 46 #[.val (.ref b), .val (.int (Int32.ofNat (o + len))), .val (.ref d), .val (.int (Int32.ofNat (q + len))), .val (.int (Int32.ofNat len)), .val (.int (Int32.ofNat len)), z9] [.int (Int32.ofNat len)])) := g9.trans (by
    refine XS.iload X9.here hexec rfl (hb hbytes d3) rfl ?_
    refine XS.iload X9.here hexec rfl (hb hbytes d5) rfl ?_
    refine XS.icmpYes X9.here hexec rfl (pc0 := 7) rfl (hb hbytes d7) rfl (ii_ge_t (nlt32 (by omega) (Nat.le_refl _))) (by decide) rfl ?_
    refine XS.iload X9.here hexec rfl (hb hbytes d44) rfl ?_
    exact Steps.refl _)
  exact ⟨T9, some (.int (Int32.ofNat len)), _, _, _, X9, by simp, rfl, rfl, (fun h => by cases h), ⟨rfl, B9, p9.from hh0, f9⟩, fun fs hl => c11.trans (X9.ireturnOut hexec hret rfl (Or.inl rfl) (hb hbytes d46) hl)⟩
end Cmp5
namespace Cmp3
def yN : MethodName := ⟨"java/lang/StringUTF16", "compress", "([CII)[B"⟩
abbrev yB : ByteArray := jdk_52_method_16_code
theorem d0 : decode yB 0 = .ok (.iload_n 2, 1) := by decide +kernel
theorem d1 : decode yB 1 = .ok (.newarray .byte, 2) := by decide +kernel
theorem d3 : decode yB 3 = .ok (.astore_n 3, 1) := by decide +kernel
theorem d4 : decode yB 4 = .ok (.aload_n 0, 1) := by decide +kernel
theorem d5 : decode yB 5 = .ok (.iload_n 1, 1) := by decide +kernel
theorem d6 : decode yB 6 = .ok (.aload_n 3, 1) := by decide +kernel
theorem d7 : decode yB 7 = .ok (.iconst 0, 1) := by decide +kernel
theorem d8 : decode yB 8 = .ok (.iload_n 2, 1) := by decide +kernel
theorem d9 : decode yB 9 = .ok (.invokestatic 115, 3) := by decide +kernel
theorem d12 : decode yB 12 = .ok (.istore 4, 2) := by decide +kernel
theorem d14 : decode yB 14 = .ok (.iload 4, 2) := by decide +kernel
theorem d16 : decode yB 16 = .ok (.iload_n 2, 1) := by decide +kernel
theorem d17 : decode yB 17 = .ok (.if_icmp (.eq) 40, 3) := by decide +kernel
theorem d57 : decode yB 57 = .ok (.aload_n 3, 1) := by decide +kernel
theorem d58 : decode yB 58 = .ok (.areturn, 1) := by decide +kernel
def site : List Cond := [.arrayClass .byte, Cmp5.tab] ++ staticW U16 115 Cmp5.yN
def tab : Cond := tabOf yN yB 6 (some (.array .byte)) site
def P (b : Addr) (A : Cell) (o len : Nat) (args : Array Value) (s : State) : Prop := args = #[.ref b, .int (Int32.ofNat o), .int (Int32.ofNat len)] ∧ Ch b A s ∧ o + len ≤ A.slots.size ∧ len ≤ 536870912 ∧ ∀ i, i < len → ¬ 255 < cv A (o + i)
def E (b : Addr) (A : Cell) (o len : Nat) (r : Option Value) (s u : State) : Prop := NewArr .byte "[B" len (fun j => .int (lo8 (cv A (o + j)))) r s u ∧ u.heap.size = s.heap.size + 1
/-- no char of the range above 255: a new byte[] of their low bytes -/
theorem law (l : Launch) (b : Addr) (A : Cell) (o len : Nat) : Law l yN 3 3 1 18 yB 6 (some (.array .byte)) site (P b A o len) (E b A o len) [] 1 len := by
  refine Law.of_walk (plainFor_of_name (by decide +kernel)) (by decide +kernel) (by decide +kernel) (by decide) (fun _ _ h => by rw [h.1]; rfl) (fun _ U U' hal hh h => ⟨h.1, h.2.1.mv hal hh, h.2.2⟩) (fun r U U' V V' h1 hal h2 h => ⟨NewArr.mv r U U' V V' h1 hal h2 h.1, by rw [h1, h2]; exact h.2⟩) ?_
  intro p e s m args below meth c s₁ X0 hexec hbytes hml hret hlk hnm hown hh0 W hP
  obtain ⟨rfl, hA, l1, l2, hp⟩ := hP
  have a31 := hA.1.2.2.2
  have c1 : Steps p.tables e below (s₁.setTop (entryFrame m #[.ref b, .int (Int32.ofNat o), .int (Int32.ofNat len)] 6)) (s₁.setTop (mkF m 0 #[.val (.ref b), .val (.int (Int32.ofNat o)), .val (.int (Int32.ofNat len)), .unset, .unset, .unset] [])) := entry rfl
  have c2 : Steps p.tables e below (s₁.setTop (entryFrame m #[.ref b, .int (Int32.ofNat o), .int (Int32.ofNat len)] 6)) (s₁.setTop (mkF m 1 #[.val (.ref b), .val (.int (Int32.ofNat o)), .val (.int (Int32.ofNat len)), .unset, .unset, .unset] [.int (Int32.ofNat len)])) := c1.trans (by
    refine XS.iloadN X0.here hexec rfl (hb hbytes d0) rfl ?_
    exact Steps.refl _)
  obtain ⟨T3, B3, X3, ba3, bs3, bv3, bh3, bf3, st3⟩ := X0.anew hexec (atype := .byte) (wk W (.arrayClass .byte)) rfl (by show len * 1 ≤ _; omega) (by omega) (g := (mkF m 1 #[.val (.ref b), .val (.int (Int32.ofNat o)), .val (.int (Int32.ofNat len)), .unset, .unset, .unset] [.int (Int32.ofNat len)])) rfl (hb hbytes d1) (rest := []) rfl (Nat.le_refl _) (by show 0 + len ≤ len; omega)
  rw [hh0] at ba3 st3
  have kp3 : XT.Kept s T3 := (XT.Kept.of_eq hh0).push bh3
  have hA3 := hA.keep X3.warmed.alike (kp3 _ _ hA.1.1)
  have hne : b ≠ s.heap.size := hA.1.ne
  have c4 : Steps p.tables e below (s₁.setTop (entryFrame m #[.ref b, .int (Int32.ofNat o), .int (Int32.ofNat len)] 6)) (T3.setTop (mkF m 3 #[.val (.ref b), .val (.int (Int32.ofNat o)), .val (.int (Int32.ofNat len)), .unset, .unset, .unset] [.ref s.heap.size])) := c2.trans (st3 _ (Steps.refl _))
  have c5 : Steps p.tables e below (s₁.setTop (entryFrame m #[.ref b, .int (Int32.ofNat o), .int (Int32.ofNat len)] 6)) (T3.setTop (mkF m 9 #[.val (.ref b), .val (.int (Int32.ofNat o)), .val (.int (Int32.ofNat len)), .val (.ref s.heap.size), .unset, .unset] [.int (Int32.ofNat len), .int 0, .ref s.heap.size, .int (Int32.ofNat o), .ref b])) := c4.trans (by
    refine XS.astoreN X3.here hexec rfl (hb hbytes d3) rfl rfl rfl ?_
    refine XS.aloadN X3.here hexec rfl (hb hbytes d4) rfl rfl ?_
    refine XS.iloadN X3.here hexec rfl (hb hbytes d5) rfl ?_
    refine XS.aloadN X3.here hexec rfl (hb hbytes d6) rfl rfl ?_
    refine iconstV X3.here hexec rfl 0 (hb hbytes d7) (by decide) ?_
    refine XS.iloadN X3.here hexec rfl (hb hbytes d8) rfl ?_
    exact Steps.refl _)
  obtain ⟨v6, T6, X6, E6, g6⟩ := X3.callS hexec (Cmp5.law l b A s.heap.size B3 o 0 len) hown (wks W (staticW U16 115 Cmp5.yN)) (wk W Cmp5.tab) (W := 0) (Nat.le_of_ble_eq_true rfl) (Nat.le_of_ble_eq_true rfl) (Nat.le_refl _) (by show 0 + len + 0 ≤ len; omega) (g := (mkF m 9 #[.val (.ref b), .val (.int (Int32.ofNat o)), .val (.int (Int32.ofNat len)), .val (.ref s.heap.size), .unset, .unset] [.int (Int32.ofNat len), .int (Int32.ofNat 0), .ref s.heap.size, .int (Int32.ofNat o), .ref b])) rfl (by rw [hml]; rfl) c5 (argsL := [.ref b, .int (Int32.ofNat o), .ref s.heap.size, .int (Int32.ofNat 0), .int (Int32.ofNat len)]) (rest := []) rfl rfl (by show 2 * 0 + 0 ≤ _; decide) (hb hbytes d9) (⟨rfl, hA3, ba3, hne, l1, by rw [bs3]; simp, hp⟩)
  obtain ⟨rfl, B6, p6, f6⟩ := E6
  have c7 : Steps p.tables e below (s₁.setTop (entryFrame m #[.ref b, .int (Int32.ofNat o), .int (Int32.ofNat len)] 6)) (T6.setTop (mkF m 12 #[.val (.ref b), .val (.int (Int32.ofNat o)), .val (.int (Int32.ofNat len)), .val (.ref s.heap.size), .unset, .unset] [.int (Int32.ofNat len)])) := g6
  have c8 : Steps p.tables e below (s₁.setTop (entryFrame m #[.ref b, .int (Int32.ofNat o), .int (Int32.ofNat len)] 6)) (T6.setTop (mkF m 58 #[.val (.ref b), .val (.int (Int32.ofNat o)), .val (.int (Int32.ofNat len)), .val (.ref s.heap.size), .val (.int (Int32.ofNat len)), .unset] [.ref s.heap.size])) := c7.trans (by
    refine XS.istore X6.here hexec rfl (hb hbytes d12) rfl rfl ?_
    refine XS.iload X6.here hexec rfl (hb hbytes d14) rfl ?_
    refine XS.iloadN X6.here hexec rfl (hb hbytes d16) rfl ?_
    refine XS.icmpYes X6.here hexec rfl (pc0 := 17) rfl (hb hbytes d17) rfl (ii_eq_t rfl) (by decide) rfl ?_
    refine XS.aloadN X6.here hexec rfl (hb hbytes d57) rfl rfl ?_
    exact Steps.refl _)
  have X8 := X6.wide (L' := []) (cells' := 1) (slots' := len) (fun x hx hlt => by
    simp only [List.nil_append, copyLocs, List.mem_map, List.mem_range] at hx
    obtain ⟨i, -, rfl⟩ := hx
    exact absurd hlt (Nat.lt_irrefl _)) (Nat.le_refl _) (by omega)
  exact ⟨T6, some (.ref s.heap.size), _, _, _, X8, rfl, rfl, rfl, (fun h => by cases h), ⟨⟨rfl, B6, ba3.like (X3.warmed.alike.symm.trans X6.warmed.alike) p6.1 f6.1 f6.2.1 f6.2.2.1, f6.2.1.trans bv3, by rw [X6.warmed.alike.findClass, f6.1]; exact bf3, by rw [f6.2.2.1, bs3]; simp, fun j hj => by rw [f6.2.2.2 j, if_pos (by omega)]; rfl, kp3.put p6 (Nat.le_refl _)⟩, by rw [p6.2.2, bh3, hh0]; simp⟩, fun fs hl => c8.trans (X8.areturnOut hexec rfl hret rfl (hb hbytes d58) hl)⟩
end Cmp3
namespace CodL
def yN : MethodName := ⟨"java/lang/StringUTF16", "coderFromArrayLen", "([BI)B"⟩
abbrev yB : ByteArray := jdk_52_method_15_code
theorem d0 : decode yB 0 = .ok (.iload_n 1, 1) := by decide +kernel
theorem d1 : decode yB 1 = .ok (.aload_n 0, 1) := by decide +kernel
theorem d2 : decode yB 2 = .ok (.arraylength, 1) := by decide +kernel
theorem d3 : decode yB 3 = .ok (.isub, 1) := by decide +kernel
theorem d4 : decode yB 4 = .ok (.bipush 31, 2) := by decide +kernel
theorem d6 : decode yB 6 = .ok (.iushr, 1) := by decide +kernel
theorem d7 : decode yB 7 = .ok (.i2b, 1) := by decide +kernel
theorem d8 : decode yB 8 = .ok (.ireturn, 1) := by decide +kernel
def site : List Cond := []
def tab : Cond := tabOf yN yB 2 (some .byte) site
def P (d : Addr) (B : Cell) (args : Array Value) (s : State) : Prop := args = #[.ref d, .int (Int32.ofNat B.slots.size)] ∧ Arr .byte d B s
def E (r : Option Value) (s u : State) : Prop := XT.PureE (some (.int 0)) r s u
/-- an array as long as the number of chars: LATIN1 -/
theorem law (l : Launch) (d : Addr) (B : Cell) : Law l yN 2 2 0 0 yB 2 (some .byte) site (P d B) E [] 0 0 := by
  refine Law.of_walk (plainFor_of_name (by decide +kernel)) (by decide +kernel) (by decide +kernel) (by decide) (fun _ _ h => by rw [h.1]; rfl) (fun _ U U' hal hh h => ⟨h.1, h.2.mv hal hh⟩) (fun r U U' V V' h1 hal h2 h => XT.PureE.mv r U U' V V' h1 hal h2 h) ?_
  intro p e s m args below meth c s₁ X0 hexec hbytes hml hret hlk hnm hown hh0 W hP
  obtain ⟨rfl, hB⟩ := hP
  have hB0 := hB.mv X0.warmed.alike hh0
  have c1 : Steps p.tables e below (s₁.setTop (entryFrame m #[.ref d, .int (Int32.ofNat B.slots.size)] 2)) (s₁.setTop (mkF m 0 #[.val (.ref d), .val (.int (Int32.ofNat B.slots.size))] [])) := entry rfl
  have c2 : Steps p.tables e below (s₁.setTop (entryFrame m #[.ref d, .int (Int32.ofNat B.slots.size)] 2)) (s₁.setTop (mkF m 2 #[.val (.ref d), .val (.int (Int32.ofNat B.slots.size))] [.ref d, .int (Int32.ofNat B.slots.size)])) := c1.trans (by
    refine XS.iloadN X0.here hexec rfl (hb hbytes d0) rfl ?_
    refine XS.aloadN X0.here hexec rfl (hb hbytes d1) rfl rfl ?_
    exact Steps.refl _)
  have c3 : Steps p.tables e below (s₁.setTop (entryFrame m #[.ref d, .int (Int32.ofNat B.slots.size)] 2)) (s₁.setTop (mkF m 8 #[.val (.ref d), .val (.int (Int32.ofNat B.slots.size))] [.int (lo8 (ushr (Int32.ofNat B.slots.size - Int32.ofNat B.slots.size) 31))])) := c2.trans (by
    refine X0.alen hexec hB0 rfl rfl (hb hbytes d2) ?_
    refine XS.isub X0.here hexec rfl (hb hbytes d3) rfl ?_
    refine bipushV X0.here hexec rfl 31 (hb hbytes d4) (by decide) ?_
    refine iushr X0.here hexec rfl (hb hbytes d6) rfl ?_
    refine i2b X0.here hexec rfl (hb hbytes d7) rfl ?_
    exact Steps.refl _)
  have e0 : lo8 (ushr (Int32.ofNat B.slots.size - Int32.ofNat B.slots.size) 31) = 0 := by rw [Int32.sub_self]; decide
  rw [e0] at c3
  exact ⟨s₁, some (.int 0), _, _, _, X0, rfl, rfl, rfl, (fun h => by cases h), ⟨rfl, hh0⟩, fun fs hl => c3.trans (X0.ireturnOut hexec hret rfl (Or.inr (Or.inr (Or.inl rfl))) (hb hbytes d8) hl)⟩
end CodL
/-- the String at a is Latin-1 over a new byte[] (the heap's one new cell): the low bytes of the len chars of A from o on; every cell but a is kept -/
def Got (a : Addr) (D : Cell) (fV fC : Field) (A : Cell) (o len : Nat) (r : Option Value) (s u : State) : Prop := r = none ∧ ∃ D' V : Cell, Blank "java/lang/String" a D' u ∧ Same D D' [fV.slot, fC.slot] ∧ D'.slots[fV.slot]? = some (.ref s.heap.size) ∧ D'.slots[fC.slot]? = some (.int 0) ∧ Arr .byte s.heap.size V u ∧ V.vm = .none ∧ u.vm.findClass "[B" = some V.cls ∧ V.slots.size = len ∧ (∀ j, j < len → V.slots[j]? = some (.int (lo8 (cv A (o + j))))) ∧ (∀ (y : Addr) (c : Cell), y ≠ a → s.heap[y]? = some c → u.heap[y]? = some c) ∧ u.heap.size = s.heap.size + 1
theorem Got.mv {a : Addr} {D A : Cell} {fV fC : Field} {o len : Nat} : ∀ r (U U' V V' : State), U'.heap = U.heap → V.vm.Alike V'.vm → V'.heap = V.heap → Got a D fV fC A o len r U V → Got a D fV fC A o len r U' V' :=
  fun r U U' V V' h1 hal h2 ⟨e0, D', X, a1, a2, a3, a4, a5, a6, a7, a8, a9, a10, a11⟩ => ⟨e0, D', X, a1.mv hal h2, a2, by rw [h1]; exact a3, a4, by rw [h1]; exact a5.mv hal h2, a6, by rw [hal.findClass]; exact a7, a8, a9, by rw [h1, h2]; exact a10, by rw [h1, h2]; exact a11⟩
namespace New4
def yN : MethodName := ⟨"java/lang/String", "<init>", "([CIILjava/lang/Void;)V"⟩
abbrev yB : ByteArray := jdk_42_method_149_code
theorem d0 : decode yB 0 = .ok (.aload_n 0, 1) := by decide +kernel
theorem d1 : decode yB 1 = .ok (.invokespecial 1, 3) := by decide +kernel
theorem d4 : decode yB 4 = .ok (.iload_n 3, 1) := by decide +kernel
theorem d5 : decode yB 5 = .ok (.ifCond (.ne) 22, 3) := by decide +kernel
theorem d27 : decode yB 27 = .ok (.getstatic 38, 3) := by decide +kernel
theorem d30 : decode yB 30 = .ok (.ifCond (.eq) 28, 3) := by decide +kernel
theorem d33 : decode yB 33 = .ok (.aload_n 1, 1) := by decide +kernel
theorem d34 : decode yB 34 = .ok (.iload_n 2, 1) := by decide +kernel
theorem d35 : decode yB 35 = .ok (.iload_n 3, 1) := by decide +kernel
theorem d36 : decode yB 36 = .ok (.invokestatic 177, 3) := by decide +kernel
theorem d39 : decode yB 39 = .ok (.astore 5, 2) := by decide +kernel
theorem d41 : decode yB 41 = .ok (.aload_n 0, 1) := by decide +kernel
theorem d42 : decode yB 42 = .ok (.aload 5, 2) := by decide +kernel
theorem d44 : decode yB 44 = .ok (.iload_n 3, 1) := by decide +kernel
theorem d45 : decode yB 45 = .ok (.invokestatic 47, 3) := by decide +kernel
theorem d48 : decode yB 48 = .ok (.putfield 15, 3) := by decide +kernel
theorem d51 : decode yB 51 = .ok (.aload_n 0, 1) := by decide +kernel
theorem d52 : decode yB 52 = .ok (.aload 5, 2) := by decide +kernel
theorem d54 : decode yB 54 = .ok (.putfield 9, 3) := by decide +kernel
theorem d57 : decode yB 57 = .ok (.return_, 1) := by decide +kernel
def site : List Cond := [.fieldLink "java/lang/String" 38 "java/lang/String" "COMPACT_STRINGS" "Z", Cmp3.tab, CodL.tab, .laysFinal "java/lang/String" "java/lang/String" "value" "[B", .fieldLink "java/lang/String" 9 "java/lang/String" "value" "[B", .laysFinal "java/lang/String" "java/lang/String" "coder" "B", .fieldLink "java/lang/String" 15 "java/lang/String" "coder" "B"] ++ objW "java/lang/String" 1 ++ staticW "java/lang/String" 177 Cmp3.yN ++ staticW "java/lang/String" 47 CodL.yN
def tab : Cond := tabOf yN yB 6 none site
def P (a : Addr) (D : Cell) (fV fC : Field) (b : Addr) (A : Cell) (z : Int32) (o len : Nat) (args : Array Value) (s : State) : Prop := args = #[.ref a, .ref b, .int (Int32.ofNat o), .int (Int32.ofNat len), .null] ∧ Blank "java/lang/String" a D s ∧ Found "java/lang/String" "value" "[B" fV s ∧ Found "java/lang/String" "coder" "B" fC s ∧ Ch b A s ∧ StaticIs s "java/lang/String" "COMPACT_STRINGS" "Z" (.int z) ∧ ¬ z = 0 ∧ 0 < len ∧ o + len ≤ A.slots.size ∧ len ≤ 536870912 ∧ ∀ i, i < len → ¬ 255 < cv A (o + i)
def E (a : Addr) (D : Cell) (fV fC : Field) (A : Cell) (o len : Nat) (r : Option Value) (s u : State) : Prop := Got a D fV fC A o len r s u
/-- len > 0, no char of the range above 255: a Latin-1 String of their low bytes -/
theorem law (l : Launch) (a : Addr) (D : Cell) (fV fC : Field) (b : Addr) (A : Cell) (z : Int32) (o len : Nat) : Law l yN 5 4 2 35 yB 6 none site (P a D fV fC b A z o len) (E a D fV fC A o len) [⟨a, fC.slot⟩, ⟨a, fV.slot⟩] 1 len := by
  refine Law.of_walk (plainFor_of_name (by decide +kernel)) (by decide +kernel) (by decide +kernel) (by decide) (fun _ _ h => by rw [h.1]; rfl) (fun _ U U' hal hh h => ⟨h.1, h.2.1.mv hal hh, h.2.2.1.al hal, h.2.2.2.1.al hal, h.2.2.2.2.1.mv hal hh, h.2.2.2.2.2.1.there hal hh, h.2.2.2.2.2.2⟩) (fun r U U' V V' h1 hal h2 h => Got.mv r U U' V V' h1 hal h2 h) ?_
  intro p e s m args below meth c s₁ X0 hexec hbytes hml hret hlk hnm hown hh0 W hP
  obtain ⟨rfl, hB, f1, f2, hA, s1, hz, l0, l1, l2, hp⟩ := hP
  have a31 := hA.1.2.2.2
  have c1 : Steps p.tables e below (s₁.setTop (entryFrame m #[.ref a, .ref b, .int (Int32.ofNat o), .int (Int32.ofNat len), .null] 6)) (s₁.setTop (mkF m 0 #[.val (.ref a), .val (.ref b), .val (.int (Int32.ofNat o)), .val (.int (Int32.ofNat len)), .val .null, .unset] [])) := entry rfl
  have c2 : Steps p.tables e below (s₁.setTop (entryFrame m #[.ref a, .ref b, .int (Int32.ofNat o), .int (Int32.ofNat len), .null] 6)) (s₁.setTop (mkF m 1 #[.val (.ref a), .val (.ref b), .val (.int (Int32.ofNat o)), .val (.int (Int32.ofNat len)), .val .null, .unset] [.ref a])) := c1.trans (by
    refine XS.aloadN X0.here hexec rfl (hb hbytes d0) rfl rfl ?_
    exact Steps.refl _)
  obtain ⟨T3, X3, q3, st3⟩ := X0.oinit hexec hown (wks W (objW "java/lang/String" 1)) (g := (mkF m 1 #[.val (.ref a), .val (.ref b), .val (.int (Int32.ofNat o)), .val (.int (Int32.ofNat len)), .val .null, .unset] [.ref a])) rfl (by rw [hml]; rfl) (rest := []) rfl (hb hbytes d1) (W := 0) (by show 2 * 0 + 0 ≤ _; decide) (Nat.le_of_ble_eq_true rfl) (Nat.le_of_ble_eq_true rfl)
  have hh3 := q3.trans hh0
  have c4 : Steps p.tables e below (s₁.setTop (entryFrame m #[.ref a, .ref b, .int (Int32.ofNat o), .int (Int32.ofNat len), .null] 6)) (T3.setTop (mkF m 27 #[.val (.ref a), .val (.ref b), .val (.int (Int32.ofNat o)), .val (.int (Int32.ofNat len)), .val .null, .unset] [])) := (c2.trans (st3 _ (Steps.refl _))).trans (by
    refine XS.iloadN X3.here hexec rfl (hb hbytes d4) rfl ?_
    refine XS.ifYes X3.here hexec rfl (pc0 := 5) rfl (hb hbytes d5) rfl (i0_ne_t (nz32 (by omega) l0)) (by decide) rfl ?_
    exact Steps.refl _)
  obtain ⟨T5, X5, q5, st5⟩ := X3.sget hexec hown (wk W (.fieldLink "java/lang/String" 38 "java/lang/String" "COMPACT_STRINGS" "Z")) s1 (fun _ _ h => by rw [hh3]; exact h) (g := (mkF m 27 #[.val (.ref a), .val (.ref b), .val (.int (Int32.ofNat o)), .val (.int (Int32.ofNat len)), .val .null, .unset] [])) rfl (hb hbytes d27)
  have hh5 := q5.trans hh3
  have c6 : Steps p.tables e below (s₁.setTop (entryFrame m #[.ref a, .ref b, .int (Int32.ofNat o), .int (Int32.ofNat len), .null] 6)) (T5.setTop (mkF m 30 #[.val (.ref a), .val (.ref b), .val (.int (Int32.ofNat o)), .val (.int (Int32.ofNat len)), .val .null, .unset] [.int z])) := c4.trans (st5 _ (Steps.refl _))
  have c7 : Steps p.tables e below (s₁.setTop (entryFrame m #[.ref a, .ref b, .int (Int32.ofNat o), .int (Int32.ofNat len), .null] 6)) (T5.setTop (mkF m 36 #[.val (.ref a), .val (.ref b), .val (.int (Int32.ofNat o)), .val (.int (Int32.ofNat len)), .val .null, .unset] [.int (Int32.ofNat len), .int (Int32.ofNat o), .ref b])) := c6.trans (by
    refine XS.ifNo X5.here hexec rfl (hb hbytes d30) rfl (i0_eq_f hz) ?_
    refine XS.aloadN X5.here hexec rfl (hb hbytes d33) rfl rfl ?_
    refine XS.iloadN X5.here hexec rfl (hb hbytes d34) rfl ?_
    refine XS.iloadN X5.here hexec rfl (hb hbytes d35) rfl ?_
    exact Steps.refl _)
  obtain ⟨v8, T8, X8, E8, g8⟩ := X5.callS hexec (Cmp3.law l b A o len) hown (wks W (staticW "java/lang/String" 177 Cmp3.yN)) (wk W Cmp3.tab) (W := 0) (Nat.le_of_ble_eq_true rfl) (Nat.le_of_ble_eq_true rfl) (Nat.le_refl _) (by show 0 + len ≤ len; omega) (g := (mkF m 36 #[.val (.ref a), .val (.ref b), .val (.int (Int32.ofNat o)), .val (.int (Int32.ofNat len)), .val .null, .unset] [.int (Int32.ofNat len), .int (Int32.ofNat o), .ref b])) rfl (by rw [hml]; rfl) c7 (argsL := [.ref b, .int (Int32.ofNat o), .int (Int32.ofNat len)]) (rest := []) rfl rfl (by show 2 * 0 + 0 ≤ _; decide) (hb hbytes d36) (⟨rfl, hA.mv X5.warmed.alike hh5, l1, l2, hp⟩)
  obtain ⟨e8, z8⟩ := E8
  obtain ⟨rfl, N, n1, n2, n3, n4, n5, n6⟩ := NewArr.mv _ T5 s _ _ hh5.symm (Vm.Alike.refl _) rfl e8
  rw [hh5] at z8
  have hB1 := hB.keep X8.warmed.alike (n6 _ _ hB.1)
  have hne : s.heap.size ≠ a := (Nat.ne_of_lt (Array.getElem?_eq_some_iff.mp hB.1).1).symm
  have c9 : Steps p.tables e below (s₁.setTop (entryFrame m #[.ref a, .ref b, .int (Int32.ofNat o), .int (Int32.ofNat len), .null] 6)) (T8.setTop (mkF m 39 #[.val (.ref a), .val (.ref b), .val (.int (Int32.ofNat o)), .val (.int (Int32.ofNat len)), .val .null, .unset] [.ref s.heap.size])) := g8
  have c10 : Steps p.tables e below (s₁.setTop (entryFrame m #[.ref a, .ref b, .int (Int32.ofNat o), .int (Int32.ofNat len), .null] 6)) (T8.setTop (mkF m 45 #[.val (.ref a), .val (.ref b), .val (.int (Int32.ofNat o)), .val (.int (Int32.ofNat len)), .val .null, .val (.ref s.heap.size)] [.int (Int32.ofNat N.slots.size), .ref s.heap.size, .ref a])) := by
    have hc : Steps p.tables e below (s₁.setTop (entryFrame m #[.ref a, .ref b, .int (Int32.ofNat o), .int (Int32.ofNat len), .null] 6)) (T8.setTop (mkF m 45 #[.val (.ref a), .val (.ref b), .val (.int (Int32.ofNat o)), .val (.int (Int32.ofNat len)), .val .null, .val (.ref s.heap.size)] [.int (Int32.ofNat len), .ref s.heap.size, .ref a])) := c9.trans (by
      refine XS.astore X8.here hexec rfl (hb hbytes d39) rfl rfl rfl ?_
      refine XS.aloadN X8.here hexec rfl (hb hbytes d41) rfl rfl ?_
      refine XS.aload X8.here hexec rfl (hb hbytes d42) rfl rfl ?_
      refine XS.iloadN X8.here hexec rfl (hb hbytes d44) rfl ?_
      exact Steps.refl _)
    rw [n4]; exact hc
  obtain ⟨v11, T11, X11, E11, g11⟩ := X8.callS hexec (CodL.law l s.heap.size N) hown (wks W (staticW "java/lang/String" 47 CodL.yN)) (wk W CodL.tab) (W := 1) (Nat.le_of_ble_eq_true rfl) (Nat.le_of_ble_eq_true rfl) (Nat.le_refl _) (by show 0 + len + 0 ≤ len; omega) (g := (mkF m 45 #[.val (.ref a), .val (.ref b), .val (.int (Int32.ofNat o)), .val (.int (Int32.ofNat len)), .val .null, .val (.ref s.heap.size)] [.int (Int32.ofNat N.slots.size), .ref s.heap.size, .ref a])) rfl (by rw [hml]; rfl) c10 (argsL := [.ref s.heap.size, .int (Int32.ofNat N.slots.size)]) (rest := [.ref a]) rfl rfl (by show 2 * 0 + (1 + 0) ≤ _; decide) (hb hbytes d45) (⟨rfl, n1⟩)
  obtain ⟨rfl, q11⟩ := E11
  have hB11 := hB1.mv (X8.warmed.alike.symm.trans X11.warmed.alike) q11
  have c12 : Steps p.tables e below (s₁.setTop (entryFrame m #[.ref a, .ref b, .int (Int32.ofNat o), .int (Int32.ofNat len), .null] 6)) (T11.setTop (mkF m 48 #[.val (.ref a), .val (.ref b), .val (.int (Int32.ofNat o)), .val (.int (Int32.ofNat len)), .val .null, .val (.ref s.heap.size)] [.int 0, .ref a])) := g11
  obtain ⟨T13, X13, p13, bl13, sl13, st13⟩ := X11.finit hexec hown (wk W (.fieldLink "java/lang/String" 15 "java/lang/String" "coder" "B")) (Or.inr ⟨_, (wk W (.laysFinal "java/lang/String" "java/lang/String" "coder" "B"))⟩) (Or.inl ⟨rfl, hnm⟩) f2 (Or.inl rfl) hB11 (t := .byte) (by decide +kernel) rfl (g := (mkF m 48 #[.val (.ref a), .val (.ref b), .val (.int (Int32.ofNat o)), .val (.int (Int32.ofNat len)), .val .null, .val (.ref s.heap.size)] [.int 0, .ref a])) rfl (rest := []) rfl (hb hbytes d48)
  have c14 : Steps p.tables e below (s₁.setTop (entryFrame m #[.ref a, .ref b, .int (Int32.ofNat o), .int (Int32.ofNat len), .null] 6)) (T13.setTop (mkF m 54 #[.val (.ref a), .val (.ref b), .val (.int (Int32.ofNat o)), .val (.int (Int32.ofNat len)), .val .null, .val (.ref s.heap.size)] [.ref s.heap.size, .ref a])) := (c12.trans (st13 _ (Steps.refl _))).trans (by
    refine XS.aloadN X13.here hexec rfl (hb hbytes d51) rfl rfl ?_
    refine XS.aload X13.here hexec rfl (hb hbytes d52) rfl rfl ?_
    exact Steps.refl _)
  obtain ⟨T15, X15, p15, bl15, sl15, st15⟩ := X13.finit hexec hown (wk W (.fieldLink "java/lang/String" 9 "java/lang/String" "value" "[B")) (Or.inr ⟨_, (wk W (.laysFinal "java/lang/String" "java/lang/String" "value" "[B"))⟩) (Or.inl ⟨rfl, hnm⟩) f1 (Or.inl rfl) bl13 (t := (.array .byte)) (by decide +kernel) rfl (g := (mkF m 54 #[.val (.ref a), .val (.ref b), .val (.int (Int32.ofNat o)), .val (.int (Int32.ofNat len)), .val .null, .val (.ref s.heap.size)] [.ref s.heap.size, .ref a])) rfl (rest := []) rfl (hb hbytes d54)
  have c16 : Steps p.tables e below (s₁.setTop (entryFrame m #[.ref a, .ref b, .int (Int32.ofNat o), .int (Int32.ofNat len), .null] 6)) (T15.setTop (mkF m 57 #[.val (.ref a), .val (.ref b), .val (.int (Int32.ofNat o)), .val (.int (Int32.ofNat len)), .val .null, .val (.ref s.heap.size)] [])) := c14.trans (st15 _ (Steps.refl _))
  have ap := apart (Or.inr ⟨_, (wk W (.laysFinal "java/lang/String" "java/lang/String" "value" "[B"))⟩) (Or.inr ⟨_, (wk W (.laysFinal "java/lang/String" "java/lang/String" "coder" "B"))⟩) f1 f2 (t₁ := .array .byte) (t₂ := .byte) (by decide +kernel) (by decide +kernel) (by decide)
  have al := X8.warmed.alike.symm.trans X15.warmed.alike
  have n7 : T11.heap[s.heap.size]? = some N := by rw [q11]; exact n1.1
  exact ⟨T15, none, _, _, _, X15, by simp, rfl, by omega, (fun _ => rfl), ⟨rfl, _, N, bl15, ((Same.refl D _).set _ (by simp)).set _ (by simp), sl15, (Cell.slots_setSlot_ne _ ap).trans sl13, n1.keep al (p15.other hne (p13.other hne n7)), n2, by rw [al.findClass]; exact n3, n4, n5, fun y c h1 h2 => p15.other h1 (p13.other h1 (by rw [q11]; exact n6 y c h2)), by rw [p15.2.2, p13.2.2, q11]; exact z8⟩, fun fs hl => c16.trans (X15.returnOut hexec hret (hb hbytes d57) hl)⟩
end New4
namespace New1
def yN : MethodName := ⟨"java/lang/String", "<init>", "([C)V"⟩
abbrev yB : ByteArray := jdk_42_method_3_code
theorem d0 : decode yB 0 = .ok (.aload_n 0, 1) := by decide +kernel
theorem d1 : decode yB 1 = .ok (.aload_n 1, 1) := by decide +kernel
theorem d2 : decode yB 2 = .ok (.iconst 0, 1) := by decide +kernel
theorem d3 : decode yB 3 = .ok (.aload_n 1, 1) := by decide +kernel
theorem d4 : decode yB 4 = .ok (.arraylength, 1) := by decide +kernel
theorem d5 : decode yB 5 = .ok (.aconst_null, 1) := by decide +kernel
theorem d6 : decode yB 6 = .ok (.invokespecial 27, 3) := by decide +kernel
theorem d9 : decode yB 9 = .ok (.return_, 1) := by decide +kernel
def site : List Cond := [New4.tab] ++ initW "java/lang/String" 27 New4.yN
def tab : Cond := tabOf yN yB 2 none site
def P (a : Addr) (D : Cell) (fV fC : Field) (b : Addr) (A : Cell) (z : Int32) (args : Array Value) (s : State) : Prop := args = #[.ref a, .ref b] ∧ Blank "java/lang/String" a D s ∧ Found "java/lang/String" "value" "[B" fV s ∧ Found "java/lang/String" "coder" "B" fC s ∧ Ch b A s ∧ StaticIs s "java/lang/String" "COMPACT_STRINGS" "Z" (.int z) ∧ ¬ z = 0 ∧ 0 < A.slots.size ∧ A.slots.size ≤ 536870912 ∧ ∀ i, i < A.slots.size → ¬ 255 < cv A i
def E (a : Addr) (D : Cell) (fV fC : Field) (A : Cell) (r : Option Value) (s u : State) : Prop := Got a D fV fC A 0 A.slots.size r s u
/-- new String(chars), not empty, no char above 255: a Latin-1 String of their low bytes -/
theorem law (l : Launch) (a : Addr) (D : Cell) (fV fC : Field) (b : Addr) (A : Cell) (z : Int32) : Law l yN 2 1 3 52 yB 2 none site (P a D fV fC b A z) (E a D fV fC A) [⟨a, fC.slot⟩, ⟨a, fV.slot⟩] 1 A.slots.size := by
  refine Law.of_walk (plainFor_of_name (by decide +kernel)) (by decide +kernel) (by decide +kernel) (by decide) (fun _ _ h => by rw [h.1]; rfl) (fun _ U U' hal hh h => ⟨h.1, h.2.1.mv hal hh, h.2.2.1.al hal, h.2.2.2.1.al hal, h.2.2.2.2.1.mv hal hh, h.2.2.2.2.2.1.there hal hh, h.2.2.2.2.2.2⟩) (fun r U U' V V' h1 hal h2 h => Got.mv r U U' V V' h1 hal h2 h) ?_
  intro p e s m args below meth c s₁ X0 hexec hbytes hml hret hlk hnm hown hh0 W hP
  obtain ⟨rfl, hB, f1, f2, hA, s1, hz, l0, l2, hp⟩ := hP
  have c1 : Steps p.tables e below (s₁.setTop (entryFrame m #[.ref a, .ref b] 2)) (s₁.setTop (mkF m 0 #[.val (.ref a), .val (.ref b)] [])) := entry rfl
  have c2 : Steps p.tables e below (s₁.setTop (entryFrame m #[.ref a, .ref b] 2)) (s₁.setTop (mkF m 6 #[.val (.ref a), .val (.ref b)] [.null, .int (Int32.ofNat A.slots.size), .int 0, .ref b, .ref a])) := c1.trans (by
    refine XS.aloadN X0.here hexec rfl (hb hbytes d0) rfl rfl ?_
    refine XS.aloadN X0.here hexec rfl (hb hbytes d1) rfl rfl ?_
    refine iconstV X0.here hexec rfl 0 (hb hbytes d2) (by decide) ?_
    refine XS.aloadN X0.here hexec rfl (hb hbytes d3) rfl rfl ?_
    refine X0.alen hexec (hA.1.mv X0.warmed.alike hh0) rfl rfl (hb hbytes d4) ?_
    refine XS.aconstNull X0.here hexec rfl (hb hbytes d5) ?_
    exact Steps.refl _)
  obtain ⟨v3, T3, X3, E3, g3⟩ := X0.callN hexec (New4.law l a D fV fC b A z 0 A.slots.size) rfl hown (wks W (initW "java/lang/String" 27 New4.yN)) (W New4.tab (by simp only [site, List.mem_cons, List.mem_append, true_or, or_true])) (W := 0) (Nat.le_of_ble_eq_true rfl) (Nat.le_of_ble_eq_true rfl) (Nat.le_refl _) (by show 0 + A.slots.size ≤ A.slots.size; omega) (g := (mkF m 6 #[.val (.ref a), .val (.ref b)] [.null, .int (Int32.ofNat A.slots.size), .int (Int32.ofNat 0), .ref b, .ref a])) rfl (by rw [hml]; rfl) c2 (argsL := [.ref b, .int (Int32.ofNat 0), .int (Int32.ofNat A.slots.size), .null]) (rest := []) rfl rfl (by show 2 * 0 + 0 ≤ _; decide) (hb hbytes d6) (⟨rfl, hB.mv X0.warmed.alike hh0, f1.al X0.warmed.alike, f2.al X0.warmed.alike, hA.mv X0.warmed.alike hh0, s1.there X0.warmed.alike hh0, hz, l0, by omega, l2, fun i hi => by rw [Nat.zero_add]; exact hp i hi⟩)
  have e0 := Got.mv _ s₁ s _ _ hh0.symm (Vm.Alike.refl _) rfl E3
  obtain rfl := e0.1
  have c4 : Steps p.tables e below (s₁.setTop (entryFrame m #[.ref a, .ref b] 2)) (T3.setTop (mkF m 9 #[.val (.ref a), .val (.ref b)] [])) := g3
  exact ⟨T3, none, _, _, _, X3, by simp, rfl, by omega, (fun _ => rfl), e0, fun fs hl => c4.trans (X3.returnOut hexec hret (hb hbytes d9) hl)⟩
theorem pays {l : Launch} {R : Room} {p : Program} {e : Env} {below : List Frame} {s : State} {sargs : Array Value} {len W : Nat} (a : Addr) (D : Cell) (fV fC : Field) (b : Addr) (A : Cell) (z : Int32) (htab : tab.before sargs s = true) (hfr : 4 ≤ R.frames) (hlo : W + 65 ≤ R.locals) :
    Back l R p e below s sargs yN len W (fun A₁ a₁ => A₁.cells + 1 ≤ R.cells ∧ A₁.slots + A.slots.size ≤ R.slots ∧ P a D fV fC b A z a₁ A₁.U) (fun A₁ _ v₁ B₁ => E a D fV fC A v₁ A₁.U B₁.U ∧ B₁.locs = A₁.locs ++ [⟨a, fC.slot⟩, ⟨a, fV.slot⟩] ∧ B₁.cells = A₁.cells + 1 ∧ B₁.slots = A₁.slots + A.slots.size) :=
  (law l a D fV fC b A z).pays htab hfr (by omega)
end New1
/-- the byte, read back as charAt reads it, is the char -/
theorem lo8_mask {x : Int32} (h0 : ¬ x < 0) (h1 : ¬ 255 < x) : lo8 x &&& 255 = x := by
  have t : ∀ k : Fin 256, lo8 (Int32.ofNat k.val) &&& 255 = Int32.ofNat k.val := by decide +kernel
  rw [Int32.lt_iff_toInt_lt] at h0 h1
  have e0 : (0 : Int32).toInt = 0 := rfl
  have e1 : (255 : Int32).toInt = 255 := rfl
  obtain ⟨k, hk⟩ : ∃ k : Nat, x.toInt = k := ⟨x.toInt.toNat, by omega⟩
  have hx : x = Int32.ofNat k := Int32.toInt_inj.mp (by rw [hk, Int32.toInt_ofNat_small (by omega)])
  rw [hx]
  exact t ⟨k, by omega⟩
end StrChars
namespace StrChars.Road
open Jvm Sem ClassFile Op Lib Jvm.Stand Jvm.Free Jvm.Free.XT
open Jvm.Lib.Cold (StaticIs)
abbrev ST : String := "java/lang/String"
/-- every table word that New1's law asks, flat -/
abbrev words : List Jvm.Cond := [.code New1.yN New1.yB 2 none, .initialized ST, .methodLink ST 27 New4.yN, .instanceMethod New4.yN,
  .code New4.yN New4.yB 6 none, .fieldLink ST 38 ST "COMPACT_STRINGS" "Z", .laysFinal ST ST "value" "[B", .fieldLink ST 9 ST "value" "[B", .laysFinal ST ST "coder" "B", .fieldLink ST 15 ST "coder" "B",
  .methodLink ST 1 Lib.objectInit, .instanceMethod Lib.objectInit, .code Lib.objectInit ⟨#[0xb1]⟩ 1 none, .methodLink ST 177 Cmp3.yN, .static Cmp3.yN, .methodLink ST 47 CodL.yN, .static CodL.yN,
  .code Cmp3.yN Cmp3.yB 6 (some (.array .byte)), .initialized U16, .arrayClass .byte, .methodLink U16 115 Cmp5.yN, .static Cmp5.yN, .code Cmp5.yN Cmp5.yB 7 (some .int), .code CodL.yN CodL.yB 2 (some .byte)]
theorem tab_of {a : Array Value} {s : State} (h : ∀ w ∈ words, w.before a s = true) : New1.tab.before a s = true := by
  have h5 : Cmp5.tab.before a s = true := unparts (wk h (.code Cmp5.yN Cmp5.yB 7 (some .int))) (wks h (.initialized Cmp5.yN.cls :: Cmp5.site))
  have hc : CodL.tab.before a s = true := unparts (wk h (.code CodL.yN CodL.yB 2 (some .byte))) (wks h (.initialized CodL.yN.cls :: CodL.site))
  have q5 : ∀ w ∈ Cmp5.tab :: words, w.before a s = true := fun w hw => (List.mem_cons.mp hw).elim (fun e => e ▸ h5) (h w)
  have h3 : Cmp3.tab.before a s = true := unparts (wk q5 (.code Cmp3.yN Cmp3.yB 6 (some (.array .byte)))) (wks q5 (.initialized Cmp3.yN.cls :: Cmp3.site))
  have q3 : ∀ w ∈ Cmp3.tab :: CodL.tab :: words, w.before a s = true := fun w hw => (List.mem_cons.mp hw).elim (fun e => e ▸ h3) fun hw => (List.mem_cons.mp hw).elim (fun e => e ▸ hc) (h w)
  have h4 : New4.tab.before a s = true := unparts (wk q3 (.code New4.yN New4.yB 6 none)) (wks q3 (.initialized New4.yN.cls :: New4.site))
  have q4 : ∀ w ∈ New4.tab :: words, w.before a s = true := fun w hw => (List.mem_cons.mp hw).elim (fun e => e ▸ h4) (h w)
  exact unparts (wk q4 (.code New1.yN New1.yB 2 none)) (wks q4 (.initialized New1.yN.cls :: New1.site))
/-- the words ride from the start Z to the walk's own state -/
theorem moved {Z s : State} {a0 args : Array Value} (hZ : Z.Warmed39 s.vm) (hw : ∀ d ∈ words, d.before a0 Z = true) : ∀ d ∈ words, d.before args s = true := fun d hd => by
  have q := hw d hd
  have t : ∀ d ∈ words, d = .arrayClass .byte ∨ (d.onTables && d.keepsFace) = true := by decide +kernel
  rcases t d hd with rfl | t
  · exact RoadKit.mvA hZ q
  · exact RoadKit.mv hZ q t
/-- WHAT COMES BACK, over the tables of the start Z: h the heap at the call, h' behind it -/
def Q (Z : State) (x : Addr) (A : Cell) (h : Heap) (v : Option Value) (h' : Heap) (L : List Loc) : Prop := v = none ∧ (∀ y ∈ L, y.base = x) ∧ RoadKit.Keep h h' [x] ∧ h'.size = h.size + 1 ∧ RoadKit.Exa Z h' x ST ∧ RoadKit.Fld Z h' x ST "value" "[B" (.ref h.size) ∧ RoadKit.Fld Z h' x ST "coder" "B" (.int 0) ∧
  (∃ V : Cell, RoadKit.Arr Z h' h.size V .byte ∧ V.vm = .none ∧ Z.vm.findClass "[B" = some V.cls ∧ V.slots.size = A.slots.size ∧ ∀ j, j < A.slots.size → V.slots[j]? = some (.int (lo8 (cv A j)))) ∧
  ∀ (O n d : String) (w : Value), RoadKit.Fld Z h x O n d w → RoadKit.slotOf Z O n d ≠ RoadKit.slotOf Z ST "value" "[B" → RoadKit.slotOf Z O n d ≠ RoadKit.slotOf Z ST "coder" "B" → RoadKit.Fld Z h' x O n d w
/-- **new String(chars) AT A CALL, IN THE ROAD'S FORM**: for specialBack behind newO: x the fresh String, b the char[] with the cell A -/
theorem back {p : Program} {l : Launch} {e : Env} {R : Room} {s : State} {args : Array Value} {below : List Frame} {len W : Nat} {Z : State} {a0 : Array Value} {h : Heap} (hZ : Z.Warmed39 s.vm) (hw : ∀ d ∈ words, d.before a0 Z = true) {kI : Nat} (wi : (Jvm.Cond.instantiable ST kI).before a0 Z = true)
    {x b : Addr} {A : Cell} {z : Int32} {v0 c0 : Value} (E : RoadKit.Exa Z h x ST) (V : RoadKit.Fld Z h x ST "value" "[B" v0) (C : RoadKit.Fld Z h x ST "coder" "B" c0) (K : RoadKit.Arr Z h b A .char) (hty : Typed .char A) (S : RoadKit.Sta Z h ST "COMPACT_STRINGS" "Z" (.int z)) (hz : ¬ z = 0)
    (l0 : 0 < A.slots.size) (l2 : A.slots.size ≤ 536870912) (hp : ∀ i, i < A.slots.size → ¬ 255 < cv A i) (hfr : 4 ≤ R.frames) (hlo : W + 65 ≤ R.locals) :
    Back l R p e below s args New1.yN len W (fun P a => a = #[.ref x, .ref b] ∧ P.U.heap = h ∧ P.cells + 1 ≤ R.cells ∧ P.slots + A.slots.size ≤ R.slots)
      (fun P _ v B => ∃ L, Q Z x A h v B.U.heap L ∧ B.locs = P.locs ++ L ∧ B.cells = P.cells + 1 ∧ B.slots = P.slots + A.slots.size) := by
  intro m meth c P g ig mk a X hg hsize hdg hW hn hp'
  obtain ⟨rfl, rfl, r1, r2⟩ := hp'
  have al : Z.vm.Alike P.U.vm := hZ.alike.trans X.warmed.alike
  obtain ⟨D, cfV, kV, iV, fV, hD, gV, stV, knV, obV, asV, slV⟩ := id V
  obtain ⟨D', cfC, kC, iC, fC, hD', gC, stC, -, -, asC, slC⟩ := id C
  cases hD.symm.trans hD'
  obtain ⟨D2, kD, e1, e2, e3, e4, e5⟩ := id E
  cases hD.symm.trans e1
  obtain ⟨c2, k2, i1, i2, i3, -⟩ := Cond.instantiable_spec wi
  cases e2.symm.trans i1
  cases e3.symm.trans i2
  obtain ⟨kU, u1, u2⟩ := al.2.2 _ _ e3
  have hB : Blank ST x D P.U := ⟨hD, ⟨knV, fun q hq => by rw [hq] at obV; cases obV⟩, by rw [al.findClass]; exact e2, kU, u1, by rw [u2]; exact i3, by rw [u2]; exact e5 i3⟩
  have F1 : Found ST "value" "[B" fV P.U := ⟨SBG.found_only al ⟨cfV, kV, iV, gV⟩, stV⟩
  have F2 : Found ST "coder" "B" fC P.U := ⟨SBG.found_only al ⟨cfC, kC, iC, gC⟩, stC⟩
  have hA : Ch b A P.U := ⟨⟨K.1, State.isArrayOf_alike al K.2.1, K.2.2, by omega⟩, hty⟩
  have hS : StaticIs P.U ST "COMPACT_STRINGS" "Z" (.int z) := by
    obtain ⟨cfS, iS, kS, fS, st, cS, t1, t2, t3, t4, t5, t6, t7⟩ := S
    exact StaticIs.there (s := { Z with heap := P.U.heap }) ⟨cfS, iS, kS, fS, st, cS, t1, t2, t3, t4, t5, (fun q => by rw [q] at t6; cases t6), t7⟩ al rfl
  obtain ⟨v, B, X', ⟨⟨hv, E', V', q1, q2, q3, q4, q5, q6, q7, q8, q9, q10, q11⟩, hl, hc, hs⟩, st⟩ := New1.pays x D fV fC b A z (tab_of (moved hZ hw)) hfr hlo m meth c P g ig mk _ X hg hsize hdg hW hn ⟨r1, r2, rfl, hB, F1, F2, hA, hS, hz, l0, l2, hp⟩
  have al' : Z.vm.Alike B.U.vm := hZ.alike.trans X'.warmed.alike
  have hsz : E'.slots.size = D.slots.size := by
    obtain ⟨-, -, -, kB, w1, w2, w3⟩ := q1
    obtain ⟨kB', y1, y2⟩ := al'.2.2 _ _ e3
    rw [q2.2.1] at w1
    cases w1.symm.trans y1
    rw [w3, e5 i3, y2]
  refine ⟨v, B, X', ⟨_, ⟨hv, ?_, ⟨by omega, fun y cy hy hn' => q10 y cy (by simpa using hn') hy, fun y cy hy => ?_⟩, q11, ⟨E', _, q1.1, by rw [q2.2.1]; exact e2, by rw [q2.2.1]; exact e3, by rw [q2.1]; exact obV, fun _ => by rw [hsz]; exact e5 i3⟩,
    ⟨E', cfV, kV, iV, fV, q1.1, gV, stV, by rw [q2.1]; exact knV, by rw [q2.1]; exact obV, by rw [q2.2.1]; exact asV, q3⟩, ⟨E', cfC, kC, iC, fC, q1.1, gC, stC, by rw [q2.1]; exact knV, by rw [q2.1]; exact obV, by rw [q2.2.1]; exact asC, q4⟩,
    ⟨V', ⟨q5.1, State.isArrayOf_alike al'.symm q5.2.1, q5.2.2.1⟩, q6, by rw [← al'.findClass]; exact q7, q8, fun j hj => by have := q9 j hj; rwa [Nat.zero_add] at this⟩, fun O n d w F n1 n2 => ?_⟩, hl, hc, hs⟩, st⟩
  · intro y hy
    simp only [List.mem_cons, List.not_mem_nil, or_false] at hy
    rcases hy with rfl | rfl <;> rfl
  · by_cases q : y = x
    · subst q
      cases hD.symm.trans hy
      exact ⟨E', q1.1, q2.2.1, q2.1, hsz⟩
    · exact ⟨cy, q10 y cy q hy, rfl, rfl, rfl⟩
  · obtain ⟨D3, cf, k, i, f, g1, g2, g3, g4, g5, g6, g7⟩ := F
    cases hD.symm.trans g1
    simp only [RoadKit.slotOf, g2, gV, gC, Option.map_some, Option.getD_some] at n1 n2
    exact ⟨E', cf, k, i, f, q1.1, g2, g3, by rw [q2.1]; exact g4, by rw [q2.1]; exact g5, by rw [q2.2.1]; exact g6, by rw [q2.2.2 f.slot (by simp [n1, n2])]; exact g7⟩
end StrChars.Road
namespace StrChars.Road
open Jvm Sem ClassFile Op Lib Jvm.Stand Jvm.Free Jvm.Free.XT
/-- WHAT COMES BACK, the byte[] as a list of values -/
def QA (Z : State) (x : Addr) (zn : Int32) (cs : List Int32) (h : Heap) (v : Option Value) (h' : Heap) (L : List Loc) : Prop := v = none ∧ (∀ y ∈ L, y.base = x) ∧ RoadKit.Keep h h' [x] ∧ h'.size = h.size + 1 ∧ RoadKit.Exa Z h' x ST ∧ RoadKit.Fld Z h' x ST "value" "[B" (.ref h.size) ∧ RoadKit.Fld Z h' x ST "coder" "B" (.int 0) ∧
  (∃ kb, Z.vm.findClass "[B" = some kb ∧ RoadKit.Arv Z h' h.size kb .byte zn (cs.map fun c => .int (lo8 c)) (.int 0)) ∧
  ∀ (O n d : String) (w : Value), RoadKit.Fld Z h x O n d w → RoadKit.slotOf Z O n d ≠ RoadKit.slotOf Z ST "value" "[B" → RoadKit.slotOf Z O n d ≠ RoadKit.slotOf Z ST "coder" "B" → RoadKit.Fld Z h' x O n d w
/-- **new String(chars) AT A CALL, THE ARRAYS AS LISTS**: the char[] at b holds cs, not empty, no char above 255 -/
theorem backArv {p : Program} {l : Launch} {e : Env} {R : Room} {s : State} {args : Array Value} {below : List Frame} {len W : Nat} {Z : State} {a0 : Array Value} {h : Heap} (hZ : Z.Warmed39 s.vm) (hw : ∀ d ∈ words, d.before a0 Z = true) {kI : Nat} (wi : (Jvm.Cond.instantiable ST kI).before a0 Z = true)
    {x b : Addr} {k : ClassId} {zn z : Int32} {cs : List Int32} {dv v0 c0 : Value} (E : RoadKit.Exa Z h x ST) (V : RoadKit.Fld Z h x ST "value" "[B" v0) (C : RoadKit.Fld Z h x ST "coder" "B" c0) (K : RoadKit.Arv Z h b k .char zn (cs.map Value.int) dv) (S : RoadKit.Sta Z h ST "COMPACT_STRINGS" "Z" (.int z)) (hz : ¬ z = 0)
    (hlen : zn.toNatClampNeg = cs.length) (h0 : 0 < cs.length) (hbig : cs.length ≤ 536870912) (hall : ∀ c ∈ cs, ¬ 255 < c) (hfr : 4 ≤ R.frames) (hlo : W + 65 ≤ R.locals) :
    Back l R p e below s args New1.yN len W (fun P a => a = #[.ref x, .ref b] ∧ P.U.heap = h ∧ P.cells + 1 ≤ R.cells ∧ P.slots + cs.length ≤ R.slots)
      (fun P _ v B => ∃ L, QA Z x zn cs h v B.U.heap L ∧ B.locs = P.locs ++ L ∧ B.cells = P.cells + 1 ∧ B.slots = P.slots + cs.length) := by
  obtain ⟨A, K1, K2, K3, K4, K5, K6⟩ := K
  have e : A.slots.size = cs.length := K3.trans hlen
  have hat : ∀ (i : Nat) (hi : i < cs.length), A.slots[i]? = some (.int cs[i]) := fun i hi => by rw [K5 i (by omega)]; simp [List.getD_eq_getElem?_getD, hi]
  have hcv : ∀ (i : Nat) (hi : i < cs.length), cv A i = cs[i] := fun i hi => by unfold cv; rw [hat i hi]
  have hty : Typed .char A := fun i v hv => by
    have hi : i < A.slots.size := (Array.getElem?_eq_some_iff.mp hv).1
    have q := K5 i hi
    rw [hv] at q
    rw [Option.some.inj q]
    exact K6 i hi
  refine Back.mono (back hZ hw wi E V C K1 hty S hz (by omega) (by omega) (fun i hi => by rw [hcv i (by omega)]; exact hall _ (List.getElem_mem _)) hfr hlo) (fun P a hp => ⟨hp.1, hp.2.1, hp.2.2.1, by rw [e]; exact hp.2.2.2⟩) (fun P a v B hp hq => ?_)
  obtain ⟨L, ⟨q1, q2, q3, q4, q5, q6, q7, ⟨V', v1, v2, v3, v4, v5⟩, q9⟩, hl, hc, hs⟩ := hq
  refine ⟨L, ⟨q1, q2, q3, q4, q5, q6, q7, ⟨V'.cls, v3, V', v1, rfl, by rw [v4, e, hlen], K4, fun i hi => ?_, fun i hi => ?_⟩, q9⟩, hl, hc, by rw [hs, e]⟩
  · have hi' : i < cs.length := by omega
    rw [v5 i (by omega), hcv i hi']; simp [List.getD_eq_getElem?_getD, hi']
  · have hi' : i < cs.length := by omega
    simp only [List.getD_eq_getElem?_getD, List.getElem?_map, List.getElem?_eq_getElem hi', Option.map_some, Option.getD_some]
    exact fits_lo8 _
end StrChars.Road
namespace StrChars.Road
open Jvm Sem ClassFile Op Lib Jvm.Stand Jvm.Free Jvm.Free.XT
/-- WHAT COMES BACK, in the writer's own shape -/
def QV (Z : State) (x : Addr) (N : Int32) (bs : List Int32) (h : Heap) (n0 : Nat) (v : Option Value) (h' : Heap) (L : List Loc) : Prop := v = none ∧ RoadKit.Fr n0 L ∧ RoadKit.Keep h h' [x] ∧ RoadKit.Exa Z h' x ST ∧ RoadKit.Fld Z h' x ST "coder" "B" (.int 0) ∧
  ∃ (t : Addr) (kb : ClassId), n0 ≤ t ∧ h.size ≤ t ∧ ¬ t = x ∧ RoadKit.Fld Z h' x ST "value" "[B" (.ref t) ∧ RoadKit.Arv Z h' t kb .byte N (bs.map Value.int) (.int 0)
/-- **new String(chars) AT A CALL, FOR THE WRITER**: a char[] of n known ints, each 0 to 255 -/
theorem backV {p : Program} {l : Launch} {e : Env} {R : Room} {s : State} {args : Array Value} {below : List Frame} {len W : Nat} {Z : State} {a0 : Array Value} {h : Heap} (hZ : Z.Warmed39 s.vm) (hw : ∀ d ∈ words, d.before a0 Z = true) {kI : Nat} (wi : (Jvm.Cond.instantiable ST kI).before a0 Z = true)
    {x b : Addr} {kC : ClassId} {cs bs : List Int32} {d v0 c0 : Value} {z N : Int32} {n n0 : Nat} (hx0 : n0 ≤ x) (hh0 : n0 ≤ h.size) (E : RoadKit.Exa Z h x ST) (V : RoadKit.Fld Z h x ST "value" "[B" v0) (C : RoadKit.Fld Z h x ST "coder" "B" c0) (K : RoadKit.Arv Z h b kC .char N (cs.map Value.int) d) (S : RoadKit.Sta Z h ST "COMPACT_STRINGS" "Z" (.int z)) (hz : ¬ z = 0)
    (hn : cs.length = n) (hN : N = Int32.ofNat n) (l0 : 0 < n) (l2 : n ≤ 4000) (hp : ∀ c ∈ cs, ¬ c < 0 ∧ ¬ (255 : Int32) < c) (hb : bs = cs.map (fun c => c.toInt8.toInt32)) (hfr : 4 ≤ R.frames) (hlo : W + 65 ≤ R.locals) :
    Back l R p e below s args (⟨"java/lang/String", "<init>", "([C)V"⟩ : MethodName) len W (fun P a => a = #[.ref x, .ref b] ∧ P.U.heap = h ∧ P.cells + 1 ≤ R.cells ∧ P.slots + n ≤ R.slots)
      (fun P _ v B => ∃ L, QV Z x N bs h n0 v B.U.heap L ∧ B.locs = P.locs ++ L ∧ B.cells = P.cells + 1 ∧ B.slots = P.slots + n) := by
  subst hn hN hb
  refine Back.mono (backArv hZ hw wi E V C K S hz (n32 (by omega)) l0 (by omega) (fun c hc => (hp c hc).2) hfr hlo) (fun P a hp => hp) (fun P a v B hp hq => ?_)
  obtain ⟨L, ⟨q1, q2, q3, q4, q5, q6, q7, ⟨kb, v1, v2⟩, q9⟩, hl, hc, hs⟩ := hq
  exact ⟨L, ⟨q1, fun y hy => by rw [q2 y hy]; exact hx0, q3, q5, q7, h.size, kb, hh0, Nat.le_refl _, Nat.ne_of_gt E.lt, q6, by rw [List.map_map]; exact v2⟩, hl, hc, hs⟩
end StrChars.Road
namespace StrChars
open Jvm Sem ClassFile Op Lib Jvm.Stand Jvm.Free.XT Jvm.Free.ALB Jvm.Free.JM Jvm.Free
open Jvm.Lib.Cold (StaticIs)
def hi8 (x : Int32) : Int32 := lo8 (x >>> ((8 : Int32) &&& 31))
/-- what StringUTF16.getChar makes of two bytes -/
def pairCh (u v : Int32) : Int32 := (((u &&& 255) <<< ((0 : Int32) &&& 31)) ||| ((v &&& 255) <<< ((8 : Int32) &&& 31))).toUInt32.toUInt16.toUInt32.toInt32
theorem shr0 (c : Int32) : c >>> ((0 : Int32) &&& 31) = c := by
  have e : ((0 : Int32) &&& 31) = 0 := by decide
  rw [e]
  apply Int32.toBitVec_inj.mp
  rw [Int32.toBitVec_shiftRight]
  have e1 : ((0 : Int32).toBitVec.smod 32) = 0#32 := by decide
  rw [e1, BitVec.sshiftRight_eq']
  exact BitVec.sshiftRight_zero
theorem lo8_and (x : Int32) : (lo8 x &&& 255).toBitVec.toNat = x.toBitVec.toNat % 256 := by
  have h : (lo8 x).toBitVec = (x.toBitVec.signExtend 8).signExtend 32 := by rw [lo8, Int8.toBitVec_toInt32, Int32.toBitVec_toInt8]
  rw [Int32.toBitVec_and, BitVec.toNat_and, h]
  have e : ((x.toBitVec.signExtend 8).signExtend 32).toNat % 256 = x.toBitVec.toNat % 256 := by
    rw [BitVec.toNat_signExtend]
    have hlt := x.toBitVec.isLt
    simp only [BitVec.toNat_setWidth, BitVec.toNat_signExtend]
    split <;> split <;> omega
  rw [← e]
  exact Nat.and_two_pow_sub_one_eq_mod _ 8
theorem pair_says {c : Int32} (h0 : ¬ c < 0) (h1 : ¬ 65535 < c) : pairCh (lo8 c) (hi8 c) = c := by
  rw [Int32.lt_iff_toInt_lt] at h0 h1
  have e0 : (0 : Int32).toInt = 0 := rfl
  have e1 : (65535 : Int32).toInt = 65535 := rfl
  have hc : c.toInt = c.toBitVec.toNat := by
    have := c.toBitVec.isLt
    have e : c.toInt = c.toBitVec.toInt := rfl
    rw [e] at h0 h1
    rw [e]
    rw [BitVec.toInt_eq_toNat_cond] at h0 h1 ⊢
    split at h0 <;> split <;> omega
  have hn : c.toBitVec.toNat < 65536 := by omega
  have a1 := lo8_and c
  have a2 : (hi8 c &&& 255).toBitVec.toNat = c.toBitVec.toNat / 256 := by
    rw [hi8, lo8_and]
    have e : ((8 : Int32) &&& 31) = 8 := by decide
    rw [e, Int32.toBitVec_shiftRight]
    have e2 : ((8 : Int32).toBitVec.smod 32) = 8#32 := by decide
    rw [e2, BitVec.sshiftRight_eq', BitVec.toNat_sshiftRight_of_msb_false (by rw [BitVec.msb_eq_false_iff_two_mul_lt]; omega)]
    show c.toBitVec.toNat >>> 8 % 256 = _
    rw [Nat.shiftRight_eq_div_pow]
    omega
  unfold pairCh
  apply Int32.toBitVec_inj.mp
  apply BitVec.eq_of_toNat_eq
  have f0 : ((0 : Int32) &&& 31) = 0 := by decide
  have f8 : ((8 : Int32) &&& 31) = 8 := by decide
  rw [f0, f8]
  have g : (((lo8 c &&& 255) <<< (0 : Int32)) ||| ((hi8 c &&& 255) <<< (8 : Int32))).toBitVec.toNat = c.toBitVec.toNat := by
    rw [Int32.toBitVec_or, Int32.toBitVec_shiftLeft, Int32.toBitVec_shiftLeft]
    have s0 : ((0 : Int32).toBitVec.smod 32) = 0#32 := by decide
    have s8 : ((8 : Int32).toBitVec.smod 32) = 8#32 := by decide
    rw [s0, s8, BitVec.toNat_or]
    simp only [BitVec.shiftLeft_eq', BitVec.toNat_shiftLeft, a1, a2]
    show (c.toBitVec.toNat % 256) <<< 0 % 2 ^ 32 ||| (c.toBitVec.toNat / 256) <<< 8 % 2 ^ 32 = _
    rw [Nat.shiftLeft_zero, Nat.mod_eq_of_lt (show c.toBitVec.toNat % 256 < 2 ^ 32 by omega), Nat.mod_eq_of_lt (show (c.toBitVec.toNat / 256) <<< 8 < 2 ^ 32 by rw [Nat.shiftLeft_eq]; omega), Nat.or_comm, ← Nat.shiftLeft_add_eq_or_of_lt (by omega), Nat.shiftLeft_eq]
    omega
  show BitVec.toNat (((((lo8 c &&& 255) <<< (0 : Int32)) ||| ((hi8 c &&& 255) <<< (8 : Int32))).toBitVec.setWidth 16).setWidth 32) = _
  rw [BitVec.toNat_setWidth, BitVec.toNat_setWidth, g]
  omega
end StrChars
namespace StrChars
open Jvm Sem ClassFile Op Lib Jvm.Stand Jvm.Free.XT Jvm.Free.ALB Jvm.Free.JM Jvm.Free
open Jvm.Lib.Cold (StaticIs)
theorem shr1 {n : Nat} (h : 2 * n < 2 ^ 31) : Int32.ofNat (2 * n) >>> ((1 : Int32) &&& 31) = Int32.ofNat n := by
  have e : ((1 : Int32) &&& 31) = 1 := by decide
  rw [e]
  apply Int32.toBitVec_inj.mp
  rw [Int32.toBitVec_shiftRight]
  have e1 : ((1 : Int32).toBitVec.smod 32) = 1#32 := by decide
  have hm : (BitVec.ofNat 32 (2 * n)).toNat = 2 * n := by rw [BitVec.toNat_ofNat, Nat.mod_eq_of_lt (by omega)]
  rw [e1, BitVec.sshiftRight_eq']
  apply BitVec.eq_of_toNat_eq
  show ((BitVec.ofNat 32 (2 * n)).sshiftRight 1).toNat = (BitVec.ofNat 32 n).toNat
  rw [BitVec.toNat_sshiftRight_of_msb_false (by rw [BitVec.msb_eq_false_iff_two_mul_lt, hm]; omega), hm, BitVec.toNat_ofNat, Nat.shiftRight_eq_div_pow]
  omega
/-- charAt's cast of a byte read back -/
def chr8 (u : Int32) : Int32 := (u &&& 255).toUInt32.toUInt16.toUInt32.toInt32
theorem chr8_lo8 {c : Int32} (h0 : ¬ c < 0) (h1 : ¬ 255 < c) : chr8 (lo8 c) = c := by
  have t : ∀ k : Fin 256, (Int32.ofNat k.val).toUInt32.toUInt16.toUInt32.toInt32 = Int32.ofNat k.val := by decide +kernel
  unfold chr8
  rw [lo8_mask h0 h1]
  rw [Int32.lt_iff_toInt_lt] at h0 h1
  have e0 : (0 : Int32).toInt = 0 := rfl
  have e1 : (255 : Int32).toInt = 255 := rfl
  obtain ⟨k, hk⟩ : ∃ k : Nat, c.toInt = k := ⟨c.toInt.toNat, by omega⟩
  have hx : c = Int32.ofNat k := Int32.toInt_inj.mp (by rw [hk, Int32.toInt_ofNat_small (by omega)])
  rw [hx]
  exact t ⟨k, by omega⟩
theorem narrow_ch {c : Int32} (h0 : ¬ c < 0) (h1 : ¬ 65535 < c) : narrow .char (.int c) = .int c := by
  have q : narrow .char (.int (pairCh (lo8 c) (hi8 c))) = .int (pairCh (lo8 c) (hi8 c)) := narrow_c _
  rwa [pair_says h0 h1] at q
/-- the array's cell V codes the n chars f 0 .. f (n - 1) by the coder cd, as the JDK does: coder 1 just where some char is above 255 -/
def Cod (cd : Int32) (n : Nat) (f : Nat → Int32) (V : Cell) : Prop := (cd = 0 ∧ V.slots.size = n ∧ ∀ j, j < n → V.slots[j]? = some (.int (lo8 (f j))) ∧ ¬ 255 < f j) ∨ (cd = 1 ∧ V.slots.size = 2 * n ∧ (∀ j, j < n → V.slots[2 * j]? = some (.int (lo8 (f j))) ∧ V.slots[2 * j + 1]? = some (.int (hi8 (f j)))) ∧ ∃ j, j < n ∧ 255 < f j)
theorem Cod.cd {cd : Int32} {n : Nat} {f : Nat → Int32} {V : Cell} (h : Cod cd n f V) : cd = 0 ∨ cd = 1 := h.imp (fun q => q.1) fun q => q.1
theorem Cod.len {cd : Int32} {n : Nat} {f : Nat → Int32} {V : Cell} (h : Cod cd n f V) (hs : V.slots.size < 2 ^ 31) : Int32.ofNat V.slots.size >>> (cd &&& 31) = Int32.ofNat n := by
  rcases h with ⟨rfl, h, -⟩ | ⟨rfl, h, -⟩
  · rw [shr0, h]
  · rw [h, shr1 (by omega)]
/-- **x is a String of the n chars f 0 .. f (n - 1)**, Latin-1 or UTF-16; its array at t has the cell V -/
def Txt (x t : Addr) (V : Cell) (cd : Int32) (n : Nat) (f : Nat → Int32) (U : State) : Prop := Exact "java/lang/String" x U ∧ Has x "java/lang/String" "value" "[B" (.ref t) U ∧ Has x "java/lang/String" "coder" "B" (.int cd) U ∧ XT.Arr .byte t V U ∧ Cod cd n f V ∧ ∀ j, j < n → ¬ f j < 0 ∧ ¬ 65535 < f j
theorem Txt.mv {x t : Addr} {V : Cell} {cd : Int32} {n : Nat} {f : Nat → Int32} {U U' : State} (h : Txt x t V cd n f U) (hal : U.vm.Alike U'.vm) (hh : U'.heap = U.heap) : Txt x t V cd n f U' := ⟨h.1.mv hal hh, h.2.1.mv hal hh, h.2.2.1.mv hal hh, h.2.2.2.1.mv hal hh, h.2.2.2.2⟩
namespace Cdr
def yN : MethodName := ⟨"java/lang/String", "coder", "()B"⟩
abbrev yB : ByteArray := jdk_42_method_152_code
theorem d0 : decode yB 0 = .ok (.getstatic 38, 3) := by decide +kernel
theorem d3 : decode yB 3 = .ok (.ifCond (.eq) 10, 3) := by decide +kernel
theorem d6 : decode yB 6 = .ok (.aload_n 0, 1) := by decide +kernel
theorem d7 : decode yB 7 = .ok (.getfield 15, 3) := by decide +kernel
theorem d10 : decode yB 10 = .ok (.goto 4, 3) := by decide +kernel
theorem d14 : decode yB 14 = .ok (.ireturn, 1) := by decide +kernel
def site : List Cond := [.fieldLink "java/lang/String" 38 "java/lang/String" "COMPACT_STRINGS" "Z", .fieldLink "java/lang/String" 15 "java/lang/String" "coder" "B"]
def tab : Cond := tabOf yN yB 1 (some .byte) site
def P (x : Addr) (cd z : Int32) (args : Array Value) (s : State) : Prop := args = #[.ref x] ∧ Has x "java/lang/String" "coder" "B" (.int cd) s ∧ (cd = 0 ∨ cd = 1) ∧ StaticIs s "java/lang/String" "COMPACT_STRINGS" "Z" (.int z) ∧ ¬ z = 0
def E (cd : Int32) (r : Option Value) (s u : State) : Prop := XT.PureE (some (.int cd)) r s u
theorem law (l : Launch) (x : Addr) (cd z : Int32) : Law l yN 1 0 0 0 yB 1 (some .byte) site (P x cd z) (E cd) [] 0 0 := by
  refine Law.of_walk (plainFor_of_name (by decide +kernel)) (by decide +kernel) (by decide +kernel) (by decide) (fun _ _ h => by rw [h.1]; rfl) (fun _ U U' hal hh h => ⟨h.1, h.2.1.mv hal hh, h.2.2.1, h.2.2.2.1.there hal hh, h.2.2.2.2⟩) (fun r U U' V V' h1 hal h2 h => XT.PureE.mv r U U' V V' h1 hal h2 h) ?_
  intro p e s m args below meth c s₁ X0 hexec hbytes hml hret hlk hnm hown hh0 W hP
  obtain ⟨rfl, hx, hc, s1, hz⟩ := hP
  have c1 : Steps p.tables e below (s₁.setTop (entryFrame m #[.ref x] 1)) (s₁.setTop (mkF m 0 #[.val (.ref x)] [])) := entry rfl
  obtain ⟨T2, X2, q2, st2⟩ := X0.sget hexec hown (wk W (.fieldLink "java/lang/String" 38 "java/lang/String" "COMPACT_STRINGS" "Z")) s1 (fun _ _ h => by rw [hh0]; exact h) (g := (mkF m 0 #[.val (.ref x)] [])) rfl (hb hbytes d0)
  have hh2 := q2.trans hh0
  have c3 : Steps p.tables e below (s₁.setTop (entryFrame m #[.ref x] 1)) (T2.setTop (mkF m 7 #[.val (.ref x)] [.ref x])) := (c1.trans (st2 _ (Steps.refl _))).trans (by
    refine XS.ifNo X2.here hexec rfl (hb hbytes d3) rfl (i0_eq_f hz) ?_
    refine XS.aloadN X2.here hexec rfl (hb hbytes d6) rfl rfl ?_
    exact Steps.refl _)
  obtain ⟨T4, X4, q4, st4⟩ := X2.hget hexec hown (wk W (.fieldLink "java/lang/String" 15 "java/lang/String" "coder" "B")) (hx.mv X2.warmed.alike hh2) (g := (mkF m 7 #[.val (.ref x)] [.ref x])) rfl (rest := []) rfl (hb hbytes d7)
  have c5 : Steps p.tables e below (s₁.setTop (entryFrame m #[.ref x] 1)) (T4.setTop (mkF m 14 #[.val (.ref x)] [.int cd])) := (c3.trans (st4 _ (Steps.refl _))).trans (by
    refine XS.goto X4.here hexec rfl (pc0 := 10) rfl (hb hbytes d10) (by decide) rfl ?_
    exact Steps.refl _)
  exact ⟨T4, some (.int cd), _, _, _, X4, rfl, rfl, rfl, (fun h => by cases h), ⟨rfl, q4.trans hh2⟩, fun fs hl => c5.trans (X4.ireturnOut hexec hret (by rcases hc with rfl | rfl <;> rfl) (Or.inr (Or.inr (Or.inl rfl))) (hb hbytes d14) hl)⟩
end Cdr
namespace Len
def yN : MethodName := ⟨"java/lang/String", "length", "()I"⟩
abbrev yB : ByteArray := jdk_42_method_54_code
theorem d0 : decode yB 0 = .ok (.aload_n 0, 1) := by decide +kernel
theorem d1 : decode yB 1 = .ok (.getfield 9, 3) := by decide +kernel
theorem d4 : decode yB 4 = .ok (.arraylength, 1) := by decide +kernel
theorem d5 : decode yB 5 = .ok (.aload_n 0, 1) := by decide +kernel
theorem d6 : decode yB 6 = .ok (.invokevirtual 335, 3) := by decide +kernel
theorem d9 : decode yB 9 = .ok (.ishr, 1) := by decide +kernel
theorem d10 : decode yB 10 = .ok (.ireturn, 1) := by decide +kernel
def site : List Cond := [.fieldLink "java/lang/String" 9 "java/lang/String" "value" "[B", Cdr.tab] ++ virtW "java/lang/String" 335 "java/lang/String" Cdr.yN Cdr.yN
def tab : Cond := tabOf yN yB 1 (some .int) site
def P (x t : Addr) (V : Cell) (cd : Int32) (n : Nat) (f : Nat → Int32) (z : Int32) (args : Array Value) (s : State) : Prop := args = #[.ref x] ∧ Txt x t V cd n f s ∧ StaticIs s "java/lang/String" "COMPACT_STRINGS" "Z" (.int z) ∧ ¬ z = 0
def E (n : Nat) (r : Option Value) (s u : State) : Prop := XT.PureE (some (.int (Int32.ofNat n))) r s u
/-- length() of a String of n chars, in either coding -/
theorem law (l : Launch) (x t : Addr) (V : Cell) (cd : Int32) (n : Nat) (f : Nat → Int32) (z : Int32) : Law l yN 1 0 1 13 yB 1 (some .int) site (P x t V cd n f z) (E n) [] 0 0 := by
  refine Law.of_walk (plainFor_of_name (by decide +kernel)) (by decide +kernel) (by decide +kernel) (by decide) (fun _ _ h => by rw [h.1]; rfl) (fun _ U U' hal hh h => ⟨h.1, h.2.1.mv hal hh, h.2.2.1.there hal hh, h.2.2.2⟩) (fun r U U' V V' h1 hal h2 h => XT.PureE.mv r U U' V V' h1 hal h2 h) ?_
  intro p e s m args below meth c s₁ X0 hexec hbytes hml hret hlk hnm hown hh0 W hP
  obtain ⟨rfl, hx, s1, hz⟩ := hP
  have v31 := hx.2.2.2.1.2.2.2
  have c1 : Steps p.tables e below (s₁.setTop (entryFrame m #[.ref x] 1)) (s₁.setTop (mkF m 1 #[.val (.ref x)] [.ref x])) := Steps.trans (entry rfl) (by
    show Steps p.tables e below (s₁.setTop (mkF m 0 #[.val (.ref x)] [])) _
    refine XS.aloadN X0.here hexec rfl (hb hbytes d0) rfl rfl ?_
    exact Steps.refl _)
  obtain ⟨T2, X2, q2, st2⟩ := X0.hget hexec hown (wk W (.fieldLink "java/lang/String" 9 "java/lang/String" "value" "[B")) (hx.mv X0.warmed.alike hh0).2.1 (g := (mkF m 1 #[.val (.ref x)] [.ref x])) rfl (rest := []) rfl (hb hbytes d1)
  have hh2 := q2.trans hh0
  have hx2 := hx.mv X2.warmed.alike hh2
  have c3 : Steps p.tables e below (s₁.setTop (entryFrame m #[.ref x] 1)) (T2.setTop (mkF m 6 #[.val (.ref x)] [.ref x, .int (Int32.ofNat V.slots.size)])) := (c1.trans (st2 _ (Steps.refl _))).trans (by
    refine X2.alen hexec hx2.2.2.2.1 rfl rfl (hb hbytes d4) ?_
    refine XS.aloadN X2.here hexec rfl (hb hbytes d5) rfl rfl ?_
    exact Steps.refl _)
  obtain ⟨v4, T4, X4, E4, g4⟩ := X2.callV hexec (Cdr.law l x cd z) hown (wks W (virtW "java/lang/String" 335 "java/lang/String" Cdr.yN Cdr.yN)) rfl (by decide) (wk W Cdr.tab) (W := 1) (Nat.le_of_ble_eq_true rfl) (Nat.le_of_ble_eq_true rfl) (Nat.le_refl _) (Nat.le_refl _) (hx2.1.fc X2.warmed.alike) hx2.1.is (g := (mkF m 6 #[.val (.ref x)] [.ref x, .int (Int32.ofNat V.slots.size)])) rfl (by rw [hml]; rfl) c3 (argsL := []) (rest := [.int (Int32.ofNat V.slots.size)]) rfl rfl (by show 2 * 0 + (1 + 0) ≤ _; decide) (hb hbytes d6) (⟨rfl, hx2.2.2.1, hx.2.2.2.2.1.cd, s1.there X2.warmed.alike hh2, hz⟩)
  obtain ⟨rfl, q4⟩ := E4
  have c5 : Steps p.tables e below (s₁.setTop (entryFrame m #[.ref x] 1)) (T4.setTop (mkF m 10 #[.val (.ref x)] [.int (Int32.ofNat V.slots.size >>> (cd &&& 31))])) := Steps.trans g4 (by
    refine ishr X4.here hexec rfl (hb hbytes d9) rfl ?_
    exact Steps.refl _)
  rw [hx.2.2.2.2.1.len v31] at c5
  exact ⟨T4, some (.int (Int32.ofNat n)), _, _, _, X4, rfl, rfl, rfl, (fun h => by cases h), ⟨rfl, q4.trans hh2⟩, fun fs hl => c5.trans (X4.ireturnOut hexec hret rfl (Or.inl rfl) (hb hbytes d10) hl)⟩
theorem pays {l : Launch} {R : Room} {p : Program} {e : Env} {below : List Frame} {s : State} {sargs : Array Value} {len W : Nat} (x t : Addr) (V : Cell) (cd : Int32) (n : Nat) (f : Nat → Int32) (z : Int32) (htab : tab.before sargs s = true) (hfr : 2 ≤ R.frames) (hlo : W + 25 ≤ R.locals) :
    Back l R p e below s sargs yN len W (fun A₁ a₁ => A₁.cells + 0 ≤ R.cells ∧ A₁.slots + 0 ≤ R.slots ∧ P x t V cd n f z a₁ A₁.U) (fun A₁ _ v₁ B₁ => E n v₁ A₁.U B₁.U ∧ B₁.locs = A₁.locs ++ [] ∧ B₁.cells = A₁.cells + 0 ∧ B₁.slots = A₁.slots + 0) :=
  (law l x t V cd n f z).pays htab hfr (by omega)
end Len
namespace IsL
def yN : MethodName := ⟨"java/lang/String", "isLatin1", "()Z"⟩
abbrev yB : ByteArray := jdk_42_method_154_code
theorem d0 : decode yB 0 = .ok (.getstatic 38, 3) := by decide +kernel
theorem d3 : decode yB 3 = .ok (.ifCond (.eq) 14, 3) := by decide +kernel
theorem d6 : decode yB 6 = .ok (.aload_n 0, 1) := by decide +kernel
theorem d7 : decode yB 7 = .ok (.getfield 15, 3) := by decide +kernel
theorem d10 : decode yB 10 = .ok (.ifCond (.ne) 7, 3) := by decide +kernel
theorem d13 : decode yB 13 = .ok (.iconst 1, 1) := by decide +kernel
theorem d14 : decode yB 14 = .ok (.goto 4, 3) := by decide +kernel
theorem d17 : decode yB 17 = .ok (.iconst 0, 1) := by decide +kernel
theorem d18 : decode yB 18 = .ok (.ireturn, 1) := by decide +kernel
def site : List Cond := [.fieldLink "java/lang/String" 38 "java/lang/String" "COMPACT_STRINGS" "Z", .fieldLink "java/lang/String" 15 "java/lang/String" "coder" "B"]
def tab : Cond := tabOf yN yB 1 (some .boolean) site
def P (x : Addr) (cd z : Int32) (args : Array Value) (s : State) : Prop := args = #[.ref x] ∧ Has x "java/lang/String" "coder" "B" (.int cd) s ∧ (cd = 0 ∨ cd = 1) ∧ StaticIs s "java/lang/String" "COMPACT_STRINGS" "Z" (.int z) ∧ ¬ z = 0
def E (cd : Int32) (r : Option Value) (s u : State) : Prop := XT.PureE (some (.int (1 - cd))) r s u
theorem law (l : Launch) (x : Addr) (cd z : Int32) : Law l yN 1 0 0 0 yB 1 (some .boolean) site (P x cd z) (E cd) [] 0 0 := by
  refine Law.of_walk (plainFor_of_name (by decide +kernel)) (by decide +kernel) (by decide +kernel) (by decide) (fun _ _ h => by rw [h.1]; rfl) (fun _ U U' hal hh h => ⟨h.1, h.2.1.mv hal hh, h.2.2.1, h.2.2.2.1.there hal hh, h.2.2.2.2⟩) (fun r U U' V V' h1 hal h2 h => XT.PureE.mv r U U' V V' h1 hal h2 h) ?_
  intro p e s m args below meth c s₁ X0 hexec hbytes hml hret hlk hnm hown hh0 W hP
  obtain ⟨rfl, hx, hc, s1, hz⟩ := hP
  have c1 : Steps p.tables e below (s₁.setTop (entryFrame m #[.ref x] 1)) (s₁.setTop (mkF m 0 #[.val (.ref x)] [])) := entry rfl
  obtain ⟨T2, X2, q2, st2⟩ := X0.sget hexec hown (wk W (.fieldLink "java/lang/String" 38 "java/lang/String" "COMPACT_STRINGS" "Z")) s1 (fun _ _ h => by rw [hh0]; exact h) (g := (mkF m 0 #[.val (.ref x)] [])) rfl (hb hbytes d0)
  have hh2 := q2.trans hh0
  have c3 : Steps p.tables e below (s₁.setTop (entryFrame m #[.ref x] 1)) (T2.setTop (mkF m 7 #[.val (.ref x)] [.ref x])) := (c1.trans (st2 _ (Steps.refl _))).trans (by
    refine XS.ifNo X2.here hexec rfl (hb hbytes d3) rfl (i0_eq_f hz) ?_
    refine XS.aloadN X2.here hexec rfl (hb hbytes d6) rfl rfl ?_
    exact Steps.refl _)
  obtain ⟨T4, X4, q4, st4⟩ := X2.hget hexec hown (wk W (.fieldLink "java/lang/String" 15 "java/lang/String" "coder" "B")) (hx.mv X2.warmed.alike hh2) (g := (mkF m 7 #[.val (.ref x)] [.ref x])) rfl (rest := []) rfl (hb hbytes d7)
  have c5 : Steps p.tables e below (s₁.setTop (entryFrame m #[.ref x] 1)) (T4.setTop (mkF m 10 #[.val (.ref x)] [.int cd])) := c3.trans (st4 _ (Steps.refl _))
  have c6 : Steps p.tables e below (s₁.setTop (entryFrame m #[.ref x] 1)) (T4.setTop (mkF m 18 #[.val (.ref x)] [.int (1 - cd)])) := by
    rcases hc with rfl | rfl
    · exact c5.trans (by
        refine XS.ifNo X4.here hexec rfl (hb hbytes d10) rfl (i0_ne_f rfl) ?_
        refine iconstV X4.here hexec rfl 1 (hb hbytes d13) (by decide) ?_
        refine XS.goto X4.here hexec rfl (pc0 := 14) rfl (hb hbytes d14) (by decide) rfl ?_
        exact Steps.refl _)
    · exact c5.trans (by
        refine XS.ifYes X4.here hexec rfl (pc0 := 10) rfl (hb hbytes d10) rfl (i0_ne_t (by decide)) (by decide) rfl ?_
        refine iconstV X4.here hexec rfl 0 (hb hbytes d17) (by decide) ?_
        exact Steps.refl _)
  exact ⟨T4, some (.int (1 - cd)), _, _, _, X4, rfl, rfl, rfl, (fun h => by cases h), ⟨rfl, q4.trans hh2⟩, fun fs hl => c6.trans (X4.ireturnOut hexec hret (by rcases hc with rfl | rfl <;> rfl) (Or.inr (Or.inl rfl)) (hb hbytes d18) hl)⟩
end IsL
namespace LChA
def yN : MethodName := ⟨"java/lang/StringLatin1", "charAt", "([BI)C"⟩
abbrev yB : ByteArray := jdk_43_method_2_code
theorem d0 : decode yB 0 = .ok (.iload_n 1, 1) := by decide +kernel
theorem d1 : decode yB 1 = .ok (.aload_n 0, 1) := by decide +kernel
theorem d2 : decode yB 2 = .ok (.arraylength, 1) := by decide +kernel
theorem d3 : decode yB 3 = .ok (.invokestatic 9, 3) := by decide +kernel
theorem d6 : decode yB 6 = .ok (.aload_n 0, 1) := by decide +kernel
theorem d7 : decode yB 7 = .ok (.iload_n 1, 1) := by decide +kernel
theorem d8 : decode yB 8 = .ok (.baload, 1) := by decide +kernel
theorem d9 : decode yB 9 = .ok (.sipush 255, 3) := by decide +kernel
theorem d12 : decode yB 12 = .ok (.iand, 1) := by decide +kernel
theorem d13 : decode yB 13 = .ok (.i2c, 1) := by decide +kernel
theorem d14 : decode yB 14 = .ok (.ireturn, 1) := by decide +kernel
def site : List Cond := [JO.Str_checkIndex.tab] ++ staticW "java/lang/StringLatin1" 9 JO.Str_checkIndex.yN
def tab : Cond := tabOf yN yB 2 (some .char) site
def P (t : Addr) (V : Cell) (i : Nat) (u : Int32) (fm : Value) (args : Array Value) (s : State) : Prop := args = #[.ref t, .int (Int32.ofNat i)] ∧ XT.Arr .byte t V s ∧ V.slots[i]? = some (.int u) ∧ (StaticIs s "jdk/internal/util/Preconditions" "SIOOBE_FORMATTER" "Ljava/util/function/BiFunction;" fm ∧ fm.isRef = true)
def E (u : Int32) (r : Option Value) (s w : State) : Prop := XT.PureE (some (.int (chr8 u))) r s w
theorem law (l : Launch) (t : Addr) (V : Cell) (i : Nat) (u : Int32) (fm : Value) : Law l yN 2 2 2 27 yB 2 (some .char) site (P t V i u fm) (E u) [] 0 0 := by
  refine Law.of_walk (plainFor_of_name (by decide +kernel)) (by decide +kernel) (by decide +kernel) (by decide) (fun _ _ h => by rw [h.1]; rfl) (fun _ U U' hal hh h => ⟨h.1, h.2.1.mv hal hh, h.2.2.1, h.2.2.2.1.there hal hh, h.2.2.2.2⟩) (fun r U U' V V' h1 hal h2 h => XT.PureE.mv r U U' V V' h1 hal h2 h) ?_
  intro p e s m args below meth c s₁ X0 hexec hbytes hml hret hlk hnm hown hh0 W hP
  obtain ⟨rfl, hV, hu, s1, rf⟩ := hP
  have v31 := hV.2.2.2
  have hi : i < V.slots.size := (Array.getElem?_eq_some_iff.mp hu).1
  have c1 : Steps p.tables e below (s₁.setTop (entryFrame m #[.ref t, .int (Int32.ofNat i)] 2)) (s₁.setTop (mkF m 0 #[.val (.ref t), .val (.int (Int32.ofNat i))] [])) := entry rfl
  have c2 : Steps p.tables e below (s₁.setTop (entryFrame m #[.ref t, .int (Int32.ofNat i)] 2)) (s₁.setTop (mkF m 3 #[.val (.ref t), .val (.int (Int32.ofNat i))] [.int (Int32.ofNat V.slots.size), .int (Int32.ofNat i)])) := c1.trans (by
    refine XS.iloadN X0.here hexec rfl (hb hbytes d0) rfl ?_
    refine XS.aloadN X0.here hexec rfl (hb hbytes d1) rfl rfl ?_
    refine X0.alen hexec (hV.mv X0.warmed.alike hh0) rfl rfl (hb hbytes d2) ?_
    exact Steps.refl _)
  obtain ⟨v3, T3, X3, E3, g3⟩ := X0.callS hexec (JO.Str_checkIndex.law l (Int32.ofNat i) (Int32.ofNat V.slots.size) fm) hown (wks W (staticW "java/lang/StringLatin1" 9 JO.Str_checkIndex.yN)) (wk W JO.Str_checkIndex.tab) (W := 0) (Nat.le_of_ble_eq_true rfl) (Nat.le_of_ble_eq_true rfl) (Nat.le_refl _) (Nat.le_refl _) (g := (mkF m 3 #[.val (.ref t), .val (.int (Int32.ofNat i))] [.int (Int32.ofNat V.slots.size), .int (Int32.ofNat i)])) rfl (by rw [hml]; rfl) c2 (argsL := [.int (Int32.ofNat i), .int (Int32.ofNat V.slots.size)]) (rest := []) rfl rfl (by show 2 * 0 + 0 ≤ _; decide) (hb hbytes d3) (⟨rfl, rf, s1.there X0.warmed.alike hh0, Int32.ofNat_not_neg (by omega), lt32 v31 hi⟩)
  obtain ⟨rfl, q3⟩ := E3
  have hh3 := q3.trans hh0
  have c4 : Steps p.tables e below (s₁.setTop (entryFrame m #[.ref t, .int (Int32.ofNat i)] 2)) (T3.setTop (mkF m 14 #[.val (.ref t), .val (.int (Int32.ofNat i))] [.int (chr8 u)])) := Steps.trans g3 (by
    refine XS.aloadN X3.here hexec rfl (hb hbytes d6) rfl rfl ?_
    refine XS.iloadN X3.here hexec rfl (hb hbytes d7) rfl ?_
    refine X3.aget hexec (hV.mv X3.warmed.alike hh3) rfl hu rfl rfl (hb hbytes d8) ?_
    refine sipushV X3.here hexec rfl 255 (hb hbytes d9) (by decide) ?_
    refine XS.iand X3.here hexec rfl (hb hbytes d12) rfl ?_
    refine i2c X3.here hexec rfl (hb hbytes d13) rfl ?_
    exact Steps.refl _)
  exact ⟨T3, some (.int (chr8 u)), _, _, _, X3, rfl, rfl, rfl, (fun h => by cases h), ⟨rfl, hh3⟩, fun fs hl => c4.trans (X3.ireturnOut hexec hret (narrow_c _) (Or.inr (Or.inr (Or.inr (Or.inl rfl)))) (hb hbytes d14) hl)⟩
end LChA
end StrChars
namespace StrChars.Road
open Jvm Sem ClassFile Op Lib Jvm.Stand Jvm.Free Jvm.Free.XT
open Jvm.Lib.Cold (StaticIs)
theorem consq {a : Array Value} {s : State} {c : Jvm.Cond} {L : List Jvm.Cond} (h0 : c.before a s = true) (h : ∀ w ∈ L, w.before a s = true) : ∀ w ∈ c :: L, w.before a s = true := fun w hw => (List.mem_cons.mp hw).elim (fun e => e ▸ h0) (h w)
/-- the words of String.length(), either coding -/
abbrev wordsLen : List Jvm.Cond := [.code Len.yN Len.yB 1 (some .int), .initialized ST, .fieldLink ST 9 ST "value" "[B", .fieldLink ST 38 ST "COMPACT_STRINGS" "Z", .fieldLink ST 15 ST "coder" "B", .code Cdr.yN Cdr.yB 1 (some .byte), .methodLink ST 335 Cdr.yN, .declares Cdr.yN, .selects ST Cdr.yN Cdr.yN, .instanceMethod Cdr.yN]
theorem tabLen_of {a : Array Value} {s : State} (h : ∀ w ∈ wordsLen, w.before a s = true) : Len.tab.before a s = true := by
  have hc : Cdr.tab.before a s = true := unparts (wk h (.code Cdr.yN Cdr.yB 1 (some .byte))) (wks h (.initialized Cdr.yN.cls :: Cdr.site))
  have q := consq hc h
  exact unparts (wk q (.code Len.yN Len.yB 1 (some .int))) (wks q (.initialized Len.yN.cls :: Len.site))
theorem movedLen {Z s : State} {a0 args : Array Value} (hZ : Z.Warmed39 s.vm) (hw : ∀ d ∈ wordsLen, d.before a0 Z = true) : ∀ d ∈ wordsLen, d.before args s = true := fun d hd => by
  have q := hw d hd
  have t : ∀ d ∈ wordsLen, d = .arrayClass .byte ∨ (d.onTables && d.keepsFace) = true := by decide +kernel
  rcases t d hd with rfl | t
  · exact RoadKit.mvA hZ q
  · exact RoadKit.mv hZ q t
/-- the bytes of the chars cs, low before high -/
def wideBytes : List Int32 → List Value
  | [] => []
  | c :: cs => .int (lo8 c) :: .int (hi8 c) :: wideBytes cs
theorem wide_lo (d : Value) : ∀ (cs : List Int32) (j : Nat), j < cs.length → (wideBytes cs).getD (2 * j) d = .int (lo8 (cs.getD j 0))
  | [], j, h => absurd h (Nat.not_lt_zero j)
  | c :: cs, 0, _ => rfl
  | c :: cs, j + 1, h => by
    have q := wide_lo d cs j (by simpa using h)
    rw [show 2 * (j + 1) = 2 * j + 1 + 1 from by omega]
    simpa [wideBytes] using q
theorem wide_hi (d : Value) : ∀ (cs : List Int32) (j : Nat), j < cs.length → (wideBytes cs).getD (2 * j + 1) d = .int (hi8 (cs.getD j 0))
  | [], j, h => absurd h (Nat.not_lt_zero j)
  | c :: cs, 0, _ => rfl
  | c :: cs, j + 1, h => by
    have q := wide_hi d cs j (by simpa using h)
    rw [show 2 * (j + 1) + 1 = 2 * j + 1 + 1 + 1 from by omega]
    simpa [wideBytes] using q
theorem low_at (d : Value) (cs : List Int32) (j : Nat) (h : j < cs.length) : (cs.map fun c => Value.int (lo8 c)).getD j d = .int (lo8 (cs.getD j 0)) := by
  simp [List.getD_eq_getElem?_getD, h]
/-- an array of N2 bytes vs codes the chars cs by the coder cd -/
def CodA (cs : List Int32) (cd N2 : Int32) (vs : List Value) : Prop := (cd = 0 ∧ N2 = Int32.ofNat cs.length ∧ vs = (cs.map fun c => Value.int (lo8 c)) ∧ ∀ c ∈ cs, ¬ 255 < c) ∨ (cd = 1 ∧ N2 = Int32.ofNat (2 * cs.length) ∧ vs = wideBytes cs ∧ ∃ c ∈ cs, 255 < c)
theorem CodA.cod {cs : List Int32} {cd N2 : Int32} {vs : List Value} {V : Cell} (h : CodA cs cd N2 vs) (hn : 2 * cs.length < 2 ^ 31) (hs : V.slots.size = N2.toNatClampNeg) (hv : RoadKit.Has V vs (.int 0)) : Cod cd cs.length (fun j => cs.getD j 0) V := by
  rcases h with ⟨rfl, rfl, rfl, h⟩ | ⟨rfl, rfl, rfl, c, hc, hw⟩
  · rw [n32 (by omega)] at hs
    exact Or.inl ⟨rfl, hs, fun j hj => ⟨by rw [hv j (by omega), low_at _ _ _ hj], by
      have e : cs.getD j 0 = cs[j] := by simp [List.getD_eq_getElem?_getD, hj]
      show ¬ 255 < cs.getD j 0
      rw [e]; exact h _ (List.getElem_mem _)⟩⟩
  · rw [n32 (by omega)] at hs
    obtain ⟨j, hj, rfl⟩ := List.getElem_of_mem hc
    exact Or.inr ⟨rfl, hs, fun j hj => ⟨by rw [hv _ (by omega), wide_lo _ _ _ hj], by rw [hv _ (by omega), wide_hi _ _ _ hj]⟩, j, hj, by
      have e : cs.getD j 0 = cs[j] := by simp [List.getD_eq_getElem?_getD, hj]
      show 255 < cs.getD j 0
      rw [e]; exact hw⟩
/-- an object of exactly java/lang/String, its two fields found: as the laws ask it -/
theorem strObj {Z U : State} {a0 : Array Value} {kI : Nat} (wi : (Jvm.Cond.instantiable ST kI).before a0 Z = true) (al : Z.vm.Alike U.vm) {x : Addr} {v0 c0 : Value} (E : RoadKit.Exa Z U.heap x ST) (V : RoadKit.Fld Z U.heap x ST "value" "[B" v0) (C : RoadKit.Fld Z U.heap x ST "coder" "B" c0) :
    ∃ (D : Cell) (fV fC : Field), Blank ST x D U ∧ Found ST "value" "[B" fV U ∧ Found ST "coder" "B" fC U ∧ D.slots[fV.slot]? = some v0 ∧ D.slots[fC.slot]? = some c0 ∧ RoadKit.slotOf Z ST "value" "[B" = fV.slot ∧ RoadKit.slotOf Z ST "coder" "B" = fC.slot := by
  obtain ⟨D, cfV, kV, iV, fV, hD, gV, stV, knV, obV, asV, slV⟩ := V
  obtain ⟨D', cfC, kC, iC, fC, hD', gC, stC, -, -, asC, slC⟩ := C
  cases hD.symm.trans hD'
  obtain ⟨D2, kD, e1, e2, e3, e4, e5⟩ := E
  cases hD.symm.trans e1
  obtain ⟨c2, k2, i1, i2, i3, -⟩ := Cond.instantiable_spec wi
  cases e2.symm.trans i1
  cases e3.symm.trans i2
  obtain ⟨kU, u1, u2⟩ := al.2.2 _ _ e3
  exact ⟨D, fV, fC, ⟨hD, ⟨knV, fun q hq => by rw [hq] at obV; cases obV⟩, by rw [al.findClass]; exact e2, kU, u1, by rw [u2]; exact i3, by rw [u2]; exact e5 i3⟩, ⟨SBG.found_only al ⟨cfV, kV, iV, gV⟩, stV⟩, ⟨SBG.found_only al ⟨cfC, kC, iC, gC⟩, stC⟩, slV, slC, by simp [RoadKit.slotOf, gV], by simp [RoadKit.slotOf, gC]⟩
theorem sta_is {Z U : State} (al : Z.vm.Alike U.vm) {C n d : String} {v : Value} (S : RoadKit.Sta Z U.heap C n d v) : StaticIs U C n d v := by
  obtain ⟨cfS, iS, kS, fS, st, cS, t1, t2, t3, t4, t5, t6, t7⟩ := S
  exact StaticIs.there (s := { Z with heap := U.heap }) ⟨cfS, iS, kS, fS, st, cS, t1, t2, t3, t4, t5, (fun q => by rw [q] at t6; cases t6), t7⟩ al rfl
/-- **length() OF SUCH A STRING** -/
theorem lenW {p : Program} {l : Launch} {e : Env} {R : Room} {s : State} {args : Array Value} {below : List Frame} {len W : Nat} {Z : State} {a0 : Array Value} {h : Heap} (hZ : Z.Warmed39 s.vm) (hw : ∀ d ∈ wordsLen, d.before a0 Z = true) {kI : Nat} (wi : (Jvm.Cond.instantiable ST kI).before a0 Z = true)
    {x t : Addr} {kb : ClassId} {cs : List Int32} {cd N2 z : Int32} {vs : List Value} (E : RoadKit.Exa Z h x ST) (V : RoadKit.Fld Z h x ST "value" "[B" (.ref t)) (C : RoadKit.Fld Z h x ST "coder" "B" (.int cd)) (K : RoadKit.Arv Z h t kb .byte N2 vs (.int 0)) (hc : CodA cs cd N2 vs) (hb : ∀ c ∈ cs, ¬ c < 0 ∧ ¬ (65535 : Int32) < c)
    (S : RoadKit.Sta Z h ST "COMPACT_STRINGS" "Z" (.int z)) (hz : ¬ z = 0) (l2 : cs.length ≤ 4000) (hfr : 2 ≤ R.frames) (hlo : W + 25 ≤ R.locals) :
    Back l R p e below s args (⟨"java/lang/String", "length", "()I"⟩ : MethodName) len W (fun P a => a = #[.ref x] ∧ P.U.heap = h ∧ P.cells + 0 ≤ R.cells ∧ P.slots + 0 ≤ R.slots)
      (fun P _ v B => ∃ L, (v = some (.int (Int32.ofNat cs.length)) ∧ L = [] ∧ B.U.heap = h) ∧ B.locs = P.locs ++ L ∧ B.cells = P.cells + 0 ∧ B.slots = P.slots + 0) := by
  obtain ⟨A, K1, K2, K3, K4, K5, K6⟩ := K
  have hcod := hc.cod (by omega) K3 K5
  intro m meth c P g ig mk a X hg hsize hdg hW hn hp'
  obtain ⟨rfl, rfl, r1, r2⟩ := hp'
  have al : Z.vm.Alike P.U.vm := hZ.alike.trans X.warmed.alike
  obtain ⟨D, fV, fC, hB, F1, F2, g1, g2, -, -⟩ := strObj wi al E V C
  have hx : Txt x t A cd cs.length (fun j => cs.getD j 0) P.U := ⟨⟨_, hB.2.2.1, D, hB.1, rfl, by cases q : D.vm <;> first | rfl | exact absurd q (hB.2.1.2 _)⟩, Has.of hB F1 g1, Has.of hB F2 g2, ⟨K1.1, State.isArrayOf_alike al K1.2.1, K1.2.2, by rcases hcod with ⟨-, q, -⟩ | ⟨-, q, -⟩ <;> omega⟩, hcod, fun j hj => by
    have e : cs.getD j 0 = cs[j] := by simp [List.getD_eq_getElem?_getD, hj]
    show ¬ cs.getD j 0 < 0 ∧ ¬ 65535 < cs.getD j 0
    rw [e]; exact hb _ (List.getElem_mem _)⟩
  obtain ⟨v, B, X', ⟨⟨hv, hh⟩, hl, hk, hs⟩, st⟩ := Len.pays x t A cd cs.length (fun j => cs.getD j 0) z (tabLen_of (movedLen hZ hw)) hfr hlo m meth c P g ig mk _ X hg hsize hdg hW hn ⟨r1, r2, rfl, hx, sta_is al S, hz⟩
  exact ⟨v, B, X', ⟨[], ⟨hv, rfl, hh⟩, hl, hk, hs⟩, st⟩
end StrChars.Road
namespace StrChars
open Jvm Sem ClassFile Op Lib Jvm.Stand Jvm.Free.XT Jvm.Free.ALB Jvm.Free.JM Jvm.Free
open Jvm.Lib.Cold (StaticIs)
/-- what place i of a byte[]'s cell holds -/
def yv (A : Cell) (i : Nat) : Int32 := match A.slots[i]? with | some (.int x) => x | _ => 0
theorem yv_get {a : Addr} {A : Cell} {U : State} (h : XT.Arr .byte a A U) (ht : Typed .byte A) {i : Nat} (hi : i < A.slots.size) : A.slots[i]? = some (.int (yv A i)) := by
  have e := Array.getElem?_eq_getElem hi
  have f := ht i _ e
  unfold yv; rw [e]
  generalize A.slots[i] = v at f
  cases v <;> simp [fits] at f ⊢
/-- the two arrays are equal, place for place -/
def EqC (A B : Cell) : Prop := A.slots.size = B.slots.size ∧ ∀ i, i < A.slots.size → yv A i = yv B i
/-- a boolean that says whether p -/
def Says01 (q : Prop) (r : Option Value) (s u : State) : Prop := ∃ v : Int32, r = some (.int v) ∧ u.heap = s.heap ∧ ((v = 1 ∧ q) ∨ (v = 0 ∧ ¬ q))
theorem Says01.mv {q : Prop} : ∀ r (U U' V V' : State), U'.heap = U.heap → V.vm.Alike V'.vm → V'.heap = V.heap → Says01 q r U V → Says01 q r U' V' :=
  fun r U U' V V' h1 _ h2 ⟨v, a, b, c⟩ => ⟨v, a, by rw [h1, h2]; exact b, c⟩
namespace LEq
def yN : MethodName := ⟨"java/lang/StringLatin1", "equals", "([B[B)Z"⟩
abbrev yB : ByteArray := jdk_43_method_13_code
theorem d0 : decode yB 0 = .ok (.aload_n 0, 1) := by decide +kernel
theorem d1 : decode yB 1 = .ok (.arraylength, 1) := by decide +kernel
theorem d2 : decode yB 2 = .ok (.aload_n 1, 1) := by decide +kernel
theorem d3 : decode yB 3 = .ok (.arraylength, 1) := by decide +kernel
theorem d4 : decode yB 4 = .ok (.if_icmp (.ne) 30, 3) := by decide +kernel
theorem d7 : decode yB 7 = .ok (.iconst 0, 1) := by decide +kernel
theorem d8 : decode yB 8 = .ok (.istore_n 2, 1) := by decide +kernel
theorem d9 : decode yB 9 = .ok (.iload_n 2, 1) := by decide +kernel
theorem d10 : decode yB 10 = .ok (.aload_n 0, 1) := by decide +kernel
theorem d11 : decode yB 11 = .ok (.arraylength, 1) := by decide +kernel
theorem d12 : decode yB 12 = .ok (.if_icmp (.ge) 20, 3) := by decide +kernel
theorem d15 : decode yB 15 = .ok (.aload_n 0, 1) := by decide +kernel
theorem d16 : decode yB 16 = .ok (.iload_n 2, 1) := by decide +kernel
theorem d17 : decode yB 17 = .ok (.baload, 1) := by decide +kernel
theorem d18 : decode yB 18 = .ok (.aload_n 1, 1) := by decide +kernel
theorem d19 : decode yB 19 = .ok (.iload_n 2, 1) := by decide +kernel
theorem d20 : decode yB 20 = .ok (.baload, 1) := by decide +kernel
theorem d21 : decode yB 21 = .ok (.if_icmp (.eq) 5, 3) := by decide +kernel
theorem d24 : decode yB 24 = .ok (.iconst 0, 1) := by decide +kernel
theorem d25 : decode yB 25 = .ok (.ireturn, 1) := by decide +kernel
theorem d26 : decode yB 26 = .ok (.iinc 2 1, 3) := by decide +kernel
theorem d29 : decode yB 29 = .ok (.goto (-20), 3) := by decide +kernel
theorem d32 : decode yB 32 = .ok (.iconst 1, 1) := by decide +kernel
theorem d33 : decode yB 33 = .ok (.ireturn, 1) := by decide +kernel
theorem d34 : decode yB 34 = .ok (.iconst 0, 1) := by decide +kernel
theorem d35 : decode yB 35 = .ok (.ireturn, 1) := by decide +kernel
def site : List Cond := []
def tab : Cond := tabOf yN yB 3 (some .boolean) site
def P (a : Addr) (A : Cell) (b : Addr) (B : Cell) (args : Array Value) (s : State) : Prop := args = #[.ref a, .ref b] ∧ XT.Arr .byte a A s ∧ Typed .byte A ∧ XT.Arr .byte b B s ∧ Typed .byte B
/-- whether two byte[] are equal, place for place -/
theorem law (l : Launch) (a : Addr) (A : Cell) (b : Addr) (B : Cell) : Law l yN 2 2 0 0 yB 3 (some .boolean) site (P a A b B) (Says01 (EqC A B)) [] 0 0 := by
  refine Law.of_walk (plainFor_of_name (by decide +kernel)) (by decide +kernel) (by decide +kernel) (by decide) (fun _ _ h => by rw [h.1]; rfl) (fun _ U U' hal hh h => ⟨h.1, h.2.1.mv hal hh, h.2.2.1, h.2.2.2.1.mv hal hh, h.2.2.2.2⟩) (fun r U U' V V' h1 hal h2 h => Says01.mv r U U' V V' h1 hal h2 h) ?_
  intro p e s m args below meth c s₁ X0 hexec hbytes hml hret hlk hnm hown hh0 W hP
  obtain ⟨rfl, hA, tA, hB, tB⟩ := hP
  have a31 := hA.2.2.2
  have b31 := hB.2.2.2
  have hA0 := hA.mv X0.warmed.alike hh0
  have hB0 := hB.mv X0.warmed.alike hh0
  have c1 : Steps p.tables e below (s₁.setTop (entryFrame m #[.ref a, .ref b] 3)) (s₁.setTop (mkF m 0 #[.val (.ref a), .val (.ref b), .unset] [])) := entry rfl
  have c2 : Steps p.tables e below (s₁.setTop (entryFrame m #[.ref a, .ref b] 3)) (s₁.setTop (mkF m 4 #[.val (.ref a), .val (.ref b), .unset] [.int (Int32.ofNat B.slots.size), .int (Int32.ofNat A.slots.size)])) := c1.trans (by
    refine XS.aloadN X0.here hexec rfl (hb hbytes d0) rfl rfl ?_
    refine X0.alen hexec hA0 rfl rfl (hb hbytes d1) ?_
    refine XS.aloadN X0.here hexec rfl (hb hbytes d2) rfl rfl ?_
    refine X0.alen hexec hB0 rfl rfl (hb hbytes d3) ?_
    exact Steps.refl _)
  by_cases hs : A.slots.size = B.slots.size
  · have c3 : Steps p.tables e below (s₁.setTop (entryFrame m #[.ref a, .ref b] 3)) (s₁.setTop (mkF m 9 #[.val (.ref a), .val (.ref b), .val (.int 0)] [])) := c2.trans (by
      refine XS.icmpNo X0.here hexec rfl (hb hbytes d4) rfl (ii_ne_f (by rw [hs])) ?_
      refine iconstV X0.here hexec rfl 0 (hb hbytes d7) (by decide) ?_
      refine XS.istoreN X0.here hexec rfl (hb hbytes d8) rfl rfl ?_
      exact Steps.refl _)
    have loop : ∀ (r i : Nat), i + r = A.slots.size → (∀ j, j < i → yv A j = yv B j) → Steps p.tables e below (s₁.setTop (entryFrame m #[.ref a, .ref b] 3)) (s₁.setTop (mkF m 9 #[.val (.ref a), .val (.ref b), .val (.int (Int32.ofNat i))] [])) → ∃ (pc : Nat) (Ls : Array Slot) (v : Int32), (pc = 25 ∨ pc = 33) ∧ ((v = 1 ∧ EqC A B) ∨ (v = 0 ∧ ¬ EqC A B)) ∧ Steps p.tables e below (s₁.setTop (entryFrame m #[.ref a, .ref b] 3)) (s₁.setTop (mkF m pc Ls [.int v])) := by
      intro r
      induction r with
      | zero =>
        intro i hi he cl
        exact ⟨33, _, 1, Or.inr rfl, Or.inl ⟨rfl, hs, fun j hj => he j (by omega)⟩, cl.trans (by
          refine XS.iloadN X0.here hexec rfl (hb hbytes d9) rfl ?_
          refine XS.aloadN X0.here hexec rfl (hb hbytes d10) rfl rfl ?_
          refine X0.alen hexec hA0 rfl rfl (hb hbytes d11) ?_
          refine XS.icmpYes X0.here hexec rfl (pc0 := 12) rfl (hb hbytes d12) rfl (ii_ge_t (nlt32 (by omega) (by omega))) (by decide) rfl ?_
          refine iconstV X0.here hexec rfl 1 (hb hbytes d32) (by decide) ?_
          exact Steps.refl _)⟩
      | succ r ih =>
        intro i hi he cl
        have c4 : Steps p.tables e below (s₁.setTop (entryFrame m #[.ref a, .ref b] 3)) (s₁.setTop (mkF m 21 #[.val (.ref a), .val (.ref b), .val (.int (Int32.ofNat i))] [.int (yv B i), .int (yv A i)])) := cl.trans (by
          refine XS.iloadN X0.here hexec rfl (hb hbytes d9) rfl ?_
          refine XS.aloadN X0.here hexec rfl (hb hbytes d10) rfl rfl ?_
          refine X0.alen hexec hA0 rfl rfl (hb hbytes d11) ?_
          refine XS.icmpNo X0.here hexec rfl (hb hbytes d12) rfl (ii_ge_f (lt32 (by omega) (by omega))) ?_
          refine XS.aloadN X0.here hexec rfl (hb hbytes d15) rfl rfl ?_
          refine XS.iloadN X0.here hexec rfl (hb hbytes d16) rfl ?_
          refine X0.aget hexec hA0 rfl (yv_get hA tA (i := i) (by omega)) rfl rfl (hb hbytes d17) ?_
          refine XS.aloadN X0.here hexec rfl (hb hbytes d18) rfl rfl ?_
          refine XS.iloadN X0.here hexec rfl (hb hbytes d19) rfl ?_
          refine X0.aget hexec hB0 rfl (yv_get hB tB (i := i) (by omega)) rfl rfl (hb hbytes d20) ?_
          exact Steps.refl _)
        by_cases hv : yv A i = yv B i
        · have c5 : Steps p.tables e below (s₁.setTop (entryFrame m #[.ref a, .ref b] 3)) (s₁.setTop (mkF m 9 #[.val (.ref a), .val (.ref b), .val (.int (Int32.ofNat i + 1))] [])) := c4.trans (by
            refine XS.icmpYes X0.here hexec rfl (pc0 := 21) rfl (hb hbytes d21) rfl (ii_eq_t hv) (by decide) rfl ?_
            refine iincV X0.here hexec rfl 1 (hb hbytes d26) (by decide) rfl rfl ?_
            refine XS.goto X0.here hexec rfl (pc0 := 29) rfl (hb hbytes d29) (by decide) rfl ?_
            exact Steps.refl _)
          rw [succ32] at c5
          exact ih (i + 1) (by omega) (fun j hj => by
            by_cases e : j = i
            · rw [e]; exact hv
            · exact he j (by omega)) c5
        · exact ⟨25, _, 0, Or.inl rfl, Or.inr ⟨rfl, fun q => hv (q.2 i (by omega))⟩, c4.trans (by
            refine XS.icmpNo X0.here hexec rfl (hb hbytes d21) rfl (ii_eq_f hv) ?_
            refine iconstV X0.here hexec rfl 0 (hb hbytes d24) (by decide) ?_
            exact Steps.refl _)⟩
    obtain ⟨pc, Ls, v, hpc, hv, cz⟩ := loop A.slots.size 0 (by omega) (fun j hj => absurd hj (Nat.not_lt_zero j)) c3
    have nv : narrow .boolean (.int v) = .int v := by rcases hv with ⟨rfl, -⟩ | ⟨rfl, -⟩ <;> rfl
    rcases hpc with rfl | rfl
    · exact ⟨s₁, some (.int v), _, _, _, X0, rfl, rfl, rfl, (fun h => by cases h), ⟨v, rfl, hh0, hv⟩, fun fs hl => cz.trans (X0.ireturnOut hexec hret nv (Or.inr (Or.inl rfl)) (hb hbytes d25) hl)⟩
    · exact ⟨s₁, some (.int v), _, _, _, X0, rfl, rfl, rfl, (fun h => by cases h), ⟨v, rfl, hh0, hv⟩, fun fs hl => cz.trans (X0.ireturnOut hexec hret nv (Or.inr (Or.inl rfl)) (hb hbytes d33) hl)⟩
  · have c3 : Steps p.tables e below (s₁.setTop (entryFrame m #[.ref a, .ref b] 3)) (s₁.setTop (mkF m 35 #[.val (.ref a), .val (.ref b), .unset] [.int 0])) := c2.trans (by
      refine XS.icmpYes X0.here hexec rfl (pc0 := 4) rfl (hb hbytes d4) rfl (ii_ne_t (ne32 a31 b31 hs)) (by decide) rfl ?_
      refine iconstV X0.here hexec rfl 0 (hb hbytes d34) (by decide) ?_
      exact Steps.refl _)
    exact ⟨s₁, some (.int 0), _, _, _, X0, rfl, rfl, rfl, (fun h => by cases h), ⟨0, rfl, hh0, Or.inr ⟨rfl, fun q => hs q.1⟩⟩, fun fs hl => c3.trans (X0.ireturnOut hexec hret rfl (Or.inr (Or.inl rfl)) (hb hbytes d35) hl)⟩
end LEq
theorem Cod.ty {cd : Int32} {n : Nat} {f : Nat → Int32} {V : Cell} (h : Cod cd n f V) : Typed .byte V := fun i v hv => by
  have hi : i < V.slots.size := (Array.getElem?_eq_some_iff.mp hv).1
  rcases h with ⟨-, k1, k2⟩ | ⟨-, k1, k2, -⟩
  · rw [(k2 i (by omega)).1] at hv; cases hv; exact fits_lo8 _
  · rcases Nat.mod_two_eq_zero_or_one i with e | e
    · obtain ⟨j, rfl⟩ : ∃ j, i = 2 * j := ⟨i / 2, by omega⟩
      rw [(k2 j (by omega)).1] at hv; cases hv; exact fits_lo8 _
    · obtain ⟨j, rfl⟩ : ∃ j, i = 2 * j + 1 := ⟨i / 2, by omega⟩
      rw [(k2 j (by omega)).2] at hv; cases hv; exact fits_lo8 _
/-- the same text -/
def SameT (n : Nat) (f : Nat → Int32) (k : Nat) (g : Nat → Int32) : Prop := n = k ∧ ∀ j, j < n → f j = g j
theorem lo8_inj {x y : Int32} (h0 : ¬ x < 0) (h1 : ¬ 255 < x) (k0 : ¬ y < 0) (k1 : ¬ 255 < y) (h : lo8 x = lo8 y) : x = y := by
  rw [← lo8_mask h0 h1, ← lo8_mask k0 k1, h]
/-- arrays coded by one coder are equal just where the texts are -/
theorem Cod.eqv {cd : Int32} {n k : Nat} {f g : Nat → Int32} {V V' : Cell} (h : Cod cd n f V) (h' : Cod cd k g V') (hf : ∀ j, j < n → ¬ f j < 0 ∧ ¬ 65535 < f j) (hg : ∀ j, j < k → ¬ g j < 0 ∧ ¬ 65535 < g j) : EqC V V' ↔ SameT n f k g := by
  have yvv : ∀ {W : Cell} {i : Nat} {x : Int32}, W.slots[i]? = some (.int x) → yv W i = x := fun q => by unfold yv; rw [q]
  rcases h with ⟨rfl, k1, k2⟩ | ⟨rfl, k1, k2, -⟩
  · rcases h' with ⟨-, m1, m2⟩ | ⟨e, -⟩
    · constructor
      · rintro ⟨e1, e2⟩
        refine ⟨by omega, fun j hj => ?_⟩
        have q := e2 j (by omega)
        rw [yvv (k2 j hj).1, yvv (m2 j (by omega)).1] at q
        exact lo8_inj (hf j hj).1 (k2 j hj).2 (hg j (by omega)).1 (m2 j (by omega)).2 q
      · rintro ⟨rfl, e2⟩
        refine ⟨by omega, fun j hj => ?_⟩
        rw [yvv (k2 j (by omega)).1, yvv (m2 j (by omega)).1, e2 j (by omega)]
    · exact absurd e (by decide)
  · rcases h' with ⟨e, -⟩ | ⟨-, m1, m2, -⟩
    · exact absurd e (by decide)
    · constructor
      · rintro ⟨e1, e2⟩
        refine ⟨by omega, fun j hj => ?_⟩
        have q1 := e2 (2 * j) (by omega)
        have q2 := e2 (2 * j + 1) (by omega)
        rw [yvv (k2 j hj).1, yvv (m2 j (by omega)).1] at q1
        rw [yvv (k2 j hj).2, yvv (m2 j (by omega)).2] at q2
        rw [← pair_says (hf j hj).1 (hf j hj).2, ← pair_says (hg j (by omega)).1 (hg j (by omega)).2, q1, q2]
      · rintro ⟨rfl, e2⟩
        refine ⟨by omega, fun i hi => ?_⟩
        rcases Nat.mod_two_eq_zero_or_one i with e | e
        · obtain ⟨j, rfl⟩ : ∃ j, i = 2 * j := ⟨i / 2, by omega⟩
          rw [yvv (k2 j (by omega)).1, yvv (m2 j (by omega)).1, e2 j (by omega)]
        · obtain ⟨j, rfl⟩ : ∃ j, i = 2 * j + 1 := ⟨i / 2, by omega⟩
          rw [yvv (k2 j (by omega)).2, yvv (m2 j (by omega)).2, e2 j (by omega)]
/-- two codings differ: so do the texts -/
theorem Cod.dif {cd cd' : Int32} {n k : Nat} {f g : Nat → Int32} {V V' : Cell} (h : Cod cd n f V) (h' : Cod cd' k g V') (hne : ¬ cd = cd') : ¬ SameT n f k g := by
  rintro ⟨rfl, e⟩
  rcases h with ⟨rfl, -, k2⟩ | ⟨rfl, -, -, j, hj, hw⟩
  · rcases h' with ⟨rfl, -⟩ | ⟨-, -, -, j, hj, hw⟩
    · exact hne rfl
    · exact (k2 j hj).2 (by rw [e j hj]; exact hw)
  · rcases h' with ⟨-, -, m2⟩ | ⟨rfl, -⟩
    · exact (m2 j hj).2 (by rw [← e j hj]; exact hw)
    · exact hne rfl
/-- an object of exactly C is an instance of C -/
theorem cinst {p : Program} {l : Launch} {e : Env} {R : Room} {s : State} {m : MethodId} {args : Array Value} {below : List Frame} {meth : Method} {c : Code} {T : State} {locs : List Loc} {cells slots : Nat} (X : Stand p l e R s m args below meth c T locs cells slots) (hexec : p.tables.exec = Jvm.exec) {own C : String} {index : Nat} (hown : s.vm.findClass own = some m.cls) (hlink : (Cond.classLink own index C).before args s = true) {a : Addr} (hE : Exact C a T)
    {g : JFrame} (hg : g.method = m) {rest : List Value} (hstack : g.stack = .ref a :: rest) (hdg : decode c.code g.pc = .ok (.instanceof index, 3)) :
    ∃ T', Stand p l e R s m args below meth c T' locs cells slots ∧ T'.heap = T.heap ∧ ∀ target, Steps p.tables e below (T'.setTop { g with pc := g.pc + 3, stack := .int 1 :: rest }) target → Steps p.tables e below (T.setTop g) target := by
  obtain ⟨cB, h1, D, h2, h3, h4⟩ := hE
  have h1' : s.vm.findClass C = some cB := by rw [← X.warmed.alike.findClass]; exact h1
  obtain ⟨vm', X', st⟩ := X.instanceofYes hexec hown hlink h2 h4 h1' (by rw [h3]; exact Jvm.Free.SB.assignable_self _ _) hg hstack hdg
  exact ⟨_, X', rfl, st⟩
theorem cself {p : Program} {l : Launch} {e : Env} {R : Room} {s : State} {m : MethodId} {args : Array Value} {below : List Frame} {meth : Method} {c : Code} {T : State} {locs : List Loc} {cells slots : Nat} (X : Stand p l e R s m args below meth c T locs cells slots) (hexec : p.tables.exec = Jvm.exec) {own C : String} {index : Nat} (hown : s.vm.findClass own = some m.cls) (hlink : (Cond.classLink own index C).before args s = true) {a : Addr} (hE : Exact C a T)
    {g : JFrame} (hg : g.method = m) {rest : List Value} (hstack : g.stack = .ref a :: rest) (hdg : decode c.code g.pc = .ok (.checkcast index, 3)) :
    ∃ T', Stand p l e R s m args below meth c T' locs cells slots ∧ T'.heap = T.heap ∧ ∀ target, Steps p.tables e below (T'.setTop { g with pc := g.pc + 3, stack := .ref a :: rest }) target → Steps p.tables e below (T.setTop g) target := by
  obtain ⟨cB, h1, D, h2, h3, h4⟩ := hE
  have h1' : s.vm.findClass C = some cB := by rw [← X.warmed.alike.findClass]; exact h1
  obtain ⟨vm', X', st⟩ := X.checkcastYes hexec hown hlink h2 h4 h1' (by rw [h3]; exact Jvm.Free.SB.assignable_self _ _) hg hstack hdg
  exact ⟨_, X', rfl, fun t h => st t (by rw [← hstack] at h; exact h)⟩
namespace SEq
def yN : MethodName := ⟨"java/lang/String", "equals", "(Ljava/lang/Object;)Z"⟩
abbrev yB : ByteArray := jdk_42_method_66_code
theorem d0 : decode yB 0 = .ok (.aload_n 0, 1) := by decide +kernel
theorem d1 : decode yB 1 = .ok (.aload_n 1, 1) := by decide +kernel
theorem d2 : decode yB 2 = .ok (.if_acmp (.ne) 5, 3) := by decide +kernel
theorem d5 : decode yB 5 = .ok (.iconst 1, 1) := by decide +kernel
theorem d6 : decode yB 6 = .ok (.ireturn, 1) := by decide +kernel
theorem d7 : decode yB 7 = .ok (.aload_n 1, 1) := by decide +kernel
theorem d8 : decode yB 8 = .ok (.instanceof 10, 3) := by decide +kernel
theorem d11 : decode yB 11 = .ok (.ifCond (.eq) 43, 3) := by decide +kernel
theorem d14 : decode yB 14 = .ok (.aload_n 1, 1) := by decide +kernel
theorem d15 : decode yB 15 = .ok (.checkcast 10, 3) := by decide +kernel
theorem d18 : decode yB 18 = .ok (.astore_n 2, 1) := by decide +kernel
theorem d19 : decode yB 19 = .ok (.getstatic 38, 3) := by decide +kernel
theorem d22 : decode yB 22 = .ok (.ifCond (.eq) 14, 3) := by decide +kernel
theorem d25 : decode yB 25 = .ok (.aload_n 0, 1) := by decide +kernel
theorem d26 : decode yB 26 = .ok (.getfield 15, 3) := by decide +kernel
theorem d29 : decode yB 29 = .ok (.aload_n 2, 1) := by decide +kernel
theorem d30 : decode yB 30 = .ok (.getfield 15, 3) := by decide +kernel
theorem d33 : decode yB 33 = .ok (.if_icmp (.ne) 21, 3) := by decide +kernel
theorem d36 : decode yB 36 = .ok (.aload_n 0, 1) := by decide +kernel
theorem d37 : decode yB 37 = .ok (.getfield 9, 3) := by decide +kernel
theorem d40 : decode yB 40 = .ok (.aload_n 2, 1) := by decide +kernel
theorem d41 : decode yB 41 = .ok (.getfield 9, 3) := by decide +kernel
theorem d44 : decode yB 44 = .ok (.invokestatic 541, 3) := by decide +kernel
theorem d47 : decode yB 47 = .ok (.ifCond (.eq) 7, 3) := by decide +kernel
theorem d50 : decode yB 50 = .ok (.iconst 1, 1) := by decide +kernel
theorem d51 : decode yB 51 = .ok (.goto 4, 3) := by decide +kernel
theorem d54 : decode yB 54 = .ok (.iconst 0, 1) := by decide +kernel
theorem d55 : decode yB 55 = .ok (.ireturn, 1) := by decide +kernel
def site : List Cond := [.classLink "java/lang/String" 10 "java/lang/String", .fieldLink "java/lang/String" 38 "java/lang/String" "COMPACT_STRINGS" "Z", .fieldLink "java/lang/String" 15 "java/lang/String" "coder" "B", .fieldLink "java/lang/String" 9 "java/lang/String" "value" "[B", LEq.tab] ++ staticW "java/lang/String" 541 LEq.yN
def tab : Cond := tabOf yN yB 3 (some .boolean) site
def P (x t : Addr) (V : Cell) (cd : Int32) (n : Nat) (f : Nat → Int32) (y t' : Addr) (V' : Cell) (cd' : Int32) (k : Nat) (g : Nat → Int32) (z : Int32) (args : Array Value) (s : State) : Prop := args = #[.ref x, .ref y] ∧ Txt x t V cd n f s ∧ Txt y t' V' cd' k g s ∧ StaticIs s "java/lang/String" "COMPACT_STRINGS" "Z" (.int z) ∧ ¬ z = 0
/-- equals(Object) of two Strings: whether the texts are the same -/
theorem law (l : Launch) (x t : Addr) (V : Cell) (cd : Int32) (n : Nat) (f : Nat → Int32) (y t' : Addr) (V' : Cell) (cd' : Int32) (k : Nat) (g : Nat → Int32) (z : Int32) : Law l yN 2 1 1 14 yB 3 (some .boolean) site (P x t V cd n f y t' V' cd' k g z) (Says01 (SameT n f k g)) [] 0 0 := by
  refine Law.of_walk (plainFor_of_name (by decide +kernel)) (by decide +kernel) (by decide +kernel) (by decide) (fun _ _ h => by rw [h.1]; rfl) (fun _ U U' hal hh h => ⟨h.1, h.2.1.mv hal hh, h.2.2.1.mv hal hh, h.2.2.2.1.there hal hh, h.2.2.2.2⟩) (fun r U U' V V' h1 hal h2 h => Says01.mv r U U' V V' h1 hal h2 h) ?_
  intro p e s m args below meth c s₁ X0 hexec hbytes hml hret hlk hnm hown hh0 W hP
  obtain ⟨rfl, hx, hy, s1, hz⟩ := hP
  have c1 : Steps p.tables e below (s₁.setTop (entryFrame m #[.ref x, .ref y] 3)) (s₁.setTop (mkF m 2 #[.val (.ref x), .val (.ref y), .unset] [.ref y, .ref x])) := Steps.trans (entry rfl) (by
    show Steps p.tables e below (s₁.setTop (mkF m 0 #[.val (.ref x), .val (.ref y), .unset] [])) _
    refine XS.aloadN X0.here hexec rfl (hb hbytes d0) rfl rfl ?_
    refine XS.aloadN X0.here hexec rfl (hb hbytes d1) rfl rfl ?_
    exact Steps.refl _)
  by_cases hxy : x = y
  · have c2 : Steps p.tables e below (s₁.setTop (entryFrame m #[.ref x, .ref y] 3)) (s₁.setTop (mkF m 6 #[.val (.ref x), .val (.ref y), .unset] [.int 1])) := c1.trans (by
      refine acmpNo X0.here hexec rfl (hb hbytes d2) rfl rfl rfl (by simp [acmp, hxy]) ?_
      refine iconstV X0.here hexec rfl 1 (hb hbytes d5) (by decide) ?_
      exact Steps.refl _)
    subst hxy
    have ec : cd = cd' := by
      obtain ⟨D, fd, a1, a2, a3⟩ := hx.2.2.1
      obtain ⟨D', fd', b1, b2, b3⟩ := hy.2.2.1
      cases a1.symm.trans b1
      obtain ⟨q1, q2, q3, q4⟩ := a2.1
      obtain ⟨r1, r2, r3, r4⟩ := b2.1
      cases q4.symm.trans r4
      cases a3.symm.trans b3; rfl
    have et : t = t' := by
      obtain ⟨D, fd, a1, a2, a3⟩ := hx.2.1
      obtain ⟨D', fd', b1, b2, b3⟩ := hy.2.1
      cases a1.symm.trans b1
      obtain ⟨q1, q2, q3, q4⟩ := a2.1
      obtain ⟨r1, r2, r3, r4⟩ := b2.1
      cases q4.symm.trans r4
      cases a3.symm.trans b3; rfl
    subst ec et
    have ev : V = V' := by cases hx.2.2.2.1.1.symm.trans hy.2.2.2.1.1; rfl
    subst ev
    have hs : SameT n f k g := (Cod.eqv hx.2.2.2.2.1 hy.2.2.2.2.1 hx.2.2.2.2.2 hy.2.2.2.2.2).mp ⟨rfl, fun _ _ => rfl⟩
    exact ⟨s₁, some (.int 1), _, _, _, X0, rfl, rfl, rfl, (fun h => by cases h), ⟨1, rfl, hh0, Or.inl ⟨rfl, hs⟩⟩, fun fs hl => c2.trans (X0.ireturnOut hexec hret rfl (Or.inr (Or.inl rfl)) (hb hbytes d6) hl)⟩
  · have c2 : Steps p.tables e below (s₁.setTop (entryFrame m #[.ref x, .ref y] 3)) (s₁.setTop (mkF m 8 #[.val (.ref x), .val (.ref y), .unset] [.ref y])) := c1.trans (by
      refine acmpYes X0.here hexec rfl (pc0 := 2) rfl (hb hbytes d2) rfl rfl rfl (by simp [acmp, hxy]) (by decide) rfl ?_
      refine XS.aloadN X0.here hexec rfl (hb hbytes d7) rfl rfl ?_
      exact Steps.refl _)
    obtain ⟨T3, X3, q3, st3⟩ := cinst X0 hexec hown (wk W (.classLink "java/lang/String" 10 "java/lang/String")) (hy.mv X0.warmed.alike hh0).1 (g := (mkF m 8 #[.val (.ref x), .val (.ref y), .unset] [.ref y])) rfl (rest := []) rfl (hb hbytes d8)
    have hh3 := q3.trans hh0
    have c4 : Steps p.tables e below (s₁.setTop (entryFrame m #[.ref x, .ref y] 3)) (T3.setTop (mkF m 15 #[.val (.ref x), .val (.ref y), .unset] [.ref y])) := (c2.trans (st3 _ (Steps.refl _))).trans (by
      refine XS.ifNo X3.here hexec rfl (hb hbytes d11) rfl (i0_eq_f (by decide)) ?_
      refine XS.aloadN X3.here hexec rfl (hb hbytes d14) rfl rfl ?_
      exact Steps.refl _)
    obtain ⟨T5, X5, q5, st5⟩ := cself X3 hexec hown (wk W (.classLink "java/lang/String" 10 "java/lang/String")) (hy.mv X3.warmed.alike hh3).1 (g := (mkF m 15 #[.val (.ref x), .val (.ref y), .unset] [.ref y])) rfl (rest := []) rfl (hb hbytes d15)
    have hh5 := q5.trans hh3
    have c6 : Steps p.tables e below (s₁.setTop (entryFrame m #[.ref x, .ref y] 3)) (T5.setTop (mkF m 19 #[.val (.ref x), .val (.ref y), .val (.ref y)] [])) := (c4.trans (st5 _ (Steps.refl _))).trans (by
      refine XS.astoreN X5.here hexec rfl (hb hbytes d18) rfl rfl rfl ?_
      exact Steps.refl _)
    obtain ⟨T7, X7, q7, st7⟩ := X5.sget hexec hown (wk W (.fieldLink "java/lang/String" 38 "java/lang/String" "COMPACT_STRINGS" "Z")) s1 (fun _ _ h => by rw [hh5]; exact h) (g := (mkF m 19 #[.val (.ref x), .val (.ref y), .val (.ref y)] [])) rfl (hb hbytes d19)
    have hh7 := q7.trans hh5
    have c8 : Steps p.tables e below (s₁.setTop (entryFrame m #[.ref x, .ref y] 3)) (T7.setTop (mkF m 26 #[.val (.ref x), .val (.ref y), .val (.ref y)] [.ref x])) := (c6.trans (st7 _ (Steps.refl _))).trans (by
      refine XS.ifNo X7.here hexec rfl (hb hbytes d22) rfl (i0_eq_f hz) ?_
      refine XS.aloadN X7.here hexec rfl (hb hbytes d25) rfl rfl ?_
      exact Steps.refl _)
    obtain ⟨T9, X9, q9, st9⟩ := X7.hget hexec hown (wk W (.fieldLink "java/lang/String" 15 "java/lang/String" "coder" "B")) (hx.mv X7.warmed.alike hh7).2.2.1 (g := (mkF m 26 #[.val (.ref x), .val (.ref y), .val (.ref y)] [.ref x])) rfl (rest := []) rfl (hb hbytes d26)
    have hh9 := q9.trans hh7
    have c10 : Steps p.tables e below (s₁.setTop (entryFrame m #[.ref x, .ref y] 3)) (T9.setTop (mkF m 30 #[.val (.ref x), .val (.ref y), .val (.ref y)] [.ref y, .int cd])) := (c8.trans (st9 _ (Steps.refl _))).trans (by
      refine XS.aloadN X9.here hexec rfl (hb hbytes d29) rfl rfl ?_
      exact Steps.refl _)
    obtain ⟨T11, X11, q11, st11⟩ := X9.hget hexec hown (wk W (.fieldLink "java/lang/String" 15 "java/lang/String" "coder" "B")) (hy.mv X9.warmed.alike hh9).2.2.1 (g := (mkF m 30 #[.val (.ref x), .val (.ref y), .val (.ref y)] [.ref y, .int cd])) rfl (rest := [.int cd]) rfl (hb hbytes d30)
    have hh11 := q11.trans hh9
    have c12 : Steps p.tables e below (s₁.setTop (entryFrame m #[.ref x, .ref y] 3)) (T11.setTop (mkF m 33 #[.val (.ref x), .val (.ref y), .val (.ref y)] [.int cd', .int cd])) := c10.trans (st11 _ (Steps.refl _))
    by_cases hcd : cd = cd'
    · subst hcd
      have c13 : Steps p.tables e below (s₁.setTop (entryFrame m #[.ref x, .ref y] 3)) (T11.setTop (mkF m 37 #[.val (.ref x), .val (.ref y), .val (.ref y)] [.ref x])) := c12.trans (by
        refine XS.icmpNo X11.here hexec rfl (hb hbytes d33) rfl (ii_ne_f rfl) ?_
        refine XS.aloadN X11.here hexec rfl (hb hbytes d36) rfl rfl ?_
        exact Steps.refl _)
      obtain ⟨T14, X14, q14, st14⟩ := X11.hget hexec hown (wk W (.fieldLink "java/lang/String" 9 "java/lang/String" "value" "[B")) (hx.mv X11.warmed.alike hh11).2.1 (g := (mkF m 37 #[.val (.ref x), .val (.ref y), .val (.ref y)] [.ref x])) rfl (rest := []) rfl (hb hbytes d37)
      have hh14 := q14.trans hh11
      have c15 : Steps p.tables e below (s₁.setTop (entryFrame m #[.ref x, .ref y] 3)) (T14.setTop (mkF m 41 #[.val (.ref x), .val (.ref y), .val (.ref y)] [.ref y, .ref t])) := (c13.trans (st14 _ (Steps.refl _))).trans (by
        refine XS.aloadN X14.here hexec rfl (hb hbytes d40) rfl rfl ?_
        exact Steps.refl _)
      obtain ⟨T16, X16, q16, st16⟩ := X14.hget hexec hown (wk W (.fieldLink "java/lang/String" 9 "java/lang/String" "value" "[B")) (hy.mv X14.warmed.alike hh14).2.1 (g := (mkF m 41 #[.val (.ref x), .val (.ref y), .val (.ref y)] [.ref y, .ref t])) rfl (rest := [.ref t]) rfl (hb hbytes d41)
      have hh16 := q16.trans hh14
      have c17 : Steps p.tables e below (s₁.setTop (entryFrame m #[.ref x, .ref y] 3)) (T16.setTop (mkF m 44 #[.val (.ref x), .val (.ref y), .val (.ref y)] [.ref t', .ref t])) := c15.trans (st16 _ (Steps.refl _))
      obtain ⟨v18, T18, X18, E18, g18⟩ := X16.callS hexec (LEq.law l t V t' V') hown (wks W (staticW "java/lang/String" 541 LEq.yN)) (wk W LEq.tab) (W := 0) (Nat.le_of_ble_eq_true rfl) (Nat.le_of_ble_eq_true rfl) (Nat.le_refl _) (Nat.le_refl _) (g := (mkF m 44 #[.val (.ref x), .val (.ref y), .val (.ref y)] [.ref t', .ref t])) rfl (by rw [hml]; rfl) c17 (argsL := [.ref t, .ref t']) (rest := []) rfl rfl (by show 2 * 0 + 0 ≤ _; decide) (hb hbytes d44) (⟨rfl, hx.2.2.2.1.mv X16.warmed.alike hh16, hx.2.2.2.2.1.ty, hy.2.2.2.1.mv X16.warmed.alike hh16, hy.2.2.2.2.1.ty⟩)
      obtain ⟨v, rfl, q18, hv⟩ := E18
      have iff := Cod.eqv hx.2.2.2.2.1 hy.2.2.2.2.1 hx.2.2.2.2.2 hy.2.2.2.2.2
      rcases hv with ⟨rfl, he⟩ | ⟨rfl, he⟩
      · have c19 : Steps p.tables e below (s₁.setTop (entryFrame m #[.ref x, .ref y] 3)) (T18.setTop (mkF m 55 #[.val (.ref x), .val (.ref y), .val (.ref y)] [.int 1])) := Steps.trans g18 (by
          refine XS.ifNo X18.here hexec rfl (hb hbytes d47) rfl (i0_eq_f (by decide)) ?_
          refine iconstV X18.here hexec rfl 1 (hb hbytes d50) (by decide) ?_
          refine XS.goto X18.here hexec rfl (pc0 := 51) rfl (hb hbytes d51) (by decide) rfl ?_
          exact Steps.refl _)
        exact ⟨T18, some (.int 1), _, _, _, X18, rfl, rfl, rfl, (fun h => by cases h), ⟨1, rfl, q18.trans hh16, Or.inl ⟨rfl, iff.mp he⟩⟩, fun fs hl => c19.trans (X18.ireturnOut hexec hret rfl (Or.inr (Or.inl rfl)) (hb hbytes d55) hl)⟩
      · have c19 : Steps p.tables e below (s₁.setTop (entryFrame m #[.ref x, .ref y] 3)) (T18.setTop (mkF m 55 #[.val (.ref x), .val (.ref y), .val (.ref y)] [.int 0])) := Steps.trans g18 (by
          refine XS.ifYes X18.here hexec rfl (pc0 := 47) rfl (hb hbytes d47) rfl (i0_eq_t rfl) (by decide) rfl ?_
          refine iconstV X18.here hexec rfl 0 (hb hbytes d54) (by decide) ?_
          exact Steps.refl _)
        exact ⟨T18, some (.int 0), _, _, _, X18, rfl, rfl, rfl, (fun h => by cases h), ⟨0, rfl, q18.trans hh16, Or.inr ⟨rfl, fun q => he (iff.mpr q)⟩⟩, fun fs hl => c19.trans (X18.ireturnOut hexec hret rfl (Or.inr (Or.inl rfl)) (hb hbytes d55) hl)⟩
    · have c13 : Steps p.tables e below (s₁.setTop (entryFrame m #[.ref x, .ref y] 3)) (T11.setTop (mkF m 55 #[.val (.ref x), .val (.ref y), .val (.ref y)] [.int 0])) := c12.trans (by
        refine XS.icmpYes X11.here hexec rfl (pc0 := 33) rfl (hb hbytes d33) rfl (ii_ne_t hcd) (by decide) rfl ?_
        refine iconstV X11.here hexec rfl 0 (hb hbytes d54) (by decide) ?_
        exact Steps.refl _)
      exact ⟨T11, some (.int 0), _, _, _, X11, rfl, rfl, rfl, (fun h => by cases h), ⟨0, rfl, hh11, Or.inr ⟨rfl, Cod.dif hx.2.2.2.2.1 hy.2.2.2.2.1 hcd⟩⟩, fun fs hl => c13.trans (X11.ireturnOut hexec hret rfl (Or.inr (Or.inl rfl)) (hb hbytes d55) hl)⟩
theorem pays {l : Launch} {R : Room} {p : Program} {e : Env} {below : List Frame} {s : State} {sargs : Array Value} {len W : Nat} (x t : Addr) (V : Cell) (cd : Int32) (n : Nat) (f : Nat → Int32) (y t' : Addr) (V' : Cell) (cd' : Int32) (k : Nat) (g : Nat → Int32) (z : Int32) (htab : tab.before sargs s = true) (hfr : 2 ≤ R.frames) (hlo : W + 28 ≤ R.locals) :
    Back l R p e below s sargs yN len W (fun A₁ a₁ => A₁.cells + 0 ≤ R.cells ∧ A₁.slots + 0 ≤ R.slots ∧ P x t V cd n f y t' V' cd' k g z a₁ A₁.U) (fun A₁ _ v₁ B₁ => Says01 (SameT n f k g) v₁ A₁.U B₁.U ∧ B₁.locs = A₁.locs ++ [] ∧ B₁.cells = A₁.cells + 0 ∧ B₁.slots = A₁.slots + 0) :=
  (law l x t V cd n f y t' V' cd' k g z).pays htab hfr (by omega)
end SEq
end StrChars
namespace StrChars.Road
open Jvm Sem ClassFile Op Lib Jvm.Stand Jvm.Free Jvm.Free.XT
open Jvm.Lib.Cold (StaticIs)
/-- the words of String.equals(Object) -/
abbrev wordsEq : List Jvm.Cond := [.code SEq.yN SEq.yB 3 (some .boolean), .initialized ST, .classLink ST 10 ST, .fieldLink ST 38 ST "COMPACT_STRINGS" "Z", .fieldLink ST 15 ST "coder" "B", .fieldLink ST 9 ST "value" "[B", .methodLink ST 541 LEq.yN, .static LEq.yN, .code LEq.yN LEq.yB 3 (some .boolean), .initialized "java/lang/StringLatin1"]
theorem tabEq_of {a : Array Value} {s : State} (h : ∀ w ∈ wordsEq, w.before a s = true) : SEq.tab.before a s = true := by
  have hl : LEq.tab.before a s = true := unparts (wk h (.code LEq.yN LEq.yB 3 (some .boolean))) (wks h (.initialized LEq.yN.cls :: LEq.site))
  have q := consq hl h
  exact unparts (wk q (.code SEq.yN SEq.yB 3 (some .boolean))) (wks q (.initialized SEq.yN.cls :: SEq.site))
theorem movedEq {Z s : State} {a0 args : Array Value} (hZ : Z.Warmed39 s.vm) (hw : ∀ d ∈ wordsEq, d.before a0 Z = true) : ∀ d ∈ wordsEq, d.before args s = true := fun d hd => by
  have t : ∀ d ∈ wordsEq, (d.onTables && d.keepsFace) = true := by decide +kernel
  exact RoadKit.mv hZ (hw d hd) (t d hd)
/-- the road's facts of a String, as the laws ask it -/
theorem txt_of {Z U : State} {a0 : Array Value} {kI : Nat} (wi : (Jvm.Cond.instantiable ST kI).before a0 Z = true) (al : Z.vm.Alike U.vm) {x t : Addr} {kb : ClassId} {cs : List Int32} {cd N2 : Int32} {vs : List Value} (E : RoadKit.Exa Z U.heap x ST) (V : RoadKit.Fld Z U.heap x ST "value" "[B" (.ref t)) (C : RoadKit.Fld Z U.heap x ST "coder" "B" (.int cd)) (K : RoadKit.Arv Z U.heap t kb .byte N2 vs (.int 0)) (hc : CodA cs cd N2 vs) (hb : ∀ c ∈ cs, ¬ c < 0 ∧ ¬ (65535 : Int32) < c) (l2 : cs.length ≤ 4000) :
    ∃ A, Txt x t A cd cs.length (fun j => cs.getD j 0) U := by
  obtain ⟨A, K1, K2, K3, K4, K5, K6⟩ := K
  have hcod := hc.cod (by omega) K3 K5
  obtain ⟨D, fV, fC, hB, F1, F2, g1, g2, -, -⟩ := strObj wi al E V C
  exact ⟨A, ⟨_, hB.2.2.1, D, hB.1, rfl, by cases q : D.vm <;> first | rfl | exact absurd q (hB.2.1.2 _)⟩, Has.of hB F1 g1, Has.of hB F2 g2, ⟨K1.1, State.isArrayOf_alike al K1.2.1, K1.2.2, by rcases hcod with ⟨-, q, -⟩ | ⟨-, q, -⟩ <;> omega⟩, hcod, fun j hj => by
    have e : cs.getD j 0 = cs[j] := by simp [List.getD_eq_getElem?_getD, hj]
    show ¬ cs.getD j 0 < 0 ∧ ¬ 65535 < cs.getD j 0
    rw [e]; exact hb _ (List.getElem_mem _)⟩
theorem same_list (cs ds : List Int32) : SameT cs.length (fun j => cs.getD j 0) ds.length (fun j => ds.getD j 0) ↔ cs = ds := by
  constructor
  · rintro ⟨e, q⟩
    refine List.ext_getElem e fun j h1 h2 => ?_
    have := q j h1
    simpa [List.getD_eq_getElem?_getD, h1, h2] using this
  · rintro rfl
    exact ⟨rfl, fun _ _ => rfl⟩
/-- **equals(Object) OF TWO SUCH STRINGS**: 1 just where the chars are the same -/
theorem eqW {p : Program} {l : Launch} {e : Env} {R : Room} {s : State} {args : Array Value} {below : List Frame} {len W : Nat} {Z : State} {a0 : Array Value} {h : Heap} (hZ : Z.Warmed39 s.vm) (hw : ∀ d ∈ wordsEq, d.before a0 Z = true) {kI : Nat} (wi : (Jvm.Cond.instantiable ST kI).before a0 Z = true)
    {x t : Addr} {kb : ClassId} {cs : List Int32} {cd N2 : Int32} {vs : List Value} (E : RoadKit.Exa Z h x ST) (V : RoadKit.Fld Z h x ST "value" "[B" (.ref t)) (C : RoadKit.Fld Z h x ST "coder" "B" (.int cd)) (K : RoadKit.Arv Z h t kb .byte N2 vs (.int 0)) (hc : CodA cs cd N2 vs) (hb : ∀ c ∈ cs, ¬ c < 0 ∧ ¬ (65535 : Int32) < c) (l2 : cs.length ≤ 4000)
    {y t' : Addr} {kb' : ClassId} {ds : List Int32} {cd' N2' : Int32} {vs' : List Value} (E' : RoadKit.Exa Z h y ST) (V' : RoadKit.Fld Z h y ST "value" "[B" (.ref t')) (C' : RoadKit.Fld Z h y ST "coder" "B" (.int cd')) (K' : RoadKit.Arv Z h t' kb' .byte N2' vs' (.int 0)) (hc' : CodA ds cd' N2' vs') (hb' : ∀ c ∈ ds, ¬ c < 0 ∧ ¬ (65535 : Int32) < c) (l2' : ds.length ≤ 4000)
    {z : Int32} (S : RoadKit.Sta Z h ST "COMPACT_STRINGS" "Z" (.int z)) (hz : ¬ z = 0) (hfr : 2 ≤ R.frames) (hlo : W + 28 ≤ R.locals) :
    Back l R p e below s args (⟨"java/lang/String", "equals", "(Ljava/lang/Object;)Z"⟩ : MethodName) len W (fun P a => a = #[.ref x, .ref y] ∧ P.U.heap = h ∧ P.cells + 0 ≤ R.cells ∧ P.slots + 0 ≤ R.slots)
      (fun P _ v B => ∃ L, (((v = some (.int 1) ∧ cs = ds) ∨ (v = some (.int 0) ∧ ¬ cs = ds)) ∧ L = [] ∧ B.U.heap = h) ∧ B.locs = P.locs ++ L ∧ B.cells = P.cells + 0 ∧ B.slots = P.slots + 0) := by
  intro m meth c P g ig mk a X hg hsize hdg hW hn hp'
  obtain ⟨rfl, rfl, r1, r2⟩ := hp'
  have al : Z.vm.Alike P.U.vm := hZ.alike.trans X.warmed.alike
  obtain ⟨A, hx⟩ := txt_of wi al E V C K hc hb l2
  obtain ⟨A', hy⟩ := txt_of wi al E' V' C' K' hc' hb' l2'
  obtain ⟨v, B, X', ⟨⟨w, hv, hh, hq⟩, hl, hk, hs⟩, st⟩ := SEq.pays x t A cd cs.length (fun j => cs.getD j 0) y t' A' cd' ds.length (fun j => ds.getD j 0) z (tabEq_of (movedEq hZ hw)) hfr hlo m meth c P g ig mk _ X hg hsize hdg hW hn ⟨r1, r2, rfl, hx, hy, sta_is al S, hz⟩
  refine ⟨v, B, X', ⟨[], ⟨?_, rfl, hh⟩, hl, hk, hs⟩, st⟩
  rcases hq with ⟨rfl, q⟩ | ⟨rfl, q⟩
  · exact Or.inl ⟨hv, (same_list cs ds).mp q⟩
  · exact Or.inr ⟨hv, fun e => q ((same_list cs ds).mpr e)⟩
end StrChars.Road
namespace StrChars
open Jvm Sem ClassFile Op Lib Jvm.Stand Jvm.Free.XT Jvm.Free.ALB Jvm.Free.JM Jvm.Free
open Jvm.Lib.Cold (StaticIs)
namespace ChN
def yN : MethodName := ⟨"java/lang/String", "charAt", "(I)C"⟩
abbrev yB : ByteArray := jdk_42_method_56_code
theorem d0 : decode yB 0 = .ok (.aload_n 0, 1) := by decide +kernel
theorem d1 : decode yB 1 = .ok (.invokevirtual 492, 3) := by decide +kernel
theorem d4 : decode yB 4 = .ok (.ifCond (.eq) 12, 3) := by decide +kernel
theorem d7 : decode yB 7 = .ok (.aload_n 0, 1) := by decide +kernel
theorem d8 : decode yB 8 = .ok (.getfield 9, 3) := by decide +kernel
theorem d11 : decode yB 11 = .ok (.iload_n 1, 1) := by decide +kernel
theorem d12 : decode yB 12 = .ok (.invokestatic 495, 3) := by decide +kernel
theorem d15 : decode yB 15 = .ok (.ireturn, 1) := by decide +kernel
def site : List Cond := [.fieldLink "java/lang/String" 9 "java/lang/String" "value" "[B", IsL.tab, LChA.tab] ++ virtW "java/lang/String" 492 "java/lang/String" IsL.yN IsL.yN ++ staticW "java/lang/String" 495 LChA.yN
def tab : Cond := tabOf yN yB 2 (some .char) site
def P (x t : Addr) (V : Cell) (n : Nat) (f : Nat → Int32) (z : Int32) (fm : Value) (i : Nat) (args : Array Value) (s : State) : Prop := args = #[.ref x, .int (Int32.ofNat i)] ∧ Txt x t V 0 n f s ∧ i < n ∧ StaticIs s "java/lang/String" "COMPACT_STRINGS" "Z" (.int z) ∧ ¬ z = 0 ∧ StaticIs s "jdk/internal/util/Preconditions" "SIOOBE_FORMATTER" "Ljava/util/function/BiFunction;" fm ∧ fm.isRef = true
def E (f : Nat → Int32) (i : Nat) (r : Option Value) (s u : State) : Prop := XT.PureE (some (.int (f i))) r s u
/-- charAt(i) of a Latin-1 String of n chars, i < n: f i -/
theorem law (l : Launch) (x t : Addr) (V : Cell) (n : Nat) (f : Nat → Int32) (z : Int32) (fm : Value) (i : Nat) : Law l yN 2 1 3 40 yB 2 (some .char) site (P x t V n f z fm i) (E f i) [] 0 0 := by
  refine Law.of_walk (plainFor_of_name (by decide +kernel)) (by decide +kernel) (by decide +kernel) (by decide) (fun _ _ h => by rw [h.1]; rfl) (fun _ U U' hal hh h => ⟨h.1, h.2.1.mv hal hh, h.2.2.1, h.2.2.2.1.there hal hh, h.2.2.2.2.1, h.2.2.2.2.2.1.there hal hh, h.2.2.2.2.2.2⟩) (fun r U U' V V' h1 hal h2 h => XT.PureE.mv r U U' V V' h1 hal h2 h) ?_
  intro p e s m args below meth c s₁ X0 hexec hbytes hml hret hlk hnm hown hh0 W hP
  obtain ⟨rfl, hx, hi, s1, hz, s3, rf⟩ := hP
  have v31 := hx.2.2.2.1.2.2.2
  have hr := hx.2.2.2.2.2 i hi
  have hx0 := hx.mv X0.warmed.alike hh0
  have c1 : Steps p.tables e below (s₁.setTop (entryFrame m #[.ref x, .int (Int32.ofNat i)] 2)) (s₁.setTop (mkF m 1 #[.val (.ref x), .val (.int (Int32.ofNat i))] [.ref x])) := Steps.trans (entry rfl) (by
    show Steps p.tables e below (s₁.setTop (mkF m 0 #[.val (.ref x), .val (.int (Int32.ofNat i))] [])) _
    refine XS.aloadN X0.here hexec rfl (hb hbytes d0) rfl rfl ?_
    exact Steps.refl _)
  obtain ⟨v2, T2, X2, E2, g2⟩ := X0.callV hexec (IsL.law l x 0 z) hown (wks W (virtW "java/lang/String" 492 "java/lang/String" IsL.yN IsL.yN)) rfl (by decide) (wk W IsL.tab) (W := 0) (Nat.le_of_ble_eq_true rfl) (Nat.le_of_ble_eq_true rfl) (Nat.le_refl _) (Nat.le_refl _) (hx0.1.fc X0.warmed.alike) hx0.1.is (g := (mkF m 1 #[.val (.ref x), .val (.int (Int32.ofNat i))] [.ref x])) rfl (by rw [hml]; rfl) c1 (argsL := []) (rest := []) rfl rfl (by show 2 * 0 + 0 ≤ _; decide) (hb hbytes d1) (⟨rfl, hx0.2.2.1, hx.2.2.2.2.1.cd, s1.there X0.warmed.alike hh0, hz⟩)
  obtain ⟨rfl, q2⟩ := E2
  have hh2 := q2.trans hh0
  have hx2 := hx.mv X2.warmed.alike hh2
  obtain ⟨-, k1, k2⟩ | ⟨k0, -⟩ := hx.2.2.2.2.1
  · have c3 : Steps p.tables e below (s₁.setTop (entryFrame m #[.ref x, .int (Int32.ofNat i)] 2)) (T2.setTop (mkF m 8 #[.val (.ref x), .val (.int (Int32.ofNat i))] [.ref x])) := Steps.trans g2 (by
      refine XS.ifNo X2.here hexec rfl (hb hbytes d4) rfl (i0_eq_f (by decide)) ?_
      refine XS.aloadN X2.here hexec rfl (hb hbytes d7) rfl rfl ?_
      exact Steps.refl _)
    obtain ⟨T4, X4, q4, st4⟩ := X2.hget hexec hown (wk W (.fieldLink "java/lang/String" 9 "java/lang/String" "value" "[B")) hx2.2.1 (g := (mkF m 8 #[.val (.ref x), .val (.int (Int32.ofNat i))] [.ref x])) rfl (rest := []) rfl (hb hbytes d8)
    have hh4 := q4.trans hh2
    have c5 : Steps p.tables e below (s₁.setTop (entryFrame m #[.ref x, .int (Int32.ofNat i)] 2)) (T4.setTop (mkF m 12 #[.val (.ref x), .val (.int (Int32.ofNat i))] [.int (Int32.ofNat i), .ref t])) := (c3.trans (st4 _ (Steps.refl _))).trans (by
      refine XS.iloadN X4.here hexec rfl (hb hbytes d11) rfl ?_
      exact Steps.refl _)
    obtain ⟨v6, T6, X6, E6, g6⟩ := X4.callS hexec (LChA.law l t V i (lo8 (f i)) fm) hown (wks W (staticW "java/lang/String" 495 LChA.yN)) (wk W LChA.tab) (W := 0) (Nat.le_of_ble_eq_true rfl) (Nat.le_of_ble_eq_true rfl) (Nat.le_refl _) (Nat.le_refl _) (g := (mkF m 12 #[.val (.ref x), .val (.int (Int32.ofNat i))] [.int (Int32.ofNat i), .ref t])) rfl (by rw [hml]; rfl) c5 (argsL := [.ref t, .int (Int32.ofNat i)]) (rest := []) rfl rfl (by show 2 * 0 + 0 ≤ _; decide) (hb hbytes d12) (⟨rfl, hx.2.2.2.1.mv X4.warmed.alike hh4, (k2 i hi).1, s3.there X4.warmed.alike hh4, rf⟩)
    obtain ⟨rfl, q6⟩ := E6
    rw [chr8_lo8 hr.1 (k2 i hi).2] at g6
    exact ⟨T6, some (.int (f i)), _, _, _, X6, rfl, rfl, rfl, (fun h => by cases h), ⟨rfl, q6.trans hh4⟩, fun fs hl => Steps.trans g6 (X6.ireturnOut hexec hret (narrow_ch hr.1 hr.2) (Or.inr (Or.inr (Or.inr (Or.inl rfl)))) (hb hbytes d15) hl)⟩
  · exact absurd k0 (by decide)
theorem pays {l : Launch} {R : Room} {p : Program} {e : Env} {below : List Frame} {s : State} {sargs : Array Value} {len W : Nat} (x t : Addr) (V : Cell) (n : Nat) (f : Nat → Int32) (z : Int32) (fm : Value) (i : Nat) (htab : tab.before sargs s = true) (hfr : 4 ≤ R.frames) (hlo : W + 53 ≤ R.locals) :
    Back l R p e below s sargs yN len W (fun A₁ a₁ => A₁.cells + 0 ≤ R.cells ∧ A₁.slots + 0 ≤ R.slots ∧ P x t V n f z fm i a₁ A₁.U) (fun A₁ _ v₁ B₁ => E f i v₁ A₁.U B₁.U ∧ B₁.locs = A₁.locs ++ [] ∧ B₁.cells = A₁.cells + 0 ∧ B₁.slots = A₁.slots + 0) :=
  (law l x t V n f z fm i).pays htab hfr (by omega)
end ChN
end StrChars
namespace StrChars.Road
open Jvm Sem ClassFile Op Lib Jvm.Stand Jvm.Free Jvm.Free.XT
open Jvm.Lib.Cold (StaticIs)
/-- the words of String.charAt(int), the Latin-1 road alone -/
abbrev wordsChN : List Jvm.Cond := [.code ChN.yN ChN.yB 2 (some .char), .initialized ST, .fieldLink ST 9 ST "value" "[B", .fieldLink ST 38 ST "COMPACT_STRINGS" "Z", .fieldLink ST 15 ST "coder" "B", .code IsL.yN IsL.yB 1 (some .boolean), .methodLink ST 492 IsL.yN, .declares IsL.yN, .selects ST IsL.yN IsL.yN, .instanceMethod IsL.yN,
  .methodLink ST 495 LChA.yN, .static LChA.yN, .code LChA.yN LChA.yB 2 (some .char), .initialized "java/lang/StringLatin1", .methodLink "java/lang/StringLatin1" 9 JO.Str_checkIndex.yN, .static JO.Str_checkIndex.yN, .code JO.Str_checkIndex.yN JO.Str_checkIndex.yB 2 none,
  .fieldLink ST 1053 "jdk/internal/util/Preconditions" "SIOOBE_FORMATTER" "Ljava/util/function/BiFunction;", .methodLink ST 1059 JC.PreCheck.yN, .static JC.PreCheck.yN, .code JC.PreCheck.yN JC.PreCheck.yB 3 (some .int), .initialized "jdk/internal/util/Preconditions"]
theorem tabChN_of {a : Array Value} {s : State} (h : ∀ w ∈ wordsChN, w.before a s = true) : ChN.tab.before a s = true := by
  have hp : JC.PreCheck.tab.before a s = true := unparts (wk h (.code JC.PreCheck.yN JC.PreCheck.yB 3 (some .int))) (wks h (.initialized JC.PreCheck.yN.cls :: JC.PreCheck.site))
  have qk := consq hp h
  have hk : JO.Str_checkIndex.tab.before a s = true := unparts (wk qk (.code JO.Str_checkIndex.yN JO.Str_checkIndex.yB 2 none)) (wks qk (.initialized JO.Str_checkIndex.yN.cls :: JO.Str_checkIndex.site))
  have ql := consq hk h
  have hl : LChA.tab.before a s = true := unparts (wk ql (.code LChA.yN LChA.yB 2 (some .char))) (wks ql (.initialized LChA.yN.cls :: LChA.site))
  have hi : IsL.tab.before a s = true := unparts (wk h (.code IsL.yN IsL.yB 1 (some .boolean))) (wks h (.initialized IsL.yN.cls :: IsL.site))
  have q := consq hi (consq hl h)
  exact unparts (wk q (.code ChN.yN ChN.yB 2 (some .char))) (wks q (.initialized ChN.yN.cls :: ChN.site))
theorem movedChN {Z s : State} {a0 args : Array Value} (hZ : Z.Warmed39 s.vm) (hw : ∀ d ∈ wordsChN, d.before a0 Z = true) : ∀ d ∈ wordsChN, d.before args s = true := fun d hd => by
  have t : ∀ d ∈ wordsChN, (d.onTables && d.keepsFace) = true := by decide +kernel
  exact RoadKit.mv hZ (hw d hd) (t d hd)
/-- **charAt(i) OF A LATIN-1 STRING**, i < n: the char -/
theorem chN {p : Program} {l : Launch} {e : Env} {R : Room} {s : State} {args : Array Value} {below : List Frame} {len W : Nat} {Z : State} {a0 : Array Value} {h : Heap} (hZ : Z.Warmed39 s.vm) (hw : ∀ d ∈ wordsChN, d.before a0 Z = true) {kI : Nat} (wi : (Jvm.Cond.instantiable ST kI).before a0 Z = true)
    {x t : Addr} {kb : ClassId} {cs : List Int32} {N2 z : Int32} {vs : List Value} {fm : Value} {i : Nat} {j : Int32} (E : RoadKit.Exa Z h x ST) (V : RoadKit.Fld Z h x ST "value" "[B" (.ref t)) (C : RoadKit.Fld Z h x ST "coder" "B" (.int 0)) (K : RoadKit.Arv Z h t kb .byte N2 vs (.int 0)) (hc : CodA cs 0 N2 vs) (hb : ∀ c ∈ cs, ¬ c < 0 ∧ ¬ (65535 : Int32) < c)
    (S : RoadKit.Sta Z h ST "COMPACT_STRINGS" "Z" (.int z)) (hz : ¬ z = 0) (F : RoadKit.Sta Z h "jdk/internal/util/Preconditions" "SIOOBE_FORMATTER" "Ljava/util/function/BiFunction;" fm) (rf : fm.isRef = true) (l2 : cs.length ≤ 4000) (hi : i < cs.length) (hj : j = Int32.ofNat i) (hfr : 4 ≤ R.frames) (hlo : W + 53 ≤ R.locals) :
    Back l R p e below s args (⟨"java/lang/String", "charAt", "(I)C"⟩ : MethodName) len W (fun P a => a = #[.ref x, .int j] ∧ P.U.heap = h ∧ P.cells + 0 ≤ R.cells ∧ P.slots + 0 ≤ R.slots)
      (fun P _ v B => ∃ L, (v = some (.int (cs.getD i 0)) ∧ L = [] ∧ B.U.heap = h) ∧ B.locs = P.locs ++ L ∧ B.cells = P.cells + 0 ∧ B.slots = P.slots + 0) := by
  subst hj
  intro m meth c P g ig mk a X hg hsize hdg hW hn hp'
  obtain ⟨rfl, rfl, r1, r2⟩ := hp'
  have al : Z.vm.Alike P.U.vm := hZ.alike.trans X.warmed.alike
  obtain ⟨A, hx⟩ := txt_of wi al E V C K hc hb l2
  obtain ⟨v, B, X', ⟨⟨hv, hh⟩, hl, hk, hs⟩, st⟩ := ChN.pays x t A cs.length (fun j => cs.getD j 0) z fm i (tabChN_of (movedChN hZ hw)) hfr hlo m meth c P g ig mk _ X hg hsize hdg hW hn ⟨r1, r2, rfl, hx, hi, sta_is al S, hz, sta_is al F, rf⟩
  exact ⟨v, B, X', ⟨[], ⟨hv, rfl, hh⟩, hl, hk, hs⟩, st⟩
/-- what backV says of its String, as the contracts of this text ask it: cs's low bytes, coder 0 -/
theorem codOf {cs : List Int32} {n : Nat} (hn : cs.length = n) (hb : ∀ c ∈ cs, ¬ 255 < c) : CodA cs 0 (Int32.ofNat n) ((cs.map lo8).map Value.int) := Or.inl ⟨rfl, by rw [hn], by simp [List.map_map, Function.comp_def], hb⟩
end StrChars.Road
end Jvm.Pilot.@@N@@

namespace Jvm.Pilot.@@N@@
open Jvm Jvm.ClassFile Sem Op Lib Jvm.Free Jvm.Stand Jvm.LawKit Jvm.RoadKit Bundle Jvm.Pilot.@@N@@.Jvm.D
def EL0 : List (String × Nat) := [("java/lang/String", 7)]
theorem own_EW {Z : State} {a0 : Array Value} (hw : ∀ d ∈ tables_1, d.before a0 Z = true) : EW Z a0 EL0 := EW.cons (hw _ (List.mem_of_getElem? (i := 26) rfl)) (fun c hc => by simp at hc) EW.nil
theorem own_narc {c : Int32} (h0 : ¬ c < 0) (h1 : ¬ (65535 : Int32) < c) : nar .char c = c := by
  have z0 : (0 : Int32).toInt = 0 := rfl
  have z1 : (65535 : Int32).toInt = 65535 := rfl
  rw [Int32.lt_iff_toInt_lt, z0] at h0
  rw [Int32.lt_iff_toInt_lt, z1] at h1
  apply Int32.toInt_inj.mp
  have q := c_i2c c
  show (c.toUInt32.toUInt16.toUInt32.toInt32).toInt = _
  omega
theorem own_lo (c : Int32) : nar .byte ((c >>> ((0 : Int32) &&& 31)).toInt8.toInt32) = StrChars.lo8 c := by
  rw [StrChars.shr0]; simp [nar, StrChars.lo8]
theorem own_hi (c : Int32) : nar .byte ((c >>> ((8 : Int32) &&& 31)).toInt8.toInt32) = StrChars.hi8 c := by
  simp [nar, StrChars.hi8, StrChars.lo8]
theorem own_gc {c : Int32} (h0 : ¬ c < 0) (h1 : ¬ (65535 : Int32) < c) : nar .char (((((StrChars.lo8 c) &&& (255 : Int32)) <<< ((0 : Int32) &&& 31)) ||| (((StrChars.hi8 c) &&& (255 : Int32)) <<< ((8 : Int32) &&& 31))).toUInt32.toUInt16.toUInt32.toInt32) = c := by
  show nar .char (StrChars.pairCh (StrChars.lo8 c) (StrChars.hi8 c)) = c
  rw [StrChars.pair_says h0 h1, own_narc h0 h1]
/-- a String under construction is no constant that is booked -/
theorem own_safe {Z : State} {vm : Vm} {h : Heap} {ob : Addr} {EL : List (String × Nat)} (hal : Z.vm.Alike vm) (E : Exa Z h ob "java/lang/String") (F : Fld Z h ob "java/lang/String" "value" "[B" .null) : Safe Z EL vm h ob := fun B => by
  obtain ⟨p, hp, u, a, -, q, hqa, S, hy⟩ := B
  obtain ⟨cell, k, e1, e2, e3, -, -⟩ := E
  obtain ⟨cell', cf, k', i, f, f1, f2, f3, f4, f5, f6, f7⟩ := F
  have ec : cell' = cell := Option.some.inj (f1.symm.trans e1)
  subst ec
  obtain ⟨cS, ⟨⟨s1, s2, s3, ⟨cv, kv, iv, s4, s4'⟩, s5, s6, s7, s8, s9, s10, s11, s12⟩, hfS, hcS⟩, kk, hB, hbyt⟩ := S
  have s1 : h[q.sa]? = some q.sC := s1
  have s10 : h[q.sd]? = some q.SA := s10
  rcases hy with rfl | rfl
  · cases f1.symm.trans s1
    obtain ⟨kv', z4⟩ := ff_back (U := Wst Z vm h) hal s4
    cases f2.symm.trans z4
    cases f7.symm.trans s8
  · cases f1.symm.trans s10
    have hB : vm.findClass "[B" = some q.SA.cls := hB
    rw [hal.findClass] at hB
    obtain ⟨k1, a1, a2⟩ := Vm.findClass_spec hB
    obtain ⟨k2, b1, b2⟩ := Vm.findClass_spec e2
    cases a1.symm.trans b1
    exact absurd (a2.symm.trans b2) (by decide)
theorem own_no {Z : State} {a0 : Array Value} {D : String} (w2 : (Cond.noSuperclass "java/lang/Object").before a0 Z = true) (hD : D ≠ "com/example/attestrail/attestrail/json/JsonString") (hsub : ∃ c t, Z.vm.findClass D = some c ∧ Z.vm.findClass "com/example/attestrail/attestrail/json/JsonString" = some t ∧ (∀ fuel, Z.vm.isSubclassAux fuel c t = false) ∧ ∃ k : Class, Z.vm.classes[c]? = some k ∧ k.kind = .ordinary) (w3 : (Cond.instantiable "com/example/attestrail/attestrail/json/JsonString" 1).before a0 Z = true) :
    ∃ c t, Z.vm.findClass D = some c ∧ Z.vm.findClass "com/example/attestrail/attestrail/json/JsonString" = some t ∧ Z.vm.assignable c t = false := by
  obtain ⟨c, t, h1, h2, n3, k, k1, k2⟩ := hsub
  obtain ⟨t', kt, t1, t2, t3, t4, -⟩ := Cond.instantiable_spec w3
  cases h2.symm.trans t1
  have ne := ids_ne h1 h2 hD
  have ti : kt.isInterface = false := by cases hb : kt.isInterface <;> simp [hb] at t4 ⊢
  refine ⟨c, t, h1, h2, ?_⟩
  show Z.vm.assignableAux (255 + 1) c t = false
  simp [Vm.assignableAux, ne, k1, t2, k2, t3, ti, Vm.isSubclass, n3]
theorem own_noS {Z : State} {a0 : Array Value} (w1 : (Cond.superclass "java/lang/String" "java/lang/Object").before a0 Z = true) (w2 : (Cond.noSuperclass "java/lang/Object").before a0 Z = true) (w3 : (Cond.instantiable "com/example/attestrail/attestrail/json/JsonString" 1).before a0 Z = true) :
    ∃ c t, Z.vm.findClass "java/lang/String" = some c ∧ Z.vm.findClass "com/example/attestrail/attestrail/json/JsonString" = some t ∧ Z.vm.assignable c t = false := by
  obtain ⟨cO, kO, o1, o2, o3, -, -⟩ := Cond.noSuperclass_spec w2
  obtain ⟨t, kt, t1, t2, t3, t4, -⟩ := Cond.instantiable_spec w3
  obtain ⟨c, c0⟩ := found_sup w1
  obtain ⟨q, k, kq, q1, q2, q3, q4, q5, -, q7⟩ := Cond.superclass_spec c0 w1
  cases o1.symm.trans q1
  have n1 := ids_ne c0 t1 (by decide)
  have n2 := ids_ne o1 t1 (by decide)
  refine own_no w2 (by decide) ⟨c, t, c0, t1, fun fuel => ?_, k, q2, q5⟩ w3
  cases fuel with
  | zero => rfl
  | succ f =>
    cases f with
    | zero => simp [Vm.isSubclassAux, n1, q2, q4]
    | succ g => simp [Vm.isSubclassAux, n1, n2, q2, q4, o2, o3]
theorem own_noL {Z : State} {a0 : Array Value} (w0 : (Cond.superclass "com/example/attestrail/attestrail/json/JsonLiteral" "java/lang/Enum").before a0 Z = true) (w1 : (Cond.superclass "java/lang/Enum" "java/lang/Object").before a0 Z = true) (w2 : (Cond.noSuperclass "java/lang/Object").before a0 Z = true) (w3 : (Cond.instantiable "com/example/attestrail/attestrail/json/JsonString" 1).before a0 Z = true) :
    ∃ c t, Z.vm.findClass "com/example/attestrail/attestrail/json/JsonLiteral" = some c ∧ Z.vm.findClass "com/example/attestrail/attestrail/json/JsonString" = some t ∧ Z.vm.assignable c t = false := by
  obtain ⟨cO, kO, o1, o2, o3, -, -⟩ := Cond.noSuperclass_spec w2
  obtain ⟨t, kt, t1, t2, t3, t4, -⟩ := Cond.instantiable_spec w3
  obtain ⟨c, c0⟩ := found_sup w1
  obtain ⟨q, k, kq, q1, q2, q3, q4, q5, -, q7⟩ := Cond.superclass_spec c0 w1
  obtain ⟨d, d0⟩ := found_sup w0
  obtain ⟨q', k', kq', r1, r2, r3, r4, r5, -, r7⟩ := Cond.superclass_spec d0 w0
  cases o1.symm.trans q1
  cases c0.symm.trans r1
  have n0 := ids_ne d0 t1 (by decide)
  have n1 := ids_ne c0 t1 (by decide)
  have n2 := ids_ne o1 t1 (by decide)
  refine own_no w2 (by decide) ⟨d, t, d0, t1, fun fuel => ?_, k', r2, r5⟩ w3
  cases fuel with
  | zero => rfl
  | succ f =>
    cases f with
    | zero => simp [Vm.isSubclassAux, n0, r2, r4]
    | succ g =>
      cases g with
      | zero => simp [Vm.isSubclassAux, n0, n1, r2, r4, q2, q4]
      | succ i => simp [Vm.isSubclassAux, n0, n1, n2, r2, r4, q2, q4, o2, o3]
/-- an array of small ints, by what each place holds -/
def PA (Z : State) (h : Heap) (a : Addr) (k : ClassId) (ty : FieldType) (z : Int32) (f : Nat → Int32) : Prop := ∃ c : Cell, Arr Z h a c ty ∧ c.cls = k ∧ c.slots.size = z.toNatClampNeg ∧ ¬ z < 0 ∧ (∀ j, j < c.slots.size → c.slots[j]? = some (.int (f j))) ∧ ∀ j, j < c.slots.size → fits ty (.int (f j)) = true
section PAs
variable {Z : State} {h h' : Heap} {a b : Addr} {k : ClassId} {ty : FieldType} {z : Int32} {f : Nat → Int32} {sl : Nat} {v : Value} {ws : List Addr}
theorem PA.lt (F : PA Z h a k ty z f) : a < h.size := by obtain ⟨c, A, -⟩ := F; exact A.lt
theorem PA.ext (F : PA Z h a k ty z f) (E : Ext h h') : PA Z h' a k ty z f := by obtain ⟨c, A, r⟩ := F; exact ⟨c, A.ext E, r⟩
theorem PA.other (F : PA Z h b k ty z f) (W : Wr h h' a sl v) (q : b ≠ a) : PA Z h' b k ty z f := by obtain ⟨c, A, r⟩ := F; exact ⟨c, A.other W q, r⟩
theorem PA.keep (F : PA Z h a k ty z f) (K : Keep h h' ws) (q : a ∉ ws) : PA Z h' a k ty z f := by obtain ⟨c, A, r⟩ := F; exact ⟨c, ⟨K.2.1 a c A.1 q, A.2⟩, r⟩
theorem PA.set {j : Nat} {y : Int32} (F : PA Z h a k ty z f) (hy : fits ty (.int y) = true) (W : Wr h h' a j (.int y)) : PA Z h' a k ty z (fun i => if i = j then y else f i) := by
  obtain ⟨c, A, r1, r2, r3, r4, r5⟩ := F
  obtain ⟨c', e1, e2, e3, e4, e5, e6, e7⟩ := wr_at W A.1
  have sz : (c.setSlot j (.int y)).slots.size = c.slots.size := sz_set _ _ _
  refine ⟨c.setSlot j (.int y), Arr.same W A, r1, by rw [sz]; exact r2, r3, fun i hi => ?_, fun i hi => ?_⟩
  · by_cases q : i = j
    · subst q
      show _ = some (Value.int (if i = i then y else f i))
      rw [if_pos rfl, ← (e7 rfl).1]; exact (e7 rfl).2.1
    · show _ = some (Value.int (if i = j then y else f i))
      rw [if_neg q, ← (e7 rfl).1, e6 i q]; exact r4 i (by rw [← sz]; exact hi)
  · show fits ty (.int (if i = j then y else f i)) = true
    by_cases q : i = j
    · rw [if_pos q]; exact hy
    · rw [if_neg q]; exact r5 i (by rw [← sz]; exact hi)
theorem PA.of {vs : List Value} {d : Value} (F : Arv Z h a k ty z vs d) (hv : ∀ j, j < z.toNatClampNeg → vs.getD j d = .int (f j)) : PA Z h a k ty z f := by
  obtain ⟨c, A, r1, r2, r3, r4, r5⟩ := F
  exact ⟨c, A, r1, r2, r3, fun j hj => by rw [r4 j hj, hv j (by rw [← r2]; exact hj)], fun j hj => by rw [← hv j (by rw [← r2]; exact hj)]; exact r5 j hj⟩
theorem PA.arv {vs : List Value} {d : Value} (F : PA Z h a k ty z f) (hv : ∀ j, j < z.toNatClampNeg → vs.getD j d = .int (f j)) : Arv Z h a k ty z vs d := by
  obtain ⟨c, A, r1, r2, r3, r4, r5⟩ := F
  exact ⟨c, A, r1, r2, r3, fun j hj => by rw [r4 j hj, hv j (by rw [← r2]; exact hj)], fun j hj => by rw [hv j (by rw [← r2]; exact hj)]; exact r5 j hj⟩
end PAs
theorem own_in {c : Cell} {j z : Int32} (hs : c.slots.size = z.toNatClampNeg) (h0 : 0 ≤ j.toInt) (h1 : j.toInt < z.toInt) : ¬ (j < 0 ∨ c.slots.size ≤ j.toNatClampNeg) :=
  inb_of hs ⟨by have z0 : (0 : Int32).toInt = 0 := rfl; rw [Int32.lt_iff_toInt_lt, z0]; omega, by rw [Int32.lt_iff_toInt_lt]; exact h1⟩
theorem own_nat {j : Int32} (h0 : 0 ≤ j.toInt) : (j.toNatClampNeg : Int) = j.toInt := by
  have z0 : (0 : Int32).toInt = 0 := rfl
  exact (nat_of (by rw [Int32.lt_iff_toInt_lt, z0]; omega)).symm
theorem own_lt {c : Cell} {j z : Int32} (hs : c.slots.size = z.toNatClampNeg) (h0 : 0 ≤ j.toInt) (h1 : j.toInt < z.toInt) : j.toNatClampNeg < c.slots.size := by
  have a := own_nat h0
  have b := own_nat (j := z) (by omega)
  omega
theorem own_dbl {j : Int32} (h0 : 0 ≤ j.toInt) (h1 : j.toInt < 1000000) : (j <<< ((1 : Int32) &&& 31)).toInt = 2 * j.toInt := by
  have h := c_ishl j 1 1 (by decide)
  have r := rng32 (j <<< ((1 : Int32) &&& 31))
  omega
theorem own_half {j : Int32} : (j >>> ((1 : Int32) &&& 31)).toInt = j.toInt / 2 := c_ishr j 1 1 (by decide)
theorem own_inc {j : Int32} (h0 : 0 ≤ j.toInt) (h1 : j.toInt < 1000000) : (j + (1 : Int32)).toInt = j.toInt + 1 := by
  have h := c_iadd j 1
  have r := rng32 (j + (1 : Int32))
  have e : (1 : Int32).toInt = 1 := rfl
  rw [e] at h
  omega
theorem d28_0 : decode jdk_52_method_4_code 0 = .ok (.getstatic 44, 3) := by decide +kernel
theorem d28_3 : decode jdk_52_method_4_code 3 = .ok (.ifCond .ne 25, 3) := by decide +kernel
theorem d28_28 : decode jdk_52_method_4_code 28 = .ok (.iload_n 1, 1) := by decide +kernel
theorem d28_29 : decode jdk_52_method_4_code 29 = .ok (.iconst 1, 1) := by decide +kernel
theorem d28_30 : decode jdk_52_method_4_code 30 = .ok (.ishl, 1) := by decide +kernel
theorem d28_31 : decode jdk_52_method_4_code 31 = .ok (.istore_n 1, 1) := by decide +kernel
theorem d28_32 : decode jdk_52_method_4_code 32 = .ok (.aload_n 0, 1) := by decide +kernel
theorem d28_33 : decode jdk_52_method_4_code 33 = .ok (.iload_n 1, 1) := by decide +kernel
theorem d28_34 : decode jdk_52_method_4_code 34 = .ok (.iinc 1 1, 3) := by decide +kernel
theorem d28_37 : decode jdk_52_method_4_code 37 = .ok (.iload_n 2, 1) := by decide +kernel
theorem d28_38 : decode jdk_52_method_4_code 38 = .ok (.getstatic 59, 3) := by decide +kernel
theorem d28_41 : decode jdk_52_method_4_code 41 = .ok (.ishr, 1) := by decide +kernel
theorem d28_42 : decode jdk_52_method_4_code 42 = .ok (.i2b, 1) := by decide +kernel
theorem d28_43 : decode jdk_52_method_4_code 43 = .ok (.bastore, 1) := by decide +kernel
theorem d28_44 : decode jdk_52_method_4_code 44 = .ok (.aload_n 0, 1) := by decide +kernel
theorem d28_45 : decode jdk_52_method_4_code 45 = .ok (.iload_n 1, 1) := by decide +kernel
theorem d28_46 : decode jdk_52_method_4_code 46 = .ok (.iload_n 2, 1) := by decide +kernel
theorem d28_47 : decode jdk_52_method_4_code 47 = .ok (.getstatic 63, 3) := by decide +kernel
theorem d28_50 : decode jdk_52_method_4_code 50 = .ok (.ishr, 1) := by decide +kernel
theorem d28_51 : decode jdk_52_method_4_code 51 = .ok (.i2b, 1) := by decide +kernel
theorem d28_52 : decode jdk_52_method_4_code 52 = .ok (.bastore, 1) := by decide +kernel
theorem d28_53 : decode jdk_52_method_4_code 53 = .ok (.return_, 1) := by decide +kernel
theorem pn_0 : plainName "java/lang/StringUTF16" = true := by first | (simp [plainName, overriddenIn]; done) | decide +kernel
theorem ef_rm28 (m : MethodId) (x0 : Addr) (x1 : Int32) (x2 : Int32) : entryFrame m #[(.ref x0), (.int x1), (.int x2)] 3 = mkF m 0 #[.val (.ref x0), .val (.int x1), .val (.int x2)] [] := by first | (simp [entryFrame, mkF, argsToLocals, Value.category]; done) | rfl
def Q28 (Z : State) (ar : Addr) (pj : Int32) (pc : Int32) (kb : ClassId) (z : Int32) (f : Nat → Int32) (h0 : Heap) (n0 : Nat) (v : Option Value) (h : Heap) (L : List Loc) : Prop := ∃ g : Nat → Int32, v = none ∧ Fr n0 L ∧ Keep h0 h [ar] ∧ PA Z h ar kb .byte z g ∧ ∀ i : Nat, g i = if (i : Int) = 2 * pj.toInt then (StrChars.lo8 pc) else if (i : Int) = 2 * pj.toInt + 1 then (StrChars.hi8 pc) else f i
set_option maxRecDepth 65536 in
set_option maxHeartbeats 40000000 in
theorem rm28 (l : Launch) (Z : State) (a0 : Array Value) (hw : ∀ d ∈ tables_1, d.before a0 Z = true) (ws : List Jvm.Cond) (ar : Addr) (pj : Int32) (pc : Int32) (kb : ClassId) (z : Int32) (f : Nat → Int32) (h0 : Heap) (n0 : Nat) (Z0 : n0 ≤ h0.size) (V0 : PA Z h0 ar kb .byte z f) (g_ar : n0 ≤ ar) (S_ad : Sta Z h0 "java/lang/StringUTF16" "$assertionsDisabled" "Z" (.int (1 : Int32))) (S_hi : Sta Z h0 "java/lang/StringUTF16" "HI_BYTE_SHIFT" "I" (.int (0 : Int32))) (S_lo : Sta Z h0 "java/lang/StringUTF16" "LO_BYTE_SHIFT" "I" (.int (8 : Int32))) (ja : 0 ≤ pj.toInt) (jb : pj.toInt < 100000) (jz : 2 * pj.toInt + 1 < z.toInt) :
    MetFree l (⟨"java/lang/StringUTF16", "putChar", "([BII)V"⟩ : MethodName) (head1 (Jvm.Cond.code (⟨"java/lang/StringUTF16", "putChar", "([BII)V"⟩ : MethodName) jdk_52_method_4_code 3 none :: ws) ({ frames := 0, cells := 0, slots := 0, locals := 0 } : Room)) (fun a U => a = #[(.ref ar), (.int pj), (.int pc)] ∧ Z.Warmed39 U.vm ∧ U.heap = h0) (fun _ _ _ _ _ => True) (fun _ U o U' => ∃ v L, o = .returned v ∧ Q28 Z ar pj pc kb z f h0 n0 v U'.heap L ∧ FrameEnd U o U' L ({ frames := 0, cells := 0, slots := 0, locals := 0 } : Room).cells ({ frames := 0, cells := 0, slots := 0, locals := 0 } : Room).slots) := by
  refine MetFree.of_bodySF (plainFor_of_name pn_0) hisR ?_
  intro p e s m args below meth c s₁ Bd hml0 hP hK
  obtain ⟨rfl, hZ, hh⟩ := hP
  have hx := Bd.exec
  have hby := Bd.bytes
  have hml : c.maxLocals = 3 := hml0
  have hown : s.vm.findClass "java/lang/StringUTF16" = some m.cls := findClass_of_methodNamed Bd.named
  have hnm := (name_of_methodNamed Bd.named Bd.method).1
  have X0 : Stand p l e ({ frames := 0, cells := 0, slots := 0, locals := 0 } : Room) s m #[(.ref ar), (.int pj), (.int pc)] below meth c s₁ [] 0 0 := Stand.of_body Bd
  have e0 : s₁.heap = h0 := by rw [← hh, Bd.state]; rfl
  have N0 := Fr.nil n0
  have pre0 : ∀ t, Steps p.tables e below (s₁.setTop (mkF m 0 #[.val (.ref ar), .val (.int pj), .val (.int pc)] [])) t → Steps p.tables e below (s₁.setTop (entryFrame m #[(.ref ar), (.int pj), (.int pc)] 3)) t := fun t k => castTop (ef_rm28 m ar pj pc) k
  obtain ⟨T1, X1, e1, st1⟩ := getS2 X0 hx hZ hown (host := "") (Or.inl (hw _ (List.mem_of_getElem? (i := 133) rfl))) Via.refl e0 S_ad (g := (mkF m 0 #[.val (.ref ar), .val (.int pj), .val (.int pc)] [])) rfl (hb hby d28_0)
  obtain ⟨T2, X2, e2, st2⟩ := getS2 X1 hx hZ hown (host := "") (Or.inl (hw _ (List.mem_of_getElem? (i := 134) rfl))) Via.refl e1 S_hi (g := (mkF m 38 #[.val (.ref ar), .val (.int ((pj <<< ((1 : Int32) &&& 31)) + (1 : Int32))), .val (.int pc)] [(.int pc), (.int (pj <<< ((1 : Int32) &&& 31))), (.ref ar)])) rfl (hb hby d28_38)
  have Vk3 := V0
  obtain ⟨cl3, Ar3, hc3c, hz3, hn3n, he3, hg3g⟩ := Vk3
  have hin3 := own_in hz3 (j := (pj <<< ((1 : Int32) &&& 31))) (by rw [own_dbl ja (by omega)]; omega) (by rw [own_dbl ja (by omega)]; omega)
  obtain ⟨T4, h4, X4, e4, W4, st4⟩ := stB X2 hx hZ e2 Ar3 (j := (pj <<< ((1 : Int32) &&& 31))) hin3 (g := (mkF m 43 #[.val (.ref ar), .val (.int ((pj <<< ((1 : Int32) &&& 31)) + (1 : Int32))), .val (.int pc)] [(.int ((pc >>> ((0 : Int32) &&& 31)).toInt8.toInt32)), (.int (pj <<< ((1 : Int32) &&& 31))), (.ref ar)])) rfl rfl (hb hby d28_43)
  rw [own_lo] at W4
  have Kc4 : Keep h0 h4 [ar] := (Keep.refl h0 [ar]).wr W4 (Or.inl (List.mem_of_getElem? (i := 0) rfl))
  have N4 := Fr.snoc X4 N0 g_ar
  obtain ⟨g4f, hf_g4f⟩ : ∃ gq : Nat → Int32, gq = fun i => if i = (pj <<< ((1 : Int32) &&& 31)).toNatClampNeg then (StrChars.lo8 pc) else f i := ⟨_, rfl⟩
  have V4 : PA Z h4 ar kb .byte z g4f := by rw [hf_g4f]; exact PA.set (f := f) V0 (StrChars.fits_lo8 _) W4
  obtain ⟨T5, X5, e5, st5⟩ := getS2 X4 hx hZ hown (host := "") (Or.inl (hw _ (List.mem_of_getElem? (i := 135) rfl))) Via.refl e4 (S_lo.wr W4) (g := (mkF m 47 #[.val (.ref ar), .val (.int ((pj <<< ((1 : Int32) &&& 31)) + (1 : Int32))), .val (.int pc)] [(.int pc), (.int ((pj <<< ((1 : Int32) &&& 31)) + (1 : Int32))), (.ref ar)])) rfl (hb hby d28_47)
  have Vk6 := V4
  obtain ⟨cl6, Ar6, hc6c, hz6, hn6n, he6, hg6g⟩ := Vk6
  have hin6 := own_in hz6 (j := ((pj <<< ((1 : Int32) &&& 31)) + (1 : Int32))) (by rw [own_inc (by rw [own_dbl ja (by omega)]; omega) (by rw [own_dbl ja (by omega)]; omega), own_dbl ja (by omega)]; omega) (by rw [own_inc (by rw [own_dbl ja (by omega)]; omega) (by rw [own_dbl ja (by omega)]; omega), own_dbl ja (by omega)]; omega)
  obtain ⟨T7, h7, X7, e7, W7, st7⟩ := stB X5 hx hZ e5 Ar6 (j := ((pj <<< ((1 : Int32) &&& 31)) + (1 : Int32))) hin6 (g := (mkF m 52 #[.val (.ref ar), .val (.int ((pj <<< ((1 : Int32) &&& 31)) + (1 : Int32))), .val (.int pc)] [(.int ((pc >>> ((8 : Int32) &&& 31)).toInt8.toInt32)), (.int ((pj <<< ((1 : Int32) &&& 31)) + (1 : Int32))), (.ref ar)])) rfl rfl (hb hby d28_52)
  rw [own_hi] at W7
  have Kc7 : Keep h0 h7 [ar] := Kc4.wr W7 (Or.inl (List.mem_of_getElem? (i := 0) rfl))
  have N7 := Fr.snoc X7 N4 g_ar
  obtain ⟨g7f, hf_g7f⟩ : ∃ gq : Nat → Int32, gq = fun i => if i = ((pj <<< ((1 : Int32) &&& 31)) + (1 : Int32)).toNatClampNeg then (StrChars.hi8 pc) else g4f i := ⟨_, rfl⟩
  have V7 : PA Z h7 ar kb .byte z g7f := by rw [hf_g7f]; exact PA.set (f := g4f) V4 (StrChars.fits_lo8 _) W7
  obtain ⟨fs, hr, hrun, hended, hW, hsame⟩ := X7.leave (v := none) (fun _ => rfl)
  refine ⟨_, _, pre0 _ ?_, hrun, hended, _, _, rfl, ?_, ⟨_, rfl⟩, hW, hsame.mono (by decide) (by decide)⟩
  · show Steps p.tables e below (s₁.setTop (mkF m 0 #[.val (.ref ar), .val (.int pj), .val (.int pc)] [])) _
    refine st1 _ ?_
    show Steps p.tables e below (T1.setTop (mkF m 3 #[.val (.ref ar), .val (.int pj), .val (.int pc)] [(.int (1 : Int32))])) _
    refine XS.ifYes X1.here hx rfl (pc0 := 3) (pc' := 28) rfl (hb hby d28_3) rfl ((if0 _ _).trans (feq (by decide : ¬ ((1 : Int32) = (0 : Int32)))).2) (by decide) (by decide) ?_
    show Steps p.tables e below (T1.setTop (mkF m 28 #[.val (.ref ar), .val (.int pj), .val (.int pc)] [])) _
    refine XS.iloadN X1.here hx rfl (hb hby d28_28) rfl ?_
    show Steps p.tables e below (T1.setTop (mkF m 29 #[.val (.ref ar), .val (.int pj), .val (.int pc)] [(.int pj)])) _
    refine XS.iconst X1.here hx rfl (hb hby d28_29) ?_
    show Steps p.tables e below (T1.setTop (mkF m 30 #[.val (.ref ar), .val (.int pj), .val (.int pc)] [(.int (1 : Int32)), (.int pj)])) _
    refine XS.ishl X1.here hx rfl (hb hby d28_30) rfl ?_
    show Steps p.tables e below (T1.setTop (mkF m 31 #[.val (.ref ar), .val (.int pj), .val (.int pc)] [(.int (pj <<< ((1 : Int32) &&& 31)))])) _
    refine XS.istoreN X1.here hx rfl (hb hby d28_31) rfl (l' := #[.val (.ref ar), .val (.int (pj <<< ((1 : Int32) &&& 31))), .val (.int pc)]) rfl ?_
    show Steps p.tables e below (T1.setTop (mkF m 32 #[.val (.ref ar), .val (.int (pj <<< ((1 : Int32) &&& 31))), .val (.int pc)] [])) _
    refine XS.aloadN X1.here hx rfl (hb hby d28_32) rfl rfl ?_
    show Steps p.tables e below (T1.setTop (mkF m 33 #[.val (.ref ar), .val (.int (pj <<< ((1 : Int32) &&& 31))), .val (.int pc)] [(.ref ar)])) _
    refine XS.iloadN X1.here hx rfl (hb hby d28_33) rfl ?_
    show Steps p.tables e below (T1.setTop (mkF m 34 #[.val (.ref ar), .val (.int (pj <<< ((1 : Int32) &&& 31))), .val (.int pc)] [(.int (pj <<< ((1 : Int32) &&& 31))), (.ref ar)])) _
    refine XS.iinc X1.here hx rfl (hb hby d28_34) rfl (l' := #[.val (.ref ar), .val (.int ((pj <<< ((1 : Int32) &&& 31)) + (1 : Int32))), .val (.int pc)]) rfl ?_
    show Steps p.tables e below (T1.setTop (mkF m 37 #[.val (.ref ar), .val (.int ((pj <<< ((1 : Int32) &&& 31)) + (1 : Int32))), .val (.int pc)] [(.int (pj <<< ((1 : Int32) &&& 31))), (.ref ar)])) _
    refine XS.iloadN X1.here hx rfl (hb hby d28_37) rfl ?_
    show Steps p.tables e below (T1.setTop (mkF m 38 #[.val (.ref ar), .val (.int ((pj <<< ((1 : Int32) &&& 31)) + (1 : Int32))), .val (.int pc)] [(.int pc), (.int (pj <<< ((1 : Int32) &&& 31))), (.ref ar)])) _
    refine st2 _ ?_
    show Steps p.tables e below (T2.setTop (mkF m 41 #[.val (.ref ar), .val (.int ((pj <<< ((1 : Int32) &&& 31)) + (1 : Int32))), .val (.int pc)] [(.int (0 : Int32)), (.int pc), (.int (pj <<< ((1 : Int32) &&& 31))), (.ref ar)])) _
    refine XS.ishr X2.here hx rfl (hb hby d28_41) rfl ?_
    show Steps p.tables e below (T2.setTop (mkF m 42 #[.val (.ref ar), .val (.int ((pj <<< ((1 : Int32) &&& 31)) + (1 : Int32))), .val (.int pc)] [(.int (pc >>> ((0 : Int32) &&& 31))), (.int (pj <<< ((1 : Int32) &&& 31))), (.ref ar)])) _
    refine XS.i2b X2.here hx rfl (hb hby d28_42) rfl ?_
    show Steps p.tables e below (T2.setTop (mkF m 43 #[.val (.ref ar), .val (.int ((pj <<< ((1 : Int32) &&& 31)) + (1 : Int32))), .val (.int pc)] [(.int ((pc >>> ((0 : Int32) &&& 31)).toInt8.toInt32)), (.int (pj <<< ((1 : Int32) &&& 31))), (.ref ar)])) _
    refine st4 _ ?_
    show Steps p.tables e below (T4.setTop (mkF m 44 #[.val (.ref ar), .val (.int ((pj <<< ((1 : Int32) &&& 31)) + (1 : Int32))), .val (.int pc)] [])) _
    refine XS.aloadN X4.here hx rfl (hb hby d28_44) rfl rfl ?_
    show Steps p.tables e below (T4.setTop (mkF m 45 #[.val (.ref ar), .val (.int ((pj <<< ((1 : Int32) &&& 31)) + (1 : Int32))), .val (.int pc)] [(.ref ar)])) _
    refine XS.iloadN X4.here hx rfl (hb hby d28_45) rfl ?_
    show Steps p.tables e below (T4.setTop (mkF m 46 #[.val (.ref ar), .val (.int ((pj <<< ((1 : Int32) &&& 31)) + (1 : Int32))), .val (.int pc)] [(.int ((pj <<< ((1 : Int32) &&& 31)) + (1 : Int32))), (.ref ar)])) _
    refine XS.iloadN X4.here hx rfl (hb hby d28_46) rfl ?_
    show Steps p.tables e below (T4.setTop (mkF m 47 #[.val (.ref ar), .val (.int ((pj <<< ((1 : Int32) &&& 31)) + (1 : Int32))), .val (.int pc)] [(.int pc), (.int ((pj <<< ((1 : Int32) &&& 31)) + (1 : Int32))), (.ref ar)])) _
    refine st5 _ ?_
    show Steps p.tables e below (T5.setTop (mkF m 50 #[.val (.ref ar), .val (.int ((pj <<< ((1 : Int32) &&& 31)) + (1 : Int32))), .val (.int pc)] [(.int (8 : Int32)), (.int pc), (.int ((pj <<< ((1 : Int32) &&& 31)) + (1 : Int32))), (.ref ar)])) _
    refine XS.ishr X5.here hx rfl (hb hby d28_50) rfl ?_
    show Steps p.tables e below (T5.setTop (mkF m 51 #[.val (.ref ar), .val (.int ((pj <<< ((1 : Int32) &&& 31)) + (1 : Int32))), .val (.int pc)] [(.int (pc >>> ((8 : Int32) &&& 31))), (.int ((pj <<< ((1 : Int32) &&& 31)) + (1 : Int32))), (.ref ar)])) _
    refine XS.i2b X5.here hx rfl (hb hby d28_51) rfl ?_
    show Steps p.tables e below (T5.setTop (mkF m 52 #[.val (.ref ar), .val (.int ((pj <<< ((1 : Int32) &&& 31)) + (1 : Int32))), .val (.int pc)] [(.int ((pc >>> ((8 : Int32) &&& 31)).toInt8.toInt32)), (.int ((pj <<< ((1 : Int32) &&& 31)) + (1 : Int32))), (.ref ar)])) _
    refine st7 _ ?_
    show Steps p.tables e below (T7.setTop (mkF m 53 #[.val (.ref ar), .val (.int ((pj <<< ((1 : Int32) &&& 31)) + (1 : Int32))), .val (.int pc)] [])) _
    exact X7.returnOut hx Bd.returns (hb hby d28_53) hr
  · show Q28 Z ar pj pc kb z f h0 n0 _ T7.heap _
    rw [e7]
    refine ⟨_, rfl, N7, Kc7, V7, fun i => ?_⟩
    have d1 := own_dbl ja (by omega)
    have d2 := own_inc (j := (pj <<< ((1 : Int32) &&& 31))) (by rw [d1]; omega) (by rw [d1]; omega)
    have e1 := own_nat (j := (pj <<< ((1 : Int32) &&& 31))) (by rw [d1]; omega)
    have e2 := own_nat (j := (pj <<< ((1 : Int32) &&& 31)) + (1 : Int32)) (by rw [d2, d1]; omega)
    rw [hf_g7f]
    show (if i = ((pj <<< ((1 : Int32) &&& 31)) + (1 : Int32)).toNatClampNeg then (StrChars.hi8 pc) else g4f i) = _
    rw [hf_g4f]
    show (if i = ((pj <<< ((1 : Int32) &&& 31)) + (1 : Int32)).toNatClampNeg then (StrChars.hi8 pc) else if i = (pj <<< ((1 : Int32) &&& 31)).toNatClampNeg then (StrChars.lo8 pc) else f i) = _
    repeat' split
    all_goals first | rfl | (exfalso; omega)
theorem d29_0 : decode jdk_52_method_5_code 0 = .ok (.getstatic 44, 3) := by decide +kernel
theorem d29_3 : decode jdk_52_method_5_code 3 = .ok (.ifCond .ne 25, 3) := by decide +kernel
theorem d29_28 : decode jdk_52_method_5_code 28 = .ok (.iload_n 1, 1) := by decide +kernel
theorem d29_29 : decode jdk_52_method_5_code 29 = .ok (.iconst 1, 1) := by decide +kernel
theorem d29_30 : decode jdk_52_method_5_code 30 = .ok (.ishl, 1) := by decide +kernel
theorem d29_31 : decode jdk_52_method_5_code 31 = .ok (.istore_n 1, 1) := by decide +kernel
theorem d29_32 : decode jdk_52_method_5_code 32 = .ok (.aload_n 0, 1) := by decide +kernel
theorem d29_33 : decode jdk_52_method_5_code 33 = .ok (.iload_n 1, 1) := by decide +kernel
theorem d29_34 : decode jdk_52_method_5_code 34 = .ok (.iinc 1 1, 3) := by decide +kernel
theorem d29_37 : decode jdk_52_method_5_code 37 = .ok (.baload, 1) := by decide +kernel
theorem d29_38 : decode jdk_52_method_5_code 38 = .ok (.sipush 255, 3) := by decide +kernel
theorem d29_41 : decode jdk_52_method_5_code 41 = .ok (.iand, 1) := by decide +kernel
theorem d29_42 : decode jdk_52_method_5_code 42 = .ok (.getstatic 59, 3) := by decide +kernel
theorem d29_45 : decode jdk_52_method_5_code 45 = .ok (.ishl, 1) := by decide +kernel
theorem d29_46 : decode jdk_52_method_5_code 46 = .ok (.aload_n 0, 1) := by decide +kernel
theorem d29_47 : decode jdk_52_method_5_code 47 = .ok (.iload_n 1, 1) := by decide +kernel
theorem d29_48 : decode jdk_52_method_5_code 48 = .ok (.baload, 1) := by decide +kernel
theorem d29_49 : decode jdk_52_method_5_code 49 = .ok (.sipush 255, 3) := by decide +kernel
theorem d29_52 : decode jdk_52_method_5_code 52 = .ok (.iand, 1) := by decide +kernel
theorem d29_53 : decode jdk_52_method_5_code 53 = .ok (.getstatic 63, 3) := by decide +kernel
theorem d29_56 : decode jdk_52_method_5_code 56 = .ok (.ishl, 1) := by decide +kernel
theorem d29_57 : decode jdk_52_method_5_code 57 = .ok (.ior, 1) := by decide +kernel
theorem d29_58 : decode jdk_52_method_5_code 58 = .ok (.i2c, 1) := by decide +kernel
theorem d29_59 : decode jdk_52_method_5_code 59 = .ok (.ireturn, 1) := by decide +kernel
theorem ef_rm29 (m : MethodId) (x0 : Addr) (x1 : Int32) : entryFrame m #[(.ref x0), (.int x1)] 2 = mkF m 0 #[.val (.ref x0), .val (.int x1)] [] := by first | (simp [entryFrame, mkF, argsToLocals, Value.category]; done) | rfl
def Q29 (Z : State) (ar : Addr) (pj : Int32) (kb : ClassId) (z : Int32) (f : Nat → Int32) (ch : Int32) (h0 : Heap) (n0 : Nat) (v : Option Value) (h : Heap) (L : List Loc) : Prop := v = some (.int ch) ∧ Fr n0 L ∧ h = h0
set_option maxRecDepth 65536 in
set_option maxHeartbeats 40000000 in
theorem rm29 (l : Launch) (Z : State) (a0 : Array Value) (hw : ∀ d ∈ tables_1, d.before a0 Z = true) (ws : List Jvm.Cond) (ar : Addr) (pj : Int32) (kb : ClassId) (z : Int32) (f : Nat → Int32) (ch : Int32) (h0 : Heap) (n0 : Nat) (Z0 : n0 ≤ h0.size) (V0 : PA Z h0 ar kb .byte z f) (S_ad : Sta Z h0 "java/lang/StringUTF16" "$assertionsDisabled" "Z" (.int (1 : Int32))) (S_hi : Sta Z h0 "java/lang/StringUTF16" "HI_BYTE_SHIFT" "I" (.int (0 : Int32))) (S_lo : Sta Z h0 "java/lang/StringUTF16" "LO_BYTE_SHIFT" "I" (.int (8 : Int32))) (ja : 0 ≤ pj.toInt) (jb : pj.toInt < 100000) (jz : 2 * pj.toInt + 1 < z.toInt) (cha : ¬ ch < 0) (chb : ¬ (65535 : Int32) < ch) (hl : ∀ i : Nat, (i : Int) = 2 * pj.toInt → f i = (StrChars.lo8 ch)) (hh2 : ∀ i : Nat, (i : Int) = 2 * pj.toInt + 1 → f i = (StrChars.hi8 ch)) :
    MetFree l (⟨"java/lang/StringUTF16", "getChar", "([BI)C"⟩ : MethodName) (head1 (Jvm.Cond.code (⟨"java/lang/StringUTF16", "getChar", "([BI)C"⟩ : MethodName) jdk_52_method_5_code 2 (some .char) :: ws) ({ frames := 0, cells := 0, slots := 0, locals := 0 } : Room)) (fun a U => a = #[(.ref ar), (.int pj)] ∧ Z.Warmed39 U.vm ∧ U.heap = h0) (fun _ _ _ _ _ => True) (fun _ U o U' => ∃ v L, o = .returned v ∧ Q29 Z ar pj kb z f ch h0 n0 v U'.heap L ∧ FrameEnd U o U' L ({ frames := 0, cells := 0, slots := 0, locals := 0 } : Room).cells ({ frames := 0, cells := 0, slots := 0, locals := 0 } : Room).slots) := by
  refine MetFree.of_bodySF (plainFor_of_name pn_0) hisR ?_
  intro p e s m args below meth c s₁ Bd hml0 hP hK
  obtain ⟨rfl, hZ, hh⟩ := hP
  have hx := Bd.exec
  have hby := Bd.bytes
  have hml : c.maxLocals = 2 := hml0
  have hown : s.vm.findClass "java/lang/StringUTF16" = some m.cls := findClass_of_methodNamed Bd.named
  have hnm := (name_of_methodNamed Bd.named Bd.method).1
  have X0 : Stand p l e ({ frames := 0, cells := 0, slots := 0, locals := 0 } : Room) s m #[(.ref ar), (.int pj)] below meth c s₁ [] 0 0 := Stand.of_body Bd
  have e0 : s₁.heap = h0 := by rw [← hh, Bd.state]; rfl
  have N0 := Fr.nil n0
  have pre0 : ∀ t, Steps p.tables e below (s₁.setTop (mkF m 0 #[.val (.ref ar), .val (.int pj)] [])) t → Steps p.tables e below (s₁.setTop (entryFrame m #[(.ref ar), (.int pj)] 2)) t := fun t k => castTop (ef_rm29 m ar pj) k
  obtain ⟨T1, X1, e1, st1⟩ := getS2 X0 hx hZ hown (host := "") (Or.inl (hw _ (List.mem_of_getElem? (i := 133) rfl))) Via.refl e0 S_ad (g := (mkF m 0 #[.val (.ref ar), .val (.int pj)] [])) rfl (hb hby d29_0)
  obtain ⟨cl2, Ar2, hc2c, hz2, hn2n, he2, hg2g⟩ := (id V0)
  have hin2 := own_in hz2 (j := (pj <<< ((1 : Int32) &&& 31))) (by rw [own_dbl ja (by omega)]; omega) (by rw [own_dbl ja (by omega)]; omega)
  have hat2 : cl2.slots[(pj <<< ((1 : Int32) &&& 31)).toNatClampNeg]? = some (.int (f (pj <<< ((1 : Int32) &&& 31)).toNatClampNeg)) := he2 _ (own_lt hz2 (by rw [own_dbl ja (by omega)]; omega) (by rw [own_dbl ja (by omega)]; omega))
  obtain ⟨T3, X3, e3, st3⟩ := getS2 X1 hx hZ hown (host := "") (Or.inl (hw _ (List.mem_of_getElem? (i := 134) rfl))) Via.refl e1 S_hi (g := (mkF m 42 #[.val (.ref ar), .val (.int ((pj <<< ((1 : Int32) &&& 31)) + (1 : Int32)))] [(.int ((f (pj <<< ((1 : Int32) &&& 31)).toNatClampNeg) &&& (255 : Int32)))])) rfl (hb hby d29_42)
  obtain ⟨cl4, Ar4, hc4c, hz4, hn4n, he4, hg4g⟩ := (id V0)
  have hin4 := own_in hz4 (j := ((pj <<< ((1 : Int32) &&& 31)) + (1 : Int32))) (by rw [own_inc (by rw [own_dbl ja (by omega)]; omega) (by rw [own_dbl ja (by omega)]; omega), own_dbl ja (by omega)]; omega) (by rw [own_inc (by rw [own_dbl ja (by omega)]; omega) (by rw [own_dbl ja (by omega)]; omega), own_dbl ja (by omega)]; omega)
  have hat4 : cl4.slots[((pj <<< ((1 : Int32) &&& 31)) + (1 : Int32)).toNatClampNeg]? = some (.int (f ((pj <<< ((1 : Int32) &&& 31)) + (1 : Int32)).toNatClampNeg)) := he4 _ (own_lt hz4 (by rw [own_inc (by rw [own_dbl ja (by omega)]; omega) (by rw [own_dbl ja (by omega)]; omega), own_dbl ja (by omega)]; omega) (by rw [own_inc (by rw [own_dbl ja (by omega)]; omega) (by rw [own_dbl ja (by omega)]; omega), own_dbl ja (by omega)]; omega))
  obtain ⟨T5, X5, e5, st5⟩ := getS2 X3 hx hZ hown (host := "") (Or.inl (hw _ (List.mem_of_getElem? (i := 135) rfl))) Via.refl e3 S_lo (g := (mkF m 53 #[.val (.ref ar), .val (.int ((pj <<< ((1 : Int32) &&& 31)) + (1 : Int32)))] [(.int ((f ((pj <<< ((1 : Int32) &&& 31)) + (1 : Int32)).toNatClampNeg) &&& (255 : Int32))), (.int (((f (pj <<< ((1 : Int32) &&& 31)).toNatClampNeg) &&& (255 : Int32)) <<< ((0 : Int32) &&& 31)))])) rfl (hb hby d29_53)
  obtain ⟨fs, hr, hrun, hended, hW, hsame⟩ := X5.leave (v := some (.int (nar .char (((((f (pj <<< ((1 : Int32) &&& 31)).toNatClampNeg) &&& (255 : Int32)) <<< ((0 : Int32) &&& 31)) ||| (((f ((pj <<< ((1 : Int32) &&& 31)) + (1 : Int32)).toNatClampNeg) &&& (255 : Int32)) <<< ((8 : Int32) &&& 31))).toUInt32.toUInt16.toUInt32.toInt32)))) (fun h => by rw [Bd.returns] at h; cases h)
  refine ⟨_, _, pre0 _ ?_, hrun, hended, _, _, rfl, ?_, ⟨_, rfl⟩, hW, hsame.mono (by decide) (by decide)⟩
  · show Steps p.tables e below (s₁.setTop (mkF m 0 #[.val (.ref ar), .val (.int pj)] [])) _
    refine st1 _ ?_
    show Steps p.tables e below (T1.setTop (mkF m 3 #[.val (.ref ar), .val (.int pj)] [(.int (1 : Int32))])) _
    refine XS.ifYes X1.here hx rfl (pc0 := 3) (pc' := 28) rfl (hb hby d29_3) rfl ((if0 _ _).trans (feq (by decide : ¬ ((1 : Int32) = (0 : Int32)))).2) (by decide) (by decide) ?_
    show Steps p.tables e below (T1.setTop (mkF m 28 #[.val (.ref ar), .val (.int pj)] [])) _
    refine XS.iloadN X1.here hx rfl (hb hby d29_28) rfl ?_
    show Steps p.tables e below (T1.setTop (mkF m 29 #[.val (.ref ar), .val (.int pj)] [(.int pj)])) _
    refine XS.iconst X1.here hx rfl (hb hby d29_29) ?_
    show Steps p.tables e below (T1.setTop (mkF m 30 #[.val (.ref ar), .val (.int pj)] [(.int (1 : Int32)), (.int pj)])) _
    refine XS.ishl X1.here hx rfl (hb hby d29_30) rfl ?_
    show Steps p.tables e below (T1.setTop (mkF m 31 #[.val (.ref ar), .val (.int pj)] [(.int (pj <<< ((1 : Int32) &&& 31)))])) _
    refine XS.istoreN X1.here hx rfl (hb hby d29_31) rfl (l' := #[.val (.ref ar), .val (.int (pj <<< ((1 : Int32) &&& 31)))]) rfl ?_
    show Steps p.tables e below (T1.setTop (mkF m 32 #[.val (.ref ar), .val (.int (pj <<< ((1 : Int32) &&& 31)))] [])) _
    refine XS.aloadN X1.here hx rfl (hb hby d29_32) rfl rfl ?_
    show Steps p.tables e below (T1.setTop (mkF m 33 #[.val (.ref ar), .val (.int (pj <<< ((1 : Int32) &&& 31)))] [(.ref ar)])) _
    refine XS.iloadN X1.here hx rfl (hb hby d29_33) rfl ?_
    show Steps p.tables e below (T1.setTop (mkF m 34 #[.val (.ref ar), .val (.int (pj <<< ((1 : Int32) &&& 31)))] [(.int (pj <<< ((1 : Int32) &&& 31))), (.ref ar)])) _
    refine XS.iinc X1.here hx rfl (hb hby d29_34) rfl (l' := #[.val (.ref ar), .val (.int ((pj <<< ((1 : Int32) &&& 31)) + (1 : Int32)))]) rfl ?_
    show Steps p.tables e below (T1.setTop (mkF m 37 #[.val (.ref ar), .val (.int ((pj <<< ((1 : Int32) &&& 31)) + (1 : Int32)))] [(.int (pj <<< ((1 : Int32) &&& 31))), (.ref ar)])) _
    refine X1.baloadBytes hx (j := (pj <<< ((1 : Int32) &&& 31))) (v := (.int (f (pj <<< ((1 : Int32) &&& 31)).toNatClampNeg))) (by rw [e1]; exact Ar2.1) (State.isArrayOf_alike (hZ).alike Ar2.2.1) Ar2.2.2 hin2 hat2 (g := (mkF m 37 #[.val (.ref ar), .val (.int ((pj <<< ((1 : Int32) &&& 31)) + (1 : Int32)))] [(.int (pj <<< ((1 : Int32) &&& 31))), (.ref ar)])) rfl rfl (hb hby d29_37) _ ?_
    show Steps p.tables e below (T1.setTop (mkF m 38 #[.val (.ref ar), .val (.int ((pj <<< ((1 : Int32) &&& 31)) + (1 : Int32)))] [(.int (f (pj <<< ((1 : Int32) &&& 31)).toNatClampNeg))])) _
    refine XS.sipush X1.here hx rfl (hb hby d29_38) ?_
    show Steps p.tables e below (T1.setTop (mkF m 41 #[.val (.ref ar), .val (.int ((pj <<< ((1 : Int32) &&& 31)) + (1 : Int32)))] [(.int (255 : Int32)), (.int (f (pj <<< ((1 : Int32) &&& 31)).toNatClampNeg))])) _
    refine XS.iand X1.here hx rfl (hb hby d29_41) rfl ?_
    show Steps p.tables e below (T1.setTop (mkF m 42 #[.val (.ref ar), .val (.int ((pj <<< ((1 : Int32) &&& 31)) + (1 : Int32)))] [(.int ((f (pj <<< ((1 : Int32) &&& 31)).toNatClampNeg) &&& (255 : Int32)))])) _
    refine st3 _ ?_
    show Steps p.tables e below (T3.setTop (mkF m 45 #[.val (.ref ar), .val (.int ((pj <<< ((1 : Int32) &&& 31)) + (1 : Int32)))] [(.int (0 : Int32)), (.int ((f (pj <<< ((1 : Int32) &&& 31)).toNatClampNeg) &&& (255 : Int32)))])) _
    refine XS.ishl X3.here hx rfl (hb hby d29_45) rfl ?_
    show Steps p.tables e below (T3.setTop (mkF m 46 #[.val (.ref ar), .val (.int ((pj <<< ((1 : Int32) &&& 31)) + (1 : Int32)))] [(.int (((f (pj <<< ((1 : Int32) &&& 31)).toNatClampNeg) &&& (255 : Int32)) <<< ((0 : Int32) &&& 31)))])) _
    refine XS.aloadN X3.here hx rfl (hb hby d29_46) rfl rfl ?_
    show Steps p.tables e below (T3.setTop (mkF m 47 #[.val (.ref ar), .val (.int ((pj <<< ((1 : Int32) &&& 31)) + (1 : Int32)))] [(.ref ar), (.int (((f (pj <<< ((1 : Int32) &&& 31)).toNatClampNeg) &&& (255 : Int32)) <<< ((0 : Int32) &&& 31)))])) _
    refine XS.iloadN X3.here hx rfl (hb hby d29_47) rfl ?_
    show Steps p.tables e below (T3.setTop (mkF m 48 #[.val (.ref ar), .val (.int ((pj <<< ((1 : Int32) &&& 31)) + (1 : Int32)))] [(.int ((pj <<< ((1 : Int32) &&& 31)) + (1 : Int32))), (.ref ar), (.int (((f (pj <<< ((1 : Int32) &&& 31)).toNatClampNeg) &&& (255 : Int32)) <<< ((0 : Int32) &&& 31)))])) _
    refine X3.baloadBytes hx (j := ((pj <<< ((1 : Int32) &&& 31)) + (1 : Int32))) (v := (.int (f ((pj <<< ((1 : Int32) &&& 31)) + (1 : Int32)).toNatClampNeg))) (by rw [e3]; exact Ar4.1) (State.isArrayOf_alike (hZ).alike Ar4.2.1) Ar4.2.2 hin4 hat4 (g := (mkF m 48 #[.val (.ref ar), .val (.int ((pj <<< ((1 : Int32) &&& 31)) + (1 : Int32)))] [(.int ((pj <<< ((1 : Int32) &&& 31)) + (1 : Int32))), (.ref ar), (.int (((f (pj <<< ((1 : Int32) &&& 31)).toNatClampNeg) &&& (255 : Int32)) <<< ((0 : Int32) &&& 31)))])) rfl rfl (hb hby d29_48) _ ?_
    show Steps p.tables e below (T3.setTop (mkF m 49 #[.val (.ref ar), .val (.int ((pj <<< ((1 : Int32) &&& 31)) + (1 : Int32)))] [(.int (f ((pj <<< ((1 : Int32) &&& 31)) + (1 : Int32)).toNatClampNeg)), (.int (((f (pj <<< ((1 : Int32) &&& 31)).toNatClampNeg) &&& (255 : Int32)) <<< ((0 : Int32) &&& 31)))])) _
    refine XS.sipush X3.here hx rfl (hb hby d29_49) ?_
    show Steps p.tables e below (T3.setTop (mkF m 52 #[.val (.ref ar), .val (.int ((pj <<< ((1 : Int32) &&& 31)) + (1 : Int32)))] [(.int (255 : Int32)), (.int (f ((pj <<< ((1 : Int32) &&& 31)) + (1 : Int32)).toNatClampNeg)), (.int (((f (pj <<< ((1 : Int32) &&& 31)).toNatClampNeg) &&& (255 : Int32)) <<< ((0 : Int32) &&& 31)))])) _
    refine XS.iand X3.here hx rfl (hb hby d29_52) rfl ?_
    show Steps p.tables e below (T3.setTop (mkF m 53 #[.val (.ref ar), .val (.int ((pj <<< ((1 : Int32) &&& 31)) + (1 : Int32)))] [(.int ((f ((pj <<< ((1 : Int32) &&& 31)) + (1 : Int32)).toNatClampNeg) &&& (255 : Int32))), (.int (((f (pj <<< ((1 : Int32) &&& 31)).toNatClampNeg) &&& (255 : Int32)) <<< ((0 : Int32) &&& 31)))])) _
    refine st5 _ ?_
    show Steps p.tables e below (T5.setTop (mkF m 56 #[.val (.ref ar), .val (.int ((pj <<< ((1 : Int32) &&& 31)) + (1 : Int32)))] [(.int (8 : Int32)), (.int ((f ((pj <<< ((1 : Int32) &&& 31)) + (1 : Int32)).toNatClampNeg) &&& (255 : Int32))), (.int (((f (pj <<< ((1 : Int32) &&& 31)).toNatClampNeg) &&& (255 : Int32)) <<< ((0 : Int32) &&& 31)))])) _
    refine XS.ishl X5.here hx rfl (hb hby d29_56) rfl ?_
    show Steps p.tables e below (T5.setTop (mkF m 57 #[.val (.ref ar), .val (.int ((pj <<< ((1 : Int32) &&& 31)) + (1 : Int32)))] [(.int (((f ((pj <<< ((1 : Int32) &&& 31)) + (1 : Int32)).toNatClampNeg) &&& (255 : Int32)) <<< ((8 : Int32) &&& 31))), (.int (((f (pj <<< ((1 : Int32) &&& 31)).toNatClampNeg) &&& (255 : Int32)) <<< ((0 : Int32) &&& 31)))])) _
    refine XS.ior X5.here hx rfl (hb hby d29_57) rfl ?_
    show Steps p.tables e below (T5.setTop (mkF m 58 #[.val (.ref ar), .val (.int ((pj <<< ((1 : Int32) &&& 31)) + (1 : Int32)))] [(.int ((((f (pj <<< ((1 : Int32) &&& 31)).toNatClampNeg) &&& (255 : Int32)) <<< ((0 : Int32) &&& 31)) ||| (((f ((pj <<< ((1 : Int32) &&& 31)) + (1 : Int32)).toNatClampNeg) &&& (255 : Int32)) <<< ((8 : Int32) &&& 31))))])) _
    refine XS.i2c X5.here hx rfl (hb hby d29_58) rfl ?_
    show Steps p.tables e below (T5.setTop (mkF m 59 #[.val (.ref ar), .val (.int ((pj <<< ((1 : Int32) &&& 31)) + (1 : Int32)))] [(.int (((((f (pj <<< ((1 : Int32) &&& 31)).toNatClampNeg) &&& (255 : Int32)) <<< ((0 : Int32) &&& 31)) ||| (((f ((pj <<< ((1 : Int32) &&& 31)) + (1 : Int32)).toNatClampNeg) &&& (255 : Int32)) <<< ((8 : Int32) &&& 31))).toUInt32.toUInt16.toUInt32.toInt32))])) _
    exact retN X5 hx (t := .char) Bd.returns (by simp) (hb hby d29_59) hr
  · show Q29 Z ar pj kb z f ch h0 n0 _ T5.heap _
    rw [e5]
    refine ⟨?_, N0, rfl⟩
    show (some (.int (nar .char (((((f (pj <<< ((1 : Int32) &&& 31)).toNatClampNeg) &&& (255 : Int32)) <<< ((0 : Int32) &&& 31)) ||| (((f ((pj <<< ((1 : Int32) &&& 31)) + (1 : Int32)).toNatClampNeg) &&& (255 : Int32)) <<< ((8 : Int32) &&& 31))).toUInt32.toUInt16.toUInt32.toInt32))) : Option Value) = some (.int ch)
    have d1 := own_dbl ja (by omega)
    have d2 := own_inc (j := (pj <<< ((1 : Int32) &&& 31))) (by rw [d1]; omega) (by rw [d1]; omega)
    rw [hl _ (by rw [own_nat (by rw [d1]; omega), d1]), hh2 _ (by rw [own_nat (by rw [d2, d1]; omega), d2, d1]), own_gc cha chb]
theorem d27_0 : decode jdk_52_method_3_code 0 = .ok (.iload_n 0, 1) := by decide +kernel
theorem d27_1 : decode jdk_52_method_3_code 1 = .ok (.ifCond .ge 11, 3) := by decide +kernel
theorem d27_12 : decode jdk_52_method_3_code 12 = .ok (.iload_n 0, 1) := by decide +kernel
theorem d27_13 : decode jdk_52_method_3_code 13 = .ok (.ldc 20, 2) := by decide +kernel
theorem d27_15 : decode jdk_52_method_3_code 15 = .ok (.if_icmp .lt 40, 3) := by decide +kernel
theorem d27_55 : decode jdk_52_method_3_code 55 = .ok (.iload_n 0, 1) := by decide +kernel
theorem d27_56 : decode jdk_52_method_3_code 56 = .ok (.iconst 1, 1) := by decide +kernel
theorem d27_57 : decode jdk_52_method_3_code 57 = .ok (.ishl, 1) := by decide +kernel
theorem d27_58 : decode jdk_52_method_3_code 58 = .ok (.ireturn, 1) := by decide +kernel
theorem ef_rm27 (m : MethodId) (x0 : Int32) : entryFrame m #[(.int x0)] 1 = mkF m 0 #[.val (.int x0)] [] := by first | (simp [entryFrame, mkF, argsToLocals, Value.category]; done) | rfl
def nblF (p1 : Int32) : Int32 :=
  (p1 <<< ((1 : Int32) &&& 31))
def Q27 (Z : State) (p1 : Int32) (h0 : Heap) (n0 : Nat) (v : Option Value) (h : Heap) (L : List Loc) : Prop := v = some (.int (nblF p1)) ∧ Fr n0 L ∧ h = h0
set_option maxRecDepth 65536 in
set_option maxHeartbeats 40000000 in
theorem rm27 (l : Launch) (Z : State) (a0 : Array Value) (hw : ∀ d ∈ tables_1, d.before a0 Z = true) (ws : List Jvm.Cond) (p1 : Int32) (h0 : Heap) (n0 : Nat) (Z0 : n0 ≤ h0.size) (q0 : ¬ p1 < 0) (q1 : p1 < (1073741823 : Int32)) :
    MetFree l (⟨"java/lang/StringUTF16", "newBytesLength", "(I)I"⟩ : MethodName) (head1 (Jvm.Cond.code (⟨"java/lang/StringUTF16", "newBytesLength", "(I)I"⟩ : MethodName) jdk_52_method_3_code 1 (some .int) :: ws) ({ frames := 0, cells := 0, slots := 0, locals := 0 } : Room)) (fun a U => a = #[(.int p1)] ∧ Z.Warmed39 U.vm ∧ U.heap = h0) (fun _ _ _ _ _ => True) (fun _ U o U' => ∃ v L, o = .returned v ∧ Q27 Z p1 h0 n0 v U'.heap L ∧ FrameEnd U o U' L ({ frames := 0, cells := 0, slots := 0, locals := 0 } : Room).cells ({ frames := 0, cells := 0, slots := 0, locals := 0 } : Room).slots) := by
  refine MetFree.of_bodySF (plainFor_of_name pn_0) hisR ?_
  intro p e s m args below meth c s₁ Bd hml0 hP hK
  obtain ⟨rfl, hZ, hh⟩ := hP
  have hx := Bd.exec
  have hby := Bd.bytes
  have hml : c.maxLocals = 1 := hml0
  have hown : s.vm.findClass "java/lang/StringUTF16" = some m.cls := findClass_of_methodNamed Bd.named
  have hnm := (name_of_methodNamed Bd.named Bd.method).1
  have X0 : Stand p l e ({ frames := 0, cells := 0, slots := 0, locals := 0 } : Room) s m #[(.int p1)] below meth c s₁ [] 0 0 := Stand.of_body Bd
  have e0 : s₁.heap = h0 := by rw [← hh, Bd.state]; rfl
  have N0 := Fr.nil n0
  have pre0 : ∀ t, Steps p.tables e below (s₁.setTop (mkF m 0 #[.val (.int p1)] [])) t → Steps p.tables e below (s₁.setTop (entryFrame m #[(.int p1)] 1)) t := fun t k => castTop (ef_rm27 m p1) k
  obtain ⟨fs, hr, hrun, hended, hW, hsame⟩ := X0.leave (v := some (.int (p1 <<< ((1 : Int32) &&& 31)))) (fun h => by rw [Bd.returns] at h; cases h)
  refine ⟨_, _, pre0 _ ?_, hrun, hended, _, _, rfl, ?_, ⟨_, rfl⟩, hW, hsame.mono (by decide) (by decide)⟩
  · show Steps p.tables e below (s₁.setTop (mkF m 0 #[.val (.int p1)] [])) _
    refine XS.iloadN X0.here hx rfl (hb hby d27_0) rfl ?_
    show Steps p.tables e below (s₁.setTop (mkF m 1 #[.val (.int p1)] [(.int p1)])) _
    refine XS.ifYes X0.here hx rfl (pc0 := 1) (pc' := 12) rfl (hb hby d27_1) rfl ((if0 _ _).trans (flt q0).2.1) (by decide) (by decide) ?_
    show Steps p.tables e below (s₁.setTop (mkF m 12 #[.val (.int p1)] [])) _
    refine XS.iloadN X0.here hx rfl (hb hby d27_12) rfl ?_
    show Steps p.tables e below (s₁.setTop (mkF m 13 #[.val (.int p1)] [(.int p1)])) _
    refine X0.ldcInt hx hown (mvT hZ (hw _ (List.mem_of_getElem? (i := 129) rfl))) (g := (mkF m 13 #[.val (.int p1)] [(.int p1)])) rfl (hb hby d27_13) _ ?_
    show Steps p.tables e below (s₁.setTop (mkF m 15 #[.val (.int p1)] [(.int (1073741823 : Int32)), (.int p1)])) _
    refine XS.icmpYes X0.here hx rfl (pc0 := 15) (pc' := 55) rfl (hb hby d27_15) rfl (tlt q1).1 (by decide) (by decide) ?_
    show Steps p.tables e below (s₁.setTop (mkF m 55 #[.val (.int p1)] [])) _
    refine XS.iloadN X0.here hx rfl (hb hby d27_55) rfl ?_
    show Steps p.tables e below (s₁.setTop (mkF m 56 #[.val (.int p1)] [(.int p1)])) _
    refine XS.iconst X0.here hx rfl (hb hby d27_56) ?_
    show Steps p.tables e below (s₁.setTop (mkF m 57 #[.val (.int p1)] [(.int (1 : Int32)), (.int p1)])) _
    refine XS.ishl X0.here hx rfl (hb hby d27_57) rfl ?_
    show Steps p.tables e below (s₁.setTop (mkF m 58 #[.val (.int p1)] [(.int (p1 <<< ((1 : Int32) &&& 31)))])) _
    exact retI X0 hx Bd.returns (hb hby d27_58) hr
  · show Q27 Z p1 h0 n0 _ s₁.heap _
    rw [e0]
    refine ⟨?_, N0, rfl⟩
    show (some (.int (p1 <<< ((1 : Int32) &&& 31))) : Option Value) = some (.int (nblF p1))
    rw [show (nblF p1) = (p1 <<< ((1 : Int32) &&& 31)) from by unfold nblF; rfl]
theorem own_nbl {len : Int32} (la : 0 < len.toInt) (lb : len.toInt ≤ 3) : (nblF len).toInt = 2 * len.toInt := by
  unfold nblF
  exact own_dbl (by omega) (by omega)
theorem d26_0 : decode jdk_52_method_2_code 0 = .ok (.iload_n 0, 1) := by decide +kernel
theorem d26_1 : decode jdk_52_method_2_code 1 = .ok (.invokestatic 11, 3) := by decide +kernel
theorem pd_0 : parseMethodDescriptor "(I)I" = some ⟨[.int], some .int⟩ := by decide +kernel
theorem d26_4 : decode jdk_52_method_2_code 4 = .ok (.newarray .byte, 2) := by decide +kernel
theorem d26_6 : decode jdk_52_method_2_code 6 = .ok (.areturn, 1) := by decide +kernel
theorem ef_rm26 (m : MethodId) (x0 : Int32) : entryFrame m #[(.int x0)] 1 = mkF m 0 #[.val (.int x0)] [] := by first | (simp [entryFrame, mkF, argsToLocals, Value.category]; done) | rfl
def Q26 (Z : State) (len : Int32) (h0 : Heap) (n0 : Nat) (v : Option Value) (h : Heap) (L : List Loc) : Prop := ∃ (b : Addr) (kb : ClassId) (z : Int32) (g : Nat → Int32), v = some (.ref b) ∧ Fr n0 L ∧ n0 ≤ b ∧ h0.size ≤ b ∧ Keep h0 h [] ∧ PA Z h b kb .byte z g ∧ z.toInt = 2 * len.toInt
set_option maxRecDepth 65536 in
set_option maxHeartbeats 40000000 in
theorem rm26 (l : Launch) (Z : State) (a0 : Array Value) (hw : ∀ d ∈ tables_1, d.before a0 Z = true) (ws : List Jvm.Cond) (len : Int32) (h0 : Heap) (n0 : Nat) (Z0 : n0 ≤ h0.size) (la : 0 < len.toInt) (lb : len.toInt ≤ 3) :
    MetFree l (⟨"java/lang/StringUTF16", "newBytesFor", "(I)[B"⟩ : MethodName) (head1 (Jvm.Cond.code (⟨"java/lang/StringUTF16", "newBytesFor", "(I)[B"⟩ : MethodName) jdk_52_method_2_code 1 (some (.array .byte)) :: ws) ({ frames := 1, cells := 1, slots := 6, locals := 12 } : Room)) (fun a U => a = #[(.int len)] ∧ Z.Warmed39 U.vm ∧ U.heap = h0) (fun _ _ _ _ _ => True) (fun _ U o U' => ∃ v L, o = .returned v ∧ Q26 Z len h0 n0 v U'.heap L ∧ FrameEnd U o U' L ({ frames := 1, cells := 1, slots := 6, locals := 12 } : Room).cells ({ frames := 1, cells := 1, slots := 6, locals := 12 } : Room).slots) := by
  refine MetFree.of_bodySF (plainFor_of_name pn_0) hisR ?_
  intro p e s m args below meth c s₁ Bd hml0 hP hK
  obtain ⟨rfl, hZ, hh⟩ := hP
  have hx := Bd.exec
  have hby := Bd.bytes
  have hml : c.maxLocals = 1 := hml0
  have hown : s.vm.findClass "java/lang/StringUTF16" = some m.cls := findClass_of_methodNamed Bd.named
  have hnm := (name_of_methodNamed Bd.named Bd.method).1
  have X0 : Stand p l e ({ frames := 1, cells := 1, slots := 6, locals := 12 } : Room) s m #[(.int len)] below meth c s₁ [] 0 0 := Stand.of_body Bd
  have e0 : s₁.heap = h0 := by rw [← hh, Bd.state]; rfl
  have N0 := Fr.nil n0
  have pre0 : ∀ t, Steps p.tables e below (s₁.setTop (mkF m 0 #[.val (.int len)] [])) t → Steps p.tables e below (s₁.setTop (entryFrame m #[(.int len)] 1)) t := fun t k => castTop (ef_rm26 m len) k
  have z0 : (0 : Int32).toInt = 0 := rfl
  have q0 : ¬ len < 0 := by rw [Int32.lt_iff_toInt_lt, z0]; omega
  have q1 : len < (1073741823 : Int32) := by rw [Int32.lt_iff_toInt_lt, show (1073741823 : Int32).toInt = 1073741823 from rfl]; omega
  have dn := own_nbl la lb
  have nneg : ¬ nblF len < 0 := by rw [Int32.lt_iff_toInt_lt, z0]; omega
  have ncap : (nblF len).toNatClampNeg ≤ 6 := by have := own_nat (j := nblF len) (by omega); omega
  obtain ⟨_, _, ⟨T1, L1, k1, n1⟩, -, X1, ⟨Lc1, hQ1, l1, y1, z1⟩, st1⟩ := Jvm.LawKit.callS X0 hx (y := (⟨"java/lang/StringUTF16", "newBytesLength", "(I)I"⟩ : MethodName)) hown (mvT hZ (hw _ (List.mem_of_getElem? (i := 126) rfl))) (mvT hZ (hw _ (List.mem_of_getElem? (i := 127) rfl))) (mvT hZ (hw _ (List.mem_of_getElem? (i := 81) rfl))) (mvT hZ (hw _ (List.mem_of_getElem? (i := 128) rfl))) (by decide) (backOf (W := 0) (rm27 l Z a0 hw [] len h0 n0 Z0 q0 q1) hZ (hw _ (List.mem_of_getElem? (i := 128) rfl)) (hw _ (List.mem_of_getElem? (i := 81) rfl)) (by decide) (by decide)) (g := (mkF m 1 #[.val (.int len)] [(.int len)])) rfl (by rw [hml]; rfl) (argsL := [(.int len)]) (rest := []) (lenOf pd_0 rfl) rfl (by show 2 * 0 + _ ≤ _; exact Nat.le_of_eq rfl) (hb hby d26_1) (fun _ _ => ⟨rfl, e0, (by decide : 0 + 0 ≤ _), (by decide : 0 + 0 ≤ _)⟩)
  dsimp only [Pt.U, Pt.locs, Pt.cells, Pt.slots] at X1 l1 y1 z1 st1 hQ1
  subst l1 y1 z1
  obtain ⟨rfl, N1q, e1⟩ := hQ1
  have N1 := Fr.app N0 N1q
  obtain ⟨T2, h2, k2, X2, e2, E2, A2, st2⟩ := newP X1 hx hZ (hw _ (List.mem_of_getElem? (i := 27) rfl)) e1 (g := (mkF m 4 #[.val (.int len)] [(.int (nblF len))])) rfl (hb hby d26_4) rfl nneg (cap := 6) ncap (by decide) (by decide) (by decide)
  obtain ⟨b2, g2⟩ : ∃ z, z = h0.size := ⟨_, rfl⟩
  rw [← g2] at A2 st2
  have g_b2 : n0 ≤ b2 := Nat.le_trans Z0 (Nat.le_of_eq g2.symm)
  have sz_b2 : h0.size ≤ b2 := Nat.le_trans (Keep.refl h0 []).1 (Nat.le_of_eq g2.symm)
  have Kc2 : Keep h0 h2 [] := (Keep.refl h0 []).ext E2
  have V_b2 : PA Z h2 b2 k2 .byte (nblF len) (fun _ => 0) := PA.of (Arv.new A2 nneg) (fun j _ => by rfl)
  obtain ⟨fs, hr, hrun, hended, hW, hsame⟩ := X2.leave (v := some (.ref b2)) (fun h => by rw [Bd.returns] at h; cases h)
  refine ⟨_, _, pre0 _ ?_, hrun, hended, _, _, rfl, ?_, ⟨_, rfl⟩, hW, hsame.mono (by decide) (by decide)⟩
  · show Steps p.tables e below (s₁.setTop (mkF m 0 #[.val (.int len)] [])) _
    refine XS.iloadN X0.here hx rfl (hb hby d26_0) rfl ?_
    show Steps p.tables e below (s₁.setTop (mkF m 1 #[.val (.int len)] [(.int len)])) _
    refine st1 _ ?_
    show Steps p.tables e below (T1.setTop (mkF m 4 #[.val (.int len)] [(.int (nblF len))])) _
    refine st2 _ ?_
    show Steps p.tables e below (T2.setTop (mkF m 6 #[.val (.int len)] [(.ref b2)])) _
    exact retOut X2 hx Bd.returns rfl (Or.inr (Or.inr (Or.inr (Or.inr ⟨rfl, rfl, rfl⟩)))) (hb hby d26_6) hr
  · show Q26 Z len h0 n0 _ T2.heap _
    rw [e2]
    exact ⟨_, _, _, _, rfl, N1, g_b2, sz_b2, Kc2, V_b2, dn⟩
theorem d25_0 : decode jdk_52_method_14_code 0 = .ok (.iload_n 2, 1) := by decide +kernel
theorem d25_1 : decode jdk_52_method_14_code 1 = .ok (.invokestatic 107, 3) := by decide +kernel
theorem pd_1 : parseMethodDescriptor "(I)[B" = some ⟨[.int], some (.array .byte)⟩ := by decide +kernel
theorem d25_4 : decode jdk_52_method_14_code 4 = .ok (.astore_n 3, 1) := by decide +kernel
theorem d25_5 : decode jdk_52_method_14_code 5 = .ok (.iconst 0, 1) := by decide +kernel
theorem d25_6 : decode jdk_52_method_14_code 6 = .ok (.istore 4, 2) := by decide +kernel
theorem d25_8 : decode jdk_52_method_14_code 8 = .ok (.iload 4, 2) := by decide +kernel
theorem d25_10 : decode jdk_52_method_14_code 10 = .ok (.iload_n 2, 1) := by decide +kernel
theorem d25_11 : decode jdk_52_method_14_code 11 = .ok (.if_icmp .ge 21, 3) := by decide +kernel
theorem d25_14 : decode jdk_52_method_14_code 14 = .ok (.aload_n 3, 1) := by decide +kernel
theorem d25_15 : decode jdk_52_method_14_code 15 = .ok (.iload 4, 2) := by decide +kernel
theorem d25_17 : decode jdk_52_method_14_code 17 = .ok (.aload_n 0, 1) := by decide +kernel
theorem d25_18 : decode jdk_52_method_14_code 18 = .ok (.iload_n 1, 1) := by decide +kernel
theorem d25_19 : decode jdk_52_method_14_code 19 = .ok (.caload, 1) := by decide +kernel
theorem d25_20 : decode jdk_52_method_14_code 20 = .ok (.invokestatic 111, 3) := by decide +kernel
theorem pd_2 : parseMethodDescriptor "([BII)V" = some ⟨[(.array .byte), .int, .int], none⟩ := by decide +kernel
theorem d25_23 : decode jdk_52_method_14_code 23 = .ok (.iinc 1 1, 3) := by decide +kernel
theorem d25_26 : decode jdk_52_method_14_code 26 = .ok (.iinc 4 1, 3) := by decide +kernel
theorem d25_29 : decode jdk_52_method_14_code 29 = .ok (.goto (-21), 3) := by decide +kernel
theorem d25_32 : decode jdk_52_method_14_code 32 = .ok (.aload_n 3, 1) := by decide +kernel
theorem d25_33 : decode jdk_52_method_14_code 33 = .ok (.areturn, 1) := by decide +kernel
theorem ef_rm25 (m : MethodId) (x0 : Addr) (x2 : Int32) : entryFrame m #[(.ref x0), (.int (0 : Int32)), (.int x2)] 5 = mkF m 0 #[.val (.ref x0), .val (.int (0 : Int32)), .val (.int x2), .unset, .unset] [] := by first | (simp [entryFrame, mkF, argsToLocals, Value.category]; done) | rfl
def Q25 (Z : State) (src : Addr) (len : Int32) (ks : ClassId) (f : Nat → Int32) (h0 : Heap) (n0 : Nat) (v : Option Value) (h : Heap) (L : List Loc) : Prop := ∃ (b : Addr) (kb : ClassId) (z : Int32) (g : Nat → Int32), v = some (.ref b) ∧ Fr n0 L ∧ n0 ≤ b ∧ h0.size ≤ b ∧ Keep h0 h [] ∧ PA Z h b kb .byte z g ∧ z.toInt = 2 * len.toInt ∧ ∀ i : Nat, (i : Int) < len.toInt → g (2 * i) = StrChars.lo8 (f i) ∧ g (2 * i + 1) = StrChars.hi8 (f i)
set_option maxRecDepth 65536 in
set_option maxHeartbeats 40000000 in
theorem rm25 (l : Launch) (Z : State) (a0 : Array Value) (hw : ∀ d ∈ tables_1, d.before a0 Z = true) (ws : List Jvm.Cond) (src : Addr) (len : Int32) (ks : ClassId) (f : Nat → Int32) (h0 : Heap) (n0 : Nat) (Z0 : n0 ≤ h0.size) (O : Old Z n0 h0) (VS : PA Z h0 src ks .char len f) (S_ad : Sta Z Z.heap "java/lang/StringUTF16" "$assertionsDisabled" "Z" (.int (1 : Int32))) (S_hi : Sta Z Z.heap "java/lang/StringUTF16" "HI_BYTE_SHIFT" "I" (.int (0 : Int32))) (S_lo : Sta Z Z.heap "java/lang/StringUTF16" "LO_BYTE_SHIFT" "I" (.int (8 : Int32))) (la : 0 < len.toInt) (lb : len.toInt ≤ 3) :
    MetFree l (⟨"java/lang/StringUTF16", "toBytes", "([CII)[B"⟩ : MethodName) (head1 (Jvm.Cond.code (⟨"java/lang/StringUTF16", "toBytes", "([CII)[B"⟩ : MethodName) jdk_52_method_14_code 5 (some (.array .byte)) :: ws) ({ frames := 2, cells := 1, slots := 6, locals := 24 } : Room)) (fun a U => a = #[(.ref src), (.int (0 : Int32)), (.int len)] ∧ Z.Warmed39 U.vm ∧ U.heap = h0) (fun _ _ _ _ _ => True) (fun _ U o U' => ∃ v L, o = .returned v ∧ Q25 Z src len ks f h0 n0 v U'.heap L ∧ FrameEnd U o U' L ({ frames := 2, cells := 1, slots := 6, locals := 24 } : Room).cells ({ frames := 2, cells := 1, slots := 6, locals := 24 } : Room).slots) := by
  refine MetFree.of_bodySF (plainFor_of_name pn_0) hisR ?_
  intro p e s m args below meth c s₁ Bd hml0 hP hK
  obtain ⟨rfl, hZ, hh⟩ := hP
  have hx := Bd.exec
  have hby := Bd.bytes
  have hml : c.maxLocals = 5 := hml0
  have hown : s.vm.findClass "java/lang/StringUTF16" = some m.cls := findClass_of_methodNamed Bd.named
  have hnm := (name_of_methodNamed Bd.named Bd.method).1
  have X0 : Stand p l e ({ frames := 2, cells := 1, slots := 6, locals := 24 } : Room) s m #[(.ref src), (.int (0 : Int32)), (.int len)] below meth c s₁ [] 0 0 := Stand.of_body Bd
  have e0 : s₁.heap = h0 := by rw [← hh, Bd.state]; rfl
  have N0 := Fr.nil n0
  have pre0 : ∀ t, Steps p.tables e below (s₁.setTop (mkF m 0 #[.val (.ref src), .val (.int (0 : Int32)), .val (.int len), .unset, .unset] [])) t → Steps p.tables e below (s₁.setTop (entryFrame m #[(.ref src), (.int (0 : Int32)), (.int len)] 5)) t := fun t k => castTop (ef_rm25 m src len) k
  obtain ⟨_, _, ⟨T1, L1, k1, n1⟩, -, X1, ⟨Lc1, hQ1, l1, y1, z1⟩, st1⟩ := Jvm.LawKit.callS X0 hx (y := (⟨"java/lang/StringUTF16", "newBytesFor", "(I)[B"⟩ : MethodName)) hown (mvT hZ (hw _ (List.mem_of_getElem? (i := 123) rfl))) (mvT hZ (hw _ (List.mem_of_getElem? (i := 124) rfl))) (mvT hZ (hw _ (List.mem_of_getElem? (i := 81) rfl))) (mvT hZ (hw _ (List.mem_of_getElem? (i := 125) rfl))) (by decide) (backOf (W := 0) (rm26 l Z a0 hw [] len h0 n0 Z0 la lb) hZ (hw _ (List.mem_of_getElem? (i := 125) rfl)) (hw _ (List.mem_of_getElem? (i := 81) rfl)) (by decide) (by decide)) (g := (mkF m 1 #[.val (.ref src), .val (.int (0 : Int32)), .val (.int len), .unset, .unset] [(.int len)])) rfl (by rw [hml]; rfl) (argsL := [(.int len)]) (rest := []) (lenOf pd_1 rfl) rfl (by show 2 * 0 + _ ≤ _; exact Nat.le_of_eq rfl) (hb hby d25_1) (fun _ _ => ⟨rfl, e0, (by decide : 0 + 1 ≤ _), (by decide : 0 + 6 ≤ _)⟩)
  dsimp only [Pt.U, Pt.locs, Pt.cells, Pt.slots] at X1 l1 y1 z1 st1 hQ1
  subst l1 y1 z1
  obtain ⟨b1, kb1, zb1, gb1, rfl, N1q, g_b1, szz1, K1, Vb1, hzb1⟩ := hQ1
  have N1 := Fr.app N0 N1q
  have Kc1 : Keep h0 T1.heap [] := (Keep.refl h0 []).trans K1 all0
  have Oc1 := O.keep K1 all0
  have sz_b1 : h0.size ≤ b1 := Nat.le_trans (Keep.refl h0 []).1 szz1
  have ne_src_b1 : src ≠ b1 := Nat.ne_of_lt (Nat.lt_of_lt_of_le VS.lt szz1)
  have pre2 : ∀ tq, Steps p.tables e below (T1.setTop (mkF m 8 #[.val (.ref src), .val (.int (0 : Int32)), .val (.int len), .val (.ref b1), .val (.int (0 : Int32))] [])) tq → Steps p.tables e below (s₁.setTop (entryFrame m #[(.ref src), (.int (0 : Int32)), (.int len)] 5)) tq := by
    intro tq kt
    refine pre0 tq ?_
    show Steps p.tables e below (s₁.setTop (mkF m 0 #[.val (.ref src), .val (.int (0 : Int32)), .val (.int len), .unset, .unset] [])) _
    refine XS.iloadN X0.here hx rfl (hb hby d25_0) rfl ?_
    show Steps p.tables e below (s₁.setTop (mkF m 1 #[.val (.ref src), .val (.int (0 : Int32)), .val (.int len), .unset, .unset] [(.int len)])) _
    refine st1 _ ?_
    show Steps p.tables e below (T1.setTop (mkF m 4 #[.val (.ref src), .val (.int (0 : Int32)), .val (.int len), .unset, .unset] [(.ref b1)])) _
    refine XS.astoreN X1.here hx rfl (hb hby d25_4) rfl rfl (l' := #[.val (.ref src), .val (.int (0 : Int32)), .val (.int len), .val (.ref b1), .unset]) rfl ?_
    show Steps p.tables e below (T1.setTop (mkF m 5 #[.val (.ref src), .val (.int (0 : Int32)), .val (.int len), .val (.ref b1), .unset] [])) _
    refine XS.iconst X1.here hx rfl (hb hby d25_5) ?_
    show Steps p.tables e below (T1.setTop (mkF m 6 #[.val (.ref src), .val (.int (0 : Int32)), .val (.int len), .val (.ref b1), .unset] [(.int (0 : Int32))])) _
    refine XS.istore X1.here hx rfl (hb hby d25_6) rfl (l' := #[.val (.ref src), .val (.int (0 : Int32)), .val (.int len), .val (.ref b1), .val (.int (0 : Int32))]) rfl ?_
    show Steps p.tables e below (T1.setTop (mkF m 8 #[.val (.ref src), .val (.int (0 : Int32)), .val (.int len), .val (.ref b1), .val (.int (0 : Int32))] [])) _
    exact kt
  have loop : ∀ (n : Nat) (T0 : State) (lc : List Loc) (hp : Heap) (t : Int32) (g : Nat → Int32), Stand p l e ({ frames := 2, cells := 1, slots := 6, locals := 24 } : Room) s m #[(.ref src), (.int (0 : Int32)), (.int len)] below meth c T0 lc 1 6 → T0.heap = hp → Fr n0 lc → Old Z n0 hp → n0 ≤ hp.size → PA Z hp src ks .char len f → PA Z hp b1 kb1 .byte zb1 g → (∀ i : Nat, (i : Int) < t.toInt → g (2 * i) = StrChars.lo8 (f i) ∧ g (2 * i + 1) = StrChars.hi8 (f i)) → 0 ≤ t.toInt → t.toInt + n = len.toInt →
      ∃ (T1 : State) (lc1 : List Loc) (t1 : Int32) (g1 : Nat → Int32), Stand p l e ({ frames := 2, cells := 1, slots := 6, locals := 24 } : Room) s m #[(.ref src), (.int (0 : Int32)), (.int len)] below meth c T1 lc1 1 6 ∧ Fr n0 lc1 ∧ Keep hp T1.heap [b1] ∧ PA Z T1.heap b1 kb1 .byte zb1 g1 ∧ (∀ i : Nat, (i : Int) < len.toInt → g1 (2 * i) = StrChars.lo8 (f i) ∧ g1 (2 * i + 1) = StrChars.hi8 (f i)) ∧ ∀ tg, Steps p.tables e below (T1.setTop (mkF m 32 #[.val (.ref src), .val (.int t1), .val (.int len), .val (.ref b1), .val (.int t1)] [])) tg → Steps p.tables e below (T0.setTop (mkF m 8 #[.val (.ref src), .val (.int t), .val (.int len), .val (.ref b1), .val (.int t)] [])) tg := by
    intro n
    induction n with
    | zero =>
      intro T0 lc hp t g Xa ea Na Oa Za Sa Va hg q0 q1
      have preL : ∀ tg, Steps p.tables e below (T0.setTop (mkF m 8 #[.val (.ref src), .val (.int t), .val (.int len), .val (.ref b1), .val (.int t)] [])) tg → Steps p.tables e below (T0.setTop (mkF m 8 #[.val (.ref src), .val (.int t), .val (.int len), .val (.ref b1), .val (.int t)] [])) tg := fun _ k => k
      have pre3 : ∀ tq, Steps p.tables e below (T0.setTop (mkF m 32 #[.val (.ref src), .val (.int t), .val (.int len), .val (.ref b1), .val (.int t)] [])) tq → Steps p.tables e below (T0.setTop (mkF m 8 #[.val (.ref src), .val (.int t), .val (.int len), .val (.ref b1), .val (.int t)] [])) tq := by
        intro tq kt
        refine preL tq ?_
        show Steps p.tables e below (T0.setTop (mkF m 8 #[.val (.ref src), .val (.int t), .val (.int len), .val (.ref b1), .val (.int t)] [])) _
        refine XS.iload Xa.here hx rfl (hb hby d25_8) rfl ?_
        show Steps p.tables e below (T0.setTop (mkF m 10 #[.val (.ref src), .val (.int t), .val (.int len), .val (.ref b1), .val (.int t)] [(.int t)])) _
        refine XS.iloadN Xa.here hx rfl (hb hby d25_10) rfl ?_
        show Steps p.tables e below (T0.setTop (mkF m 11 #[.val (.ref src), .val (.int t), .val (.int len), .val (.ref b1), .val (.int t)] [(.int len), (.int t)])) _
        refine XS.icmpYes Xa.here hx rfl (pc0 := 11) (pc' := 32) rfl (hb hby d25_11) rfl (flt (by rw [Int32.lt_iff_toInt_lt]; omega : ¬ (t < len))).2.1 (by decide) (by decide) ?_
        show Steps p.tables e below (T0.setTop (mkF m 32 #[.val (.ref src), .val (.int t), .val (.int len), .val (.ref b1), .val (.int t)] [])) _
        exact kt
      subst ea
      exact ⟨_, lc, t, g, Xa, Na, Keep.refl _ _, Va, fun i hi => hg i (by omega), pre3⟩
    | succ n ih =>
      intro T0 lc hp t g Xa ea Na Oa Za Sa Va hg q0 q1
      have preL : ∀ tg, Steps p.tables e below (T0.setTop (mkF m 8 #[.val (.ref src), .val (.int t), .val (.int len), .val (.ref b1), .val (.int t)] [])) tg → Steps p.tables e below (T0.setTop (mkF m 8 #[.val (.ref src), .val (.int t), .val (.int len), .val (.ref b1), .val (.int t)] [])) tg := fun _ k => k
      obtain ⟨cl4, Ar4, hc4c, hz4, hn4n, he4, hg4g⟩ := (id Sa)
      have hin4 := own_in hz4 (j := t) q0 (by omega)
      have hat4 : cl4.slots[t.toNatClampNeg]? = some (.int (f t.toNatClampNeg)) := he4 _ (own_lt hz4 q0 (by omega))
      obtain ⟨_, _, ⟨T5, L5, k5, n5⟩, -, X5, ⟨Lc5, hQ5, l5, y5, z5⟩, st5⟩ := Jvm.LawKit.callS Xa hx (y := (⟨"java/lang/StringUTF16", "putChar", "([BII)V"⟩ : MethodName)) hown (mvT hZ (hw _ (List.mem_of_getElem? (i := 130) rfl))) (mvT hZ (hw _ (List.mem_of_getElem? (i := 131) rfl))) (mvT hZ (hw _ (List.mem_of_getElem? (i := 81) rfl))) (mvT hZ (hw _ (List.mem_of_getElem? (i := 132) rfl))) (by decide) (backOf (W := 0) (rm28 l Z a0 hw [] b1 t (f t.toNatClampNeg) kb1 zb1 g hp n0 Za Va g_b1 (S_ad.ext Oa.2) (S_hi.ext Oa.2) (S_lo.ext Oa.2) q0 (by omega) (by omega)) hZ (hw _ (List.mem_of_getElem? (i := 132) rfl)) (hw _ (List.mem_of_getElem? (i := 81) rfl)) (by decide) (by decide)) (g := (mkF m 20 #[.val (.ref src), .val (.int t), .val (.int len), .val (.ref b1), .val (.int t)] [(.int (f t.toNatClampNeg)), (.int t), (.ref b1)])) rfl (by rw [hml]; rfl) (argsL := [(.ref b1), (.int t), (.int (f t.toNatClampNeg))]) (rest := []) (lenOf pd_2 rfl) rfl (by show 2 * 0 + _ ≤ _; exact Nat.le_of_eq rfl) (hb hby d25_20) (fun _ _ => ⟨rfl, ea, (by decide : 1 + 0 ≤ _), (by decide : 6 + 0 ≤ _)⟩)
      dsimp only [Pt.U, Pt.locs, Pt.cells, Pt.slots] at X5 l5 y5 z5 st5 hQ5
      subst l5 y5 z5
      obtain ⟨gp5, rfl, N5q, K5, Vp5, hgp5⟩ := hQ5
      have N5 := Fr.app Na N5q
      have pre6 : ∀ tq, Steps p.tables e below (T5.setTop (mkF m 8 #[.val (.ref src), .val (.int (t + (1 : Int32))), .val (.int len), .val (.ref b1), .val (.int (t + (1 : Int32)))] [])) tq → Steps p.tables e below (T0.setTop (mkF m 8 #[.val (.ref src), .val (.int t), .val (.int len), .val (.ref b1), .val (.int t)] [])) tq := by
        intro tq kt
        refine preL tq ?_
        show Steps p.tables e below (T0.setTop (mkF m 8 #[.val (.ref src), .val (.int t), .val (.int len), .val (.ref b1), .val (.int t)] [])) _
        refine XS.iload Xa.here hx rfl (hb hby d25_8) rfl ?_
        show Steps p.tables e below (T0.setTop (mkF m 10 #[.val (.ref src), .val (.int t), .val (.int len), .val (.ref b1), .val (.int t)] [(.int t)])) _
        refine XS.iloadN Xa.here hx rfl (hb hby d25_10) rfl ?_
        show Steps p.tables e below (T0.setTop (mkF m 11 #[.val (.ref src), .val (.int t), .val (.int len), .val (.ref b1), .val (.int t)] [(.int len), (.int t)])) _
        refine XS.icmpNo Xa.here hx rfl (hb hby d25_11) rfl (tlt (by rw [Int32.lt_iff_toInt_lt]; omega : t < len)).2.1 ?_
        show Steps p.tables e below (T0.setTop (mkF m 14 #[.val (.ref src), .val (.int t), .val (.int len), .val (.ref b1), .val (.int t)] [])) _
        refine XS.aloadN Xa.here hx rfl (hb hby d25_14) rfl rfl ?_
        show Steps p.tables e below (T0.setTop (mkF m 15 #[.val (.ref src), .val (.int t), .val (.int len), .val (.ref b1), .val (.int t)] [(.ref b1)])) _
        refine XS.iload Xa.here hx rfl (hb hby d25_15) rfl ?_
        show Steps p.tables e below (T0.setTop (mkF m 17 #[.val (.ref src), .val (.int t), .val (.int len), .val (.ref b1), .val (.int t)] [(.int t), (.ref b1)])) _
        refine XS.aloadN Xa.here hx rfl (hb hby d25_17) rfl rfl ?_
        show Steps p.tables e below (T0.setTop (mkF m 18 #[.val (.ref src), .val (.int t), .val (.int len), .val (.ref b1), .val (.int t)] [(.ref src), (.int t), (.ref b1)])) _
        refine XS.iloadN Xa.here hx rfl (hb hby d25_18) rfl ?_
        show Steps p.tables e below (T0.setTop (mkF m 19 #[.val (.ref src), .val (.int t), .val (.int len), .val (.ref b1), .val (.int t)] [(.int t), (.ref src), (.int t), (.ref b1)])) _
        refine Xa.caload hx (j := t) (v := (.int (f t.toNatClampNeg))) (by rw [ea]; exact Ar4.1) (State.isArrayOf_alike (hZ).alike Ar4.2.1) Ar4.2.2 hin4 hat4 (g := (mkF m 19 #[.val (.ref src), .val (.int t), .val (.int len), .val (.ref b1), .val (.int t)] [(.int t), (.ref src), (.int t), (.ref b1)])) rfl rfl (hb hby d25_19) _ ?_
        show Steps p.tables e below (T0.setTop (mkF m 20 #[.val (.ref src), .val (.int t), .val (.int len), .val (.ref b1), .val (.int t)] [(.int (f t.toNatClampNeg)), (.int t), (.ref b1)])) _
        refine st5 _ ?_
        show Steps p.tables e below (T5.setTop (mkF m 23 #[.val (.ref src), .val (.int t), .val (.int len), .val (.ref b1), .val (.int t)] [])) _
        refine XS.iinc X5.here hx rfl (hb hby d25_23) rfl (l' := #[.val (.ref src), .val (.int (t + (1 : Int32))), .val (.int len), .val (.ref b1), .val (.int t)]) rfl ?_
        show Steps p.tables e below (T5.setTop (mkF m 26 #[.val (.ref src), .val (.int (t + (1 : Int32))), .val (.int len), .val (.ref b1), .val (.int t)] [])) _
        refine XS.iinc X5.here hx rfl (hb hby d25_26) rfl (l' := #[.val (.ref src), .val (.int (t + (1 : Int32))), .val (.int len), .val (.ref b1), .val (.int (t + (1 : Int32)))]) rfl ?_
        show Steps p.tables e below (T5.setTop (mkF m 29 #[.val (.ref src), .val (.int (t + (1 : Int32))), .val (.int len), .val (.ref b1), .val (.int (t + (1 : Int32)))] [])) _
        refine XS.goto X5.here hx rfl (pc0 := 29) (pc' := 8) rfl (hb hby d25_29) (by decide) (by decide) ?_
        show Steps p.tables e below (T5.setTop (mkF m 8 #[.val (.ref src), .val (.int (t + (1 : Int32))), .val (.int len), .val (.ref b1), .val (.int (t + (1 : Int32)))] [])) _
        exact kt
      have ht := own_inc (j := t) q0 (by omega)
      have htn := own_nat (j := t) q0
      have hg2 : ∀ i : Nat, (i : Int) < (t + (1 : Int32)).toInt → gp5 (2 * i) = StrChars.lo8 (f i) ∧ gp5 (2 * i + 1) = StrChars.hi8 (f i) := by
        intro i hi
        rw [ht] at hi
        rw [hgp5, hgp5]
        by_cases qq : (i : Int) = t.toInt
        · have e1 : i = t.toNatClampNeg := by omega
          rw [if_pos (by omega), if_neg (by omega), if_pos (by omega), e1]
          exact ⟨rfl, rfl⟩
        · rw [if_neg (by omega), if_neg (by omega), if_neg (by omega), if_neg (by omega)]
          exact hg i (by omega)
      obtain ⟨T1, lc1, t1, g1, y1, y2, y3, y4, y5, y6⟩ := ih _ _ _ (t + (1 : Int32)) gp5 X5 rfl N5 (Oa.keep K5 (allS g_b1 all0)) (Nat.le_trans Za K5.1) (Sa.keep K5 (ninS ne_src_b1 nin0)) Vp5 hg2 (by rw [ht]; omega) (by rw [ht]; omega)
      exact ⟨T1, lc1, t1, g1, y1, y2, K5.trans y3 (fun x hx => Or.inl hx), y4, y5, fun tg k => pre6 _ (y6 tg k)⟩
  obtain ⟨T7, lc7, t7, gz7, X7, N7, K7, V7, hgz7, st7⟩ := loop len.toInt.toNat _ _ _ (0 : Int32) gb1 X1 rfl N1 Oc1 (Nat.le_trans Z0 Kc1.1) (VS.keep K1 nin0) Vb1 (fun i hi => by rw [show (0 : Int32).toInt = 0 from rfl] at hi; omega) (by decide) (by rw [show (0 : Int32).toInt = 0 from rfl]; omega)
  have Kc7 : Keep h0 T7.heap [] := Kc1.trans K7 (allS (Or.inr sz_b1) all0)
  have Oc7 := Oc1.keep K7 (allS g_b1 all0)
  obtain ⟨fs, hr, hrun, hended, hW, hsame⟩ := X7.leave (v := some (.ref b1)) (fun h => by rw [Bd.returns] at h; cases h)
  refine ⟨_, _, pre2 _ ?_, hrun, hended, _, _, rfl, ?_, ⟨_, rfl⟩, hW, hsame.mono (by decide) (by decide)⟩
  · refine st7 _ ?_
    show Steps p.tables e below (T7.setTop (mkF m 32 #[.val (.ref src), .val (.int t7), .val (.int len), .val (.ref b1), .val (.int t7)] [])) _
    refine XS.aloadN X7.here hx rfl (hb hby d25_32) rfl rfl ?_
    show Steps p.tables e below (T7.setTop (mkF m 33 #[.val (.ref src), .val (.int t7), .val (.int len), .val (.ref b1), .val (.int t7)] [(.ref b1)])) _
    exact retOut X7 hx Bd.returns rfl (Or.inr (Or.inr (Or.inr (Or.inr ⟨rfl, rfl, rfl⟩)))) (hb hby d25_33) hr
  · show Q25 Z src len ks f h0 n0 _ T7.heap _
    exact ⟨_, _, _, _, rfl, N7, g_b1, sz_b1, Kc7, V7, hzb1, hgz7⟩
theorem own_cod {len z : Int32} (la : 0 < len.toInt) (lb : len.toInt ≤ 3) (hz : z.toInt = 2 * len.toInt) : nar .byte (((len - z).toUInt32 >>> ((31 : Int32) &&& 31).toUInt32).toInt32.toInt8.toInt32) = 1 := by
  have h := c_isub len z
  have r := rng32 (len - z)
  have e1 : (-1 : Int32).toInt = -1 := rfl
  have e2 : (-2 : Int32).toInt = -2 := rfl
  have e3 : (-3 : Int32).toInt = -3 := rfl
  have key : len - z = -1 ∨ len - z = -2 ∨ len - z = -3 := by
    rw [← Int32.toInt_inj, ← Int32.toInt_inj, ← Int32.toInt_inj, e1, e2, e3]; omega
  rcases key with q | q | q <;> rw [q] <;> decide
theorem d17_0 : decode jdk_52_method_15_code 0 = .ok (.iload_n 1, 1) := by decide +kernel
theorem d17_1 : decode jdk_52_method_15_code 1 = .ok (.aload_n 0, 1) := by decide +kernel
theorem d17_2 : decode jdk_52_method_15_code 2 = .ok (.arraylength, 1) := by decide +kernel
theorem d17_3 : decode jdk_52_method_15_code 3 = .ok (.isub, 1) := by decide +kernel
theorem d17_4 : decode jdk_52_method_15_code 4 = .ok (.bipush 31, 2) := by decide +kernel
theorem d17_6 : decode jdk_52_method_15_code 6 = .ok (.iushr, 1) := by decide +kernel
theorem d17_7 : decode jdk_52_method_15_code 7 = .ok (.i2b, 1) := by decide +kernel
theorem d17_8 : decode jdk_52_method_15_code 8 = .ok (.ireturn, 1) := by decide +kernel
theorem ef_rm17 (m : MethodId) (x0 : Addr) (x1 : Int32) : entryFrame m #[(.ref x0), (.int x1)] 2 = mkF m 0 #[.val (.ref x0), .val (.int x1)] [] := by first | (simp [entryFrame, mkF, argsToLocals, Value.category]; done) | rfl
def Q17 (Z : State) (ar : Addr) (len : Int32) (kb : ClassId) (z : Int32) (g : Nat → Int32) (h0 : Heap) (n0 : Nat) (v : Option Value) (h : Heap) (L : List Loc) : Prop := v = some (.int (1 : Int32)) ∧ Fr n0 L ∧ h = h0
set_option maxRecDepth 65536 in
set_option maxHeartbeats 40000000 in
theorem rm17 (l : Launch) (Z : State) (a0 : Array Value) (hw : ∀ d ∈ tables_1, d.before a0 Z = true) (ws : List Jvm.Cond) (ar : Addr) (len : Int32) (kb : ClassId) (z : Int32) (g : Nat → Int32) (h0 : Heap) (n0 : Nat) (Z0 : n0 ≤ h0.size) (V0 : PA Z h0 ar kb .byte z g) (hz : z.toInt = 2 * len.toInt) (la : 0 < len.toInt) (lb : len.toInt ≤ 3) :
    MetFree l (⟨"java/lang/StringUTF16", "coderFromArrayLen", "([BI)B"⟩ : MethodName) (head1 (Jvm.Cond.code (⟨"java/lang/StringUTF16", "coderFromArrayLen", "([BI)B"⟩ : MethodName) jdk_52_method_15_code 2 (some .byte) :: ws) ({ frames := 0, cells := 0, slots := 0, locals := 0 } : Room)) (fun a U => a = #[(.ref ar), (.int len)] ∧ Z.Warmed39 U.vm ∧ U.heap = h0) (fun _ _ _ _ _ => True) (fun _ U o U' => ∃ v L, o = .returned v ∧ Q17 Z ar len kb z g h0 n0 v U'.heap L ∧ FrameEnd U o U' L ({ frames := 0, cells := 0, slots := 0, locals := 0 } : Room).cells ({ frames := 0, cells := 0, slots := 0, locals := 0 } : Room).slots) := by
  refine MetFree.of_bodySF (plainFor_of_name pn_0) hisR ?_
  intro p e s m args below meth c s₁ Bd hml0 hP hK
  obtain ⟨rfl, hZ, hh⟩ := hP
  have hx := Bd.exec
  have hby := Bd.bytes
  have hml : c.maxLocals = 2 := hml0
  have hown : s.vm.findClass "java/lang/StringUTF16" = some m.cls := findClass_of_methodNamed Bd.named
  have hnm := (name_of_methodNamed Bd.named Bd.method).1
  have X0 : Stand p l e ({ frames := 0, cells := 0, slots := 0, locals := 0 } : Room) s m #[(.ref ar), (.int len)] below meth c s₁ [] 0 0 := Stand.of_body Bd
  have e0 : s₁.heap = h0 := by rw [← hh, Bd.state]; rfl
  have N0 := Fr.nil n0
  have pre0 : ∀ t, Steps p.tables e below (s₁.setTop (mkF m 0 #[.val (.ref ar), .val (.int len)] [])) t → Steps p.tables e below (s₁.setTop (entryFrame m #[(.ref ar), (.int len)] 2)) t := fun t k => castTop (ef_rm17 m ar len) k
  obtain ⟨cl1, Ar1, hc1c, hz1, hn1n, he1, hg1g⟩ := (id V0)
  obtain ⟨fs, hr, hrun, hended, hW, hsame⟩ := X0.leave (v := some (.int (nar .byte ((((len - z).toUInt32 >>> ((31 : Int32) &&& 31).toUInt32).toInt32).toInt8.toInt32)))) (fun h => by rw [Bd.returns] at h; cases h)
  refine ⟨_, _, pre0 _ ?_, hrun, hended, _, _, rfl, ?_, ⟨_, rfl⟩, hW, hsame.mono (by decide) (by decide)⟩
  · show Steps p.tables e below (s₁.setTop (mkF m 0 #[.val (.ref ar), .val (.int len)] [])) _
    refine XS.iloadN X0.here hx rfl (hb hby d17_0) rfl ?_
    show Steps p.tables e below (s₁.setTop (mkF m 1 #[.val (.ref ar), .val (.int len)] [(.int len)])) _
    refine XS.aloadN X0.here hx rfl (hb hby d17_1) rfl rfl ?_
    show Steps p.tables e below (s₁.setTop (mkF m 2 #[.val (.ref ar), .val (.int len)] [(.ref ar), (.int len)])) _
    refine X0.arraylength hx (by rw [e0]; exact Ar1.1) (State.isArrayOf_alike (hZ).alike Ar1.2.1) (g := (mkF m 2 #[.val (.ref ar), .val (.int len)] [(.ref ar), (.int len)])) rfl rfl (hb hby d17_2) _ ?_
    rw [len_of hz1 hn1n]
    show Steps p.tables e below (s₁.setTop (mkF m 3 #[.val (.ref ar), .val (.int len)] [(.int z), (.int len)])) _
    refine XS.isub X0.here hx rfl (hb hby d17_3) rfl ?_
    show Steps p.tables e below (s₁.setTop (mkF m 4 #[.val (.ref ar), .val (.int len)] [(.int (len - z))])) _
    refine XS.bipush X0.here hx rfl (hb hby d17_4) ?_
    show Steps p.tables e below (s₁.setTop (mkF m 6 #[.val (.ref ar), .val (.int len)] [(.int (31 : Int32)), (.int (len - z))])) _
    refine XS.iushr X0.here hx rfl (hb hby d17_6) rfl ?_
    show Steps p.tables e below (s₁.setTop (mkF m 7 #[.val (.ref ar), .val (.int len)] [(.int (((len - z).toUInt32 >>> ((31 : Int32) &&& 31).toUInt32).toInt32))])) _
    refine XS.i2b X0.here hx rfl (hb hby d17_7) rfl ?_
    show Steps p.tables e below (s₁.setTop (mkF m 8 #[.val (.ref ar), .val (.int len)] [(.int ((((len - z).toUInt32 >>> ((31 : Int32) &&& 31).toUInt32).toInt32).toInt8.toInt32))])) _
    exact retN X0 hx (t := .byte) Bd.returns (by simp) (hb hby d17_8) hr
  · show Q17 Z ar len kb z g h0 n0 _ s₁.heap _
    rw [e0]
    refine ⟨?_, N0, rfl⟩
    show (some (.int (nar .byte ((((len - z).toUInt32 >>> ((31 : Int32) &&& 31).toUInt32).toInt32).toInt8.toInt32))) : Option Value) = some (.int (1 : Int32))
    rw [own_cod la lb hz]
theorem d32_0 : decode jdk_52_method_6_code 0 = .ok (.aload_n 0, 1) := by decide +kernel
theorem d32_1 : decode jdk_52_method_6_code 1 = .ok (.arraylength, 1) := by decide +kernel
theorem d32_2 : decode jdk_52_method_6_code 2 = .ok (.iconst 1, 1) := by decide +kernel
theorem d32_3 : decode jdk_52_method_6_code 3 = .ok (.ishr, 1) := by decide +kernel
theorem d32_4 : decode jdk_52_method_6_code 4 = .ok (.ireturn, 1) := by decide +kernel
theorem ef_rm32 (m : MethodId) (x0 : Addr) : entryFrame m #[(.ref x0)] 1 = mkF m 0 #[.val (.ref x0)] [] := by first | (simp [entryFrame, mkF, argsToLocals, Value.category]; done) | rfl
def Q32 (Z : State) (ar : Addr) (len : Int32) (kb : ClassId) (z : Int32) (g : Nat → Int32) (h0 : Heap) (n0 : Nat) (v : Option Value) (h : Heap) (L : List Loc) : Prop := v = some (.int len) ∧ Fr n0 L ∧ h = h0
set_option maxRecDepth 65536 in
set_option maxHeartbeats 40000000 in
theorem rm32 (l : Launch) (Z : State) (a0 : Array Value) (hw : ∀ d ∈ tables_1, d.before a0 Z = true) (ws : List Jvm.Cond) (ar : Addr) (len : Int32) (kb : ClassId) (z : Int32) (g : Nat → Int32) (h0 : Heap) (n0 : Nat) (Z0 : n0 ≤ h0.size) (V0 : PA Z h0 ar kb .byte z g) (hz : z.toInt = 2 * len.toInt) :
    MetFree l (⟨"java/lang/StringUTF16", "length", "([B)I"⟩ : MethodName) (head1 (Jvm.Cond.code (⟨"java/lang/StringUTF16", "length", "([B)I"⟩ : MethodName) jdk_52_method_6_code 1 (some .int) :: ws) ({ frames := 0, cells := 0, slots := 0, locals := 0 } : Room)) (fun a U => a = #[(.ref ar)] ∧ Z.Warmed39 U.vm ∧ U.heap = h0) (fun _ _ _ _ _ => True) (fun _ U o U' => ∃ v L, o = .returned v ∧ Q32 Z ar len kb z g h0 n0 v U'.heap L ∧ FrameEnd U o U' L ({ frames := 0, cells := 0, slots := 0, locals := 0 } : Room).cells ({ frames := 0, cells := 0, slots := 0, locals := 0 } : Room).slots) := by
  refine MetFree.of_bodySF (plainFor_of_name pn_0) hisR ?_
  intro p e s m args below meth c s₁ Bd hml0 hP hK
  obtain ⟨rfl, hZ, hh⟩ := hP
  have hx := Bd.exec
  have hby := Bd.bytes
  have hml : c.maxLocals = 1 := hml0
  have hown : s.vm.findClass "java/lang/StringUTF16" = some m.cls := findClass_of_methodNamed Bd.named
  have hnm := (name_of_methodNamed Bd.named Bd.method).1
  have X0 : Stand p l e ({ frames := 0, cells := 0, slots := 0, locals := 0 } : Room) s m #[(.ref ar)] below meth c s₁ [] 0 0 := Stand.of_body Bd
  have e0 : s₁.heap = h0 := by rw [← hh, Bd.state]; rfl
  have N0 := Fr.nil n0
  have pre0 : ∀ t, Steps p.tables e below (s₁.setTop (mkF m 0 #[.val (.ref ar)] [])) t → Steps p.tables e below (s₁.setTop (entryFrame m #[(.ref ar)] 1)) t := fun t k => castTop (ef_rm32 m ar) k
  obtain ⟨cl1, Ar1, hc1c, hz1, hn1n, he1, hg1g⟩ := (id V0)
  obtain ⟨fs, hr, hrun, hended, hW, hsame⟩ := X0.leave (v := some (.int (z >>> ((1 : Int32) &&& 31)))) (fun h => by rw [Bd.returns] at h; cases h)
  refine ⟨_, _, pre0 _ ?_, hrun, hended, _, _, rfl, ?_, ⟨_, rfl⟩, hW, hsame.mono (by decide) (by decide)⟩
  · show Steps p.tables e below (s₁.setTop (mkF m 0 #[.val (.ref ar)] [])) _
    refine XS.aloadN X0.here hx rfl (hb hby d32_0) rfl rfl ?_
    show Steps p.tables e below (s₁.setTop (mkF m 1 #[.val (.ref ar)] [(.ref ar)])) _
    refine X0.arraylength hx (by rw [e0]; exact Ar1.1) (State.isArrayOf_alike (hZ).alike Ar1.2.1) (g := (mkF m 1 #[.val (.ref ar)] [(.ref ar)])) rfl rfl (hb hby d32_1) _ ?_
    rw [len_of hz1 hn1n]
    show Steps p.tables e below (s₁.setTop (mkF m 2 #[.val (.ref ar)] [(.int z)])) _
    refine XS.iconst X0.here hx rfl (hb hby d32_2) ?_
    show Steps p.tables e below (s₁.setTop (mkF m 3 #[.val (.ref ar)] [(.int (1 : Int32)), (.int z)])) _
    refine XS.ishr X0.here hx rfl (hb hby d32_3) rfl ?_
    show Steps p.tables e below (s₁.setTop (mkF m 4 #[.val (.ref ar)] [(.int (z >>> ((1 : Int32) &&& 31)))])) _
    exact retI X0 hx Bd.returns (hb hby d32_4) hr
  · show Q32 Z ar len kb z g h0 n0 _ s₁.heap _
    rw [e0]
    refine ⟨?_, N0, rfl⟩
    show (some (.int (z >>> ((1 : Int32) &&& 31))) : Option Value) = some (.int len)
    rw [show (z >>> ((1 : Int32) &&& 31)) = len from Int32.toInt_inj.mp (by rw [own_half, hz]; omega)]
theorem d16_0 : decode jdk_52_method_21_code 0 = .ok (.iconst 0, 1) := by decide +kernel
theorem d16_1 : decode jdk_52_method_21_code 1 = .ok (.istore 5, 2) := by decide +kernel
theorem d16_3 : decode jdk_52_method_21_code 3 = .ok (.iload 5, 2) := by decide +kernel
theorem d16_5 : decode jdk_52_method_21_code 5 = .ok (.iload 4, 2) := by decide +kernel
theorem d16_7 : decode jdk_52_method_21_code 7 = .ok (.if_icmp .ge 37, 3) := by decide +kernel
theorem d16_10 : decode jdk_52_method_21_code 10 = .ok (.aload_n 0, 1) := by decide +kernel
theorem d16_11 : decode jdk_52_method_21_code 11 = .ok (.iload_n 1, 1) := by decide +kernel
theorem d16_12 : decode jdk_52_method_21_code 12 = .ok (.caload, 1) := by decide +kernel
theorem d16_13 : decode jdk_52_method_21_code 13 = .ok (.istore 6, 2) := by decide +kernel
theorem d16_15 : decode jdk_52_method_21_code 15 = .ok (.iload 6, 2) := by decide +kernel
theorem d16_17 : decode jdk_52_method_21_code 17 = .ok (.sipush 255, 3) := by decide +kernel
theorem d16_20 : decode jdk_52_method_21_code 20 = .ok (.if_icmp .le 6, 3) := by decide +kernel
theorem d16_23 : decode jdk_52_method_21_code 23 = .ok (.iload 5, 2) := by decide +kernel
theorem d16_26 : decode jdk_52_method_21_code 26 = .ok (.aload_n 2, 1) := by decide +kernel
theorem d16_27 : decode jdk_52_method_21_code 27 = .ok (.iload_n 3, 1) := by decide +kernel
theorem d16_28 : decode jdk_52_method_21_code 28 = .ok (.iload 6, 2) := by decide +kernel
theorem d16_30 : decode jdk_52_method_21_code 30 = .ok (.i2b, 1) := by decide +kernel
theorem d16_31 : decode jdk_52_method_21_code 31 = .ok (.bastore, 1) := by decide +kernel
theorem d16_32 : decode jdk_52_method_21_code 32 = .ok (.iinc 1 1, 3) := by decide +kernel
theorem d16_35 : decode jdk_52_method_21_code 35 = .ok (.iinc 3 1, 3) := by decide +kernel
theorem d16_38 : decode jdk_52_method_21_code 38 = .ok (.iinc 5 1, 3) := by decide +kernel
theorem d16_41 : decode jdk_52_method_21_code 41 = .ok (.goto (-38), 3) := by decide +kernel
theorem d16_25 : decode jdk_52_method_21_code 25 = .ok (.ireturn, 1) := by decide +kernel
theorem ef_rm16 (m : MethodId) (x0 : Addr) (x2 : Addr) (x4 : Int32) : entryFrame m #[(.ref x0), (.int (0 : Int32)), (.ref x2), (.int (0 : Int32)), (.int x4)] 7 = mkF m 0 #[.val (.ref x0), .val (.int (0 : Int32)), .val (.ref x2), .val (.int (0 : Int32)), .val (.int x4), .unset, .unset] [] := by first | (simp [entryFrame, mkF, argsToLocals, Value.category]; done) | rfl
def Q16 (Z : State) (src : Addr) (dst : Addr) (len : Int32) (ks : ClassId) (kd : ClassId) (f : Nat → Int32) (gd : Nat → Int32) (h0 : Heap) (n0 : Nat) (v : Option Value) (h : Heap) (L : List Loc) : Prop := ∃ t : Int32, v = some (.int t) ∧ Fr n0 L ∧ Keep h0 h [dst] ∧ 0 ≤ t.toInt ∧ t.toInt < len.toInt ∧ (255 : Int32) < f t.toNatClampNeg
set_option maxRecDepth 65536 in
set_option maxHeartbeats 40000000 in
theorem rm16 (l : Launch) (Z : State) (a0 : Array Value) (hw : ∀ d ∈ tables_1, d.before a0 Z = true) (ws : List Jvm.Cond) (src : Addr) (dst : Addr) (len : Int32) (ks : ClassId) (kd : ClassId) (f : Nat → Int32) (gd : Nat → Int32) (h0 : Heap) (n0 : Nat) (Z0 : n0 ≤ h0.size) (VS : PA Z h0 src ks .char len f) (VD : PA Z h0 dst kd .byte len gd) (g_dst : n0 ≤ dst) (hne : src ≠ dst) (hw_ : ∃ i : Nat, (i : Int) < len.toInt ∧ (255 : Int32) < f i) (la : 0 < len.toInt) (lb : len.toInt ≤ 3) :
    MetFree l (⟨"java/lang/StringUTF16", "compress", "([CI[BII)I"⟩ : MethodName) (head1 (Jvm.Cond.code (⟨"java/lang/StringUTF16", "compress", "([CI[BII)I"⟩ : MethodName) jdk_52_method_21_code 7 (some .int) :: ws) ({ frames := 0, cells := 0, slots := 0, locals := 0 } : Room)) (fun a U => a = #[(.ref src), (.int (0 : Int32)), (.ref dst), (.int (0 : Int32)), (.int len)] ∧ Z.Warmed39 U.vm ∧ U.heap = h0) (fun _ _ _ _ _ => True) (fun _ U o U' => ∃ v L, o = .returned v ∧ Q16 Z src dst len ks kd f gd h0 n0 v U'.heap L ∧ FrameEnd U o U' L ({ frames := 0, cells := 0, slots := 0, locals := 0 } : Room).cells ({ frames := 0, cells := 0, slots := 0, locals := 0 } : Room).slots) := by
  refine MetFree.of_bodySF (plainFor_of_name pn_0) hisR ?_
  intro p e s m args below meth c s₁ Bd hml0 hP hK
  obtain ⟨rfl, hZ, hh⟩ := hP
  have hx := Bd.exec
  have hby := Bd.bytes
  have hml : c.maxLocals = 7 := hml0
  have hown : s.vm.findClass "java/lang/StringUTF16" = some m.cls := findClass_of_methodNamed Bd.named
  have hnm := (name_of_methodNamed Bd.named Bd.method).1
  have X0 : Stand p l e ({ frames := 0, cells := 0, slots := 0, locals := 0 } : Room) s m #[(.ref src), (.int (0 : Int32)), (.ref dst), (.int (0 : Int32)), (.int len)] below meth c s₁ [] 0 0 := Stand.of_body Bd
  have e0 : s₁.heap = h0 := by rw [← hh, Bd.state]; rfl
  have N0 := Fr.nil n0
  have pre0 : ∀ t, Steps p.tables e below (s₁.setTop (mkF m 0 #[.val (.ref src), .val (.int (0 : Int32)), .val (.ref dst), .val (.int (0 : Int32)), .val (.int len), .unset, .unset] [])) t → Steps p.tables e below (s₁.setTop (entryFrame m #[(.ref src), (.int (0 : Int32)), (.ref dst), (.int (0 : Int32)), (.int len)] 7)) t := fun t k => castTop (ef_rm16 m src dst len) k
  have pre1 : ∀ tq, Steps p.tables e below (s₁.setTop (mkF m 3 #[.val (.ref src), .val (.int (0 : Int32)), .val (.ref dst), .val (.int (0 : Int32)), .val (.int len), .val (.int (0 : Int32)), .unset] [])) tq → Steps p.tables e below (s₁.setTop (entryFrame m #[(.ref src), (.int (0 : Int32)), (.ref dst), (.int (0 : Int32)), (.int len)] 7)) tq := by
    intro tq kt
    refine pre0 tq ?_
    show Steps p.tables e below (s₁.setTop (mkF m 0 #[.val (.ref src), .val (.int (0 : Int32)), .val (.ref dst), .val (.int (0 : Int32)), .val (.int len), .unset, .unset] [])) _
    refine XS.iconst X0.here hx rfl (hb hby d16_0) ?_
    show Steps p.tables e below (s₁.setTop (mkF m 1 #[.val (.ref src), .val (.int (0 : Int32)), .val (.ref dst), .val (.int (0 : Int32)), .val (.int len), .unset, .unset] [(.int (0 : Int32))])) _
    refine XS.istore X0.here hx rfl (hb hby d16_1) rfl (l' := #[.val (.ref src), .val (.int (0 : Int32)), .val (.ref dst), .val (.int (0 : Int32)), .val (.int len), .val (.int (0 : Int32)), .unset]) rfl ?_
    show Steps p.tables e below (s₁.setTop (mkF m 3 #[.val (.ref src), .val (.int (0 : Int32)), .val (.ref dst), .val (.int (0 : Int32)), .val (.int len), .val (.int (0 : Int32)), .unset] [])) _
    exact kt
  obtain ⟨wi, hwi, hwf⟩ := hw_
  have loop : ∀ (n : Nat) (T0 : State) (lc : List Loc) (hp : Heap) (t : Int32) (s6 : Slot) (g : Nat → Int32), Stand p l e ({ frames := 0, cells := 0, slots := 0, locals := 0 } : Room) s m #[(.ref src), (.int (0 : Int32)), (.ref dst), (.int (0 : Int32)), (.int len)] below meth c T0 lc 0 0 → T0.heap = hp → Fr n0 lc → PA Z hp src ks .char len f → PA Z hp dst kd .byte len g → 0 ≤ t.toInt → t.toInt + n = wi → (∀ y : Int32, storeLocals #[.val (.ref src), .val (.int t), .val (.ref dst), .val (.int t), .val (.int len), .val (.int t), s6] 6 (.int y) = some #[.val (.ref src), .val (.int t), .val (.ref dst), .val (.int t), .val (.int len), .val (.int t), .val (.int y)]) →
      ∃ (T1 : State) (lc1 : List Loc) (t1 : Int32) (s6' : Slot), Stand p l e ({ frames := 0, cells := 0, slots := 0, locals := 0 } : Room) s m #[(.ref src), (.int (0 : Int32)), (.ref dst), (.int (0 : Int32)), (.int len)] below meth c T1 lc1 0 0 ∧ Fr n0 lc1 ∧ Keep hp T1.heap [dst] ∧ 0 ≤ t1.toInt ∧ t1.toInt < len.toInt ∧ (255 : Int32) < f t1.toNatClampNeg ∧ ∀ tg, Steps p.tables e below (T1.setTop (mkF m 25 #[.val (.ref src), .val (.int t1), .val (.ref dst), .val (.int t1), .val (.int len), .val (.int t1), s6'] [.int t1])) tg → Steps p.tables e below (T0.setTop (mkF m 3 #[.val (.ref src), .val (.int t), .val (.ref dst), .val (.int t), .val (.int len), .val (.int t), s6] [])) tg := by
    intro n
    induction n with
    | zero =>
      intro T0 lc hp t s6 g Xa ea Na Sa Va q0 q1 hs
      have preL : ∀ tg, Steps p.tables e below (T0.setTop (mkF m 3 #[.val (.ref src), .val (.int t), .val (.ref dst), .val (.int t), .val (.int len), .val (.int t), s6] [])) tg → Steps p.tables e below (T0.setTop (mkF m 3 #[.val (.ref src), .val (.int t), .val (.ref dst), .val (.int t), .val (.int len), .val (.int t), s6] [])) tg := fun _ k => k
      have htn : t.toNatClampNeg = wi := by have := own_nat (j := t) q0; omega
      obtain ⟨cl2, Ar2, hc2c, hz2, hn2n, he2, hg2g⟩ := (id Sa)
      have hin2 := own_in hz2 (j := t) q0 (by omega)
      have hat2 : cl2.slots[t.toNatClampNeg]? = some (.int (f t.toNatClampNeg)) := he2 _ (own_lt hz2 q0 (by omega))
      have pre3 : ∀ tq, Steps p.tables e below (T0.setTop (mkF m 25 #[.val (.ref src), .val (.int t), .val (.ref dst), .val (.int t), .val (.int len), .val (.int t), .val (.int (f t.toNatClampNeg))] [(.int t)])) tq → Steps p.tables e below (T0.setTop (mkF m 3 #[.val (.ref src), .val (.int t), .val (.ref dst), .val (.int t), .val (.int len), .val (.int t), s6] [])) tq := by
        intro tq kt
        refine preL tq ?_
        show Steps p.tables e below (T0.setTop (mkF m 3 #[.val (.ref src), .val (.int t), .val (.ref dst), .val (.int t), .val (.int len), .val (.int t), s6] [])) _
        refine XS.iload Xa.here hx rfl (hb hby d16_3) rfl ?_
        show Steps p.tables e below (T0.setTop (mkF m 5 #[.val (.ref src), .val (.int t), .val (.ref dst), .val (.int t), .val (.int len), .val (.int t), s6] [(.int t)])) _
        refine XS.iload Xa.here hx rfl (hb hby d16_5) rfl ?_
        show Steps p.tables e below (T0.setTop (mkF m 7 #[.val (.ref src), .val (.int t), .val (.ref dst), .val (.int t), .val (.int len), .val (.int t), s6] [(.int len), (.int t)])) _
        refine XS.icmpNo Xa.here hx rfl (hb hby d16_7) rfl (tlt (by rw [Int32.lt_iff_toInt_lt]; omega : t < len)).2.1 ?_
        show Steps p.tables e below (T0.setTop (mkF m 10 #[.val (.ref src), .val (.int t), .val (.ref dst), .val (.int t), .val (.int len), .val (.int t), s6] [])) _
        refine XS.aloadN Xa.here hx rfl (hb hby d16_10) rfl rfl ?_
        show Steps p.tables e below (T0.setTop (mkF m 11 #[.val (.ref src), .val (.int t), .val (.ref dst), .val (.int t), .val (.int len), .val (.int t), s6] [(.ref src)])) _
        refine XS.iloadN Xa.here hx rfl (hb hby d16_11) rfl ?_
        show Steps p.tables e below (T0.setTop (mkF m 12 #[.val (.ref src), .val (.int t), .val (.ref dst), .val (.int t), .val (.int len), .val (.int t), s6] [(.int t), (.ref src)])) _
        refine Xa.caload hx (j := t) (v := (.int (f t.toNatClampNeg))) (by rw [ea]; exact Ar2.1) (State.isArrayOf_alike (hZ).alike Ar2.2.1) Ar2.2.2 hin2 hat2 (g := (mkF m 12 #[.val (.ref src), .val (.int t), .val (.ref dst), .val (.int t), .val (.int len), .val (.int t), s6] [(.int t), (.ref src)])) rfl rfl (hb hby d16_12) _ ?_
        show Steps p.tables e below (T0.setTop (mkF m 13 #[.val (.ref src), .val (.int t), .val (.ref dst), .val (.int t), .val (.int len), .val (.int t), s6] [(.int (f t.toNatClampNeg))])) _
        refine XS.istore Xa.here hx rfl (hb hby d16_13) rfl (l' := #[.val (.ref src), .val (.int t), .val (.ref dst), .val (.int t), .val (.int len), .val (.int t), .val (.int (f t.toNatClampNeg))]) (hs _) ?_
        show Steps p.tables e below (T0.setTop (mkF m 15 #[.val (.ref src), .val (.int t), .val (.ref dst), .val (.int t), .val (.int len), .val (.int t), .val (.int (f t.toNatClampNeg))] [])) _
        refine XS.iload Xa.here hx rfl (hb hby d16_15) rfl ?_
        show Steps p.tables e below (T0.setTop (mkF m 17 #[.val (.ref src), .val (.int t), .val (.ref dst), .val (.int t), .val (.int len), .val (.int t), .val (.int (f t.toNatClampNeg))] [(.int (f t.toNatClampNeg))])) _
        refine XS.sipush Xa.here hx rfl (hb hby d16_17) ?_
        show Steps p.tables e below (T0.setTop (mkF m 20 #[.val (.ref src), .val (.int t), .val (.ref dst), .val (.int t), .val (.int len), .val (.int t), .val (.int (f t.toNatClampNeg))] [(.int (255 : Int32)), (.int (f t.toNatClampNeg))])) _
        refine XS.icmpNo Xa.here hx rfl (hb hby d16_20) rfl (tlt (by rw [htn]; exact hwf : (255 : Int32) < (f t.toNatClampNeg))).2.2.2 ?_
        show Steps p.tables e below (T0.setTop (mkF m 23 #[.val (.ref src), .val (.int t), .val (.ref dst), .val (.int t), .val (.int len), .val (.int t), .val (.int (f t.toNatClampNeg))] [])) _
        refine XS.iload Xa.here hx rfl (hb hby d16_23) rfl ?_
        show Steps p.tables e below (T0.setTop (mkF m 25 #[.val (.ref src), .val (.int t), .val (.ref dst), .val (.int t), .val (.int len), .val (.int t), .val (.int (f t.toNatClampNeg))] [(.int t)])) _
        exact kt
      subst ea
      exact ⟨_, lc, t, (.val (.int (f t.toNatClampNeg))), Xa, Na, Keep.refl _ _, q0, by omega, (by rw [htn]; exact hwf), pre3⟩
    | succ n ih =>
      intro T0 lc hp t s6 g Xa ea Na Sa Va q0 q1 hs
      by_cases hw2 : (255 : Int32) < f t.toNatClampNeg
      · have preL : ∀ tg, Steps p.tables e below (T0.setTop (mkF m 3 #[.val (.ref src), .val (.int t), .val (.ref dst), .val (.int t), .val (.int len), .val (.int t), s6] [])) tg → Steps p.tables e below (T0.setTop (mkF m 3 #[.val (.ref src), .val (.int t), .val (.ref dst), .val (.int t), .val (.int len), .val (.int t), s6] [])) tg := fun _ k => k
        obtain ⟨cl4, Ar4, hc4c, hz4, hn4n, he4, hg4g⟩ := (id Sa)
        have hin4 := own_in hz4 (j := t) q0 (by omega)
        have hat4 : cl4.slots[t.toNatClampNeg]? = some (.int (f t.toNatClampNeg)) := he4 _ (own_lt hz4 q0 (by omega))
        have pre5 : ∀ tq, Steps p.tables e below (T0.setTop (mkF m 25 #[.val (.ref src), .val (.int t), .val (.ref dst), .val (.int t), .val (.int len), .val (.int t), .val (.int (f t.toNatClampNeg))] [(.int t)])) tq → Steps p.tables e below (T0.setTop (mkF m 3 #[.val (.ref src), .val (.int t), .val (.ref dst), .val (.int t), .val (.int len), .val (.int t), s6] [])) tq := by
          intro tq kt
          refine preL tq ?_
          show Steps p.tables e below (T0.setTop (mkF m 3 #[.val (.ref src), .val (.int t), .val (.ref dst), .val (.int t), .val (.int len), .val (.int t), s6] [])) _
          refine XS.iload Xa.here hx rfl (hb hby d16_3) rfl ?_
          show Steps p.tables e below (T0.setTop (mkF m 5 #[.val (.ref src), .val (.int t), .val (.ref dst), .val (.int t), .val (.int len), .val (.int t), s6] [(.int t)])) _
          refine XS.iload Xa.here hx rfl (hb hby d16_5) rfl ?_
          show Steps p.tables e below (T0.setTop (mkF m 7 #[.val (.ref src), .val (.int t), .val (.ref dst), .val (.int t), .val (.int len), .val (.int t), s6] [(.int len), (.int t)])) _
          refine XS.icmpNo Xa.here hx rfl (hb hby d16_7) rfl (tlt (by rw [Int32.lt_iff_toInt_lt]; omega : t < len)).2.1 ?_
          show Steps p.tables e below (T0.setTop (mkF m 10 #[.val (.ref src), .val (.int t), .val (.ref dst), .val (.int t), .val (.int len), .val (.int t), s6] [])) _
          refine XS.aloadN Xa.here hx rfl (hb hby d16_10) rfl rfl ?_
          show Steps p.tables e below (T0.setTop (mkF m 11 #[.val (.ref src), .val (.int t), .val (.ref dst), .val (.int t), .val (.int len), .val (.int t), s6] [(.ref src)])) _
          refine XS.iloadN Xa.here hx rfl (hb hby d16_11) rfl ?_
          show Steps p.tables e below (T0.setTop (mkF m 12 #[.val (.ref src), .val (.int t), .val (.ref dst), .val (.int t), .val (.int len), .val (.int t), s6] [(.int t), (.ref src)])) _
          refine Xa.caload hx (j := t) (v := (.int (f t.toNatClampNeg))) (by rw [ea]; exact Ar4.1) (State.isArrayOf_alike (hZ).alike Ar4.2.1) Ar4.2.2 hin4 hat4 (g := (mkF m 12 #[.val (.ref src), .val (.int t), .val (.ref dst), .val (.int t), .val (.int len), .val (.int t), s6] [(.int t), (.ref src)])) rfl rfl (hb hby d16_12) _ ?_
          show Steps p.tables e below (T0.setTop (mkF m 13 #[.val (.ref src), .val (.int t), .val (.ref dst), .val (.int t), .val (.int len), .val (.int t), s6] [(.int (f t.toNatClampNeg))])) _
          refine XS.istore Xa.here hx rfl (hb hby d16_13) rfl (l' := #[.val (.ref src), .val (.int t), .val (.ref dst), .val (.int t), .val (.int len), .val (.int t), .val (.int (f t.toNatClampNeg))]) (hs _) ?_
          show Steps p.tables e below (T0.setTop (mkF m 15 #[.val (.ref src), .val (.int t), .val (.ref dst), .val (.int t), .val (.int len), .val (.int t), .val (.int (f t.toNatClampNeg))] [])) _
          refine XS.iload Xa.here hx rfl (hb hby d16_15) rfl ?_
          show Steps p.tables e below (T0.setTop (mkF m 17 #[.val (.ref src), .val (.int t), .val (.ref dst), .val (.int t), .val (.int len), .val (.int t), .val (.int (f t.toNatClampNeg))] [(.int (f t.toNatClampNeg))])) _
          refine XS.sipush Xa.here hx rfl (hb hby d16_17) ?_
          show Steps p.tables e below (T0.setTop (mkF m 20 #[.val (.ref src), .val (.int t), .val (.ref dst), .val (.int t), .val (.int len), .val (.int t), .val (.int (f t.toNatClampNeg))] [(.int (255 : Int32)), (.int (f t.toNatClampNeg))])) _
          refine XS.icmpNo Xa.here hx rfl (hb hby d16_20) rfl (tlt hw2).2.2.2 ?_
          show Steps p.tables e below (T0.setTop (mkF m 23 #[.val (.ref src), .val (.int t), .val (.ref dst), .val (.int t), .val (.int len), .val (.int t), .val (.int (f t.toNatClampNeg))] [])) _
          refine XS.iload Xa.here hx rfl (hb hby d16_23) rfl ?_
          show Steps p.tables e below (T0.setTop (mkF m 25 #[.val (.ref src), .val (.int t), .val (.ref dst), .val (.int t), .val (.int len), .val (.int t), .val (.int (f t.toNatClampNeg))] [(.int t)])) _
          exact kt
        subst ea
        exact ⟨_, lc, t, (.val (.int (f t.toNatClampNeg))), Xa, Na, Keep.refl _ _, q0, by omega, hw2, pre5⟩
      · have preL : ∀ tg, Steps p.tables e below (T0.setTop (mkF m 3 #[.val (.ref src), .val (.int t), .val (.ref dst), .val (.int t), .val (.int len), .val (.int t), s6] [])) tg → Steps p.tables e below (T0.setTop (mkF m 3 #[.val (.ref src), .val (.int t), .val (.ref dst), .val (.int t), .val (.int len), .val (.int t), s6] [])) tg := fun _ k => k
        obtain ⟨cl6, Ar6, hc6c, hz6, hn6n, he6, hg6g⟩ := (id Sa)
        have hin6 := own_in hz6 (j := t) q0 (by omega)
        have hat6 : cl6.slots[t.toNatClampNeg]? = some (.int (f t.toNatClampNeg)) := he6 _ (own_lt hz6 q0 (by omega))
        have Vk7 := Va
        obtain ⟨cl7, Ar7, hc7c, hz7, hn7n, he7, hg7g⟩ := Vk7
        have hin7 := own_in hz7 (j := t) q0 (by omega)
        obtain ⟨T8, h8, X8, e8, W8, st8⟩ := stB Xa hx hZ ea Ar7 (j := t) hin7 (g := (mkF m 31 #[.val (.ref src), .val (.int t), .val (.ref dst), .val (.int t), .val (.int len), .val (.int t), .val (.int (f t.toNatClampNeg))] [(.int ((f t.toNatClampNeg).toInt8.toInt32)), (.int t), (.ref dst)])) rfl rfl (hb hby d16_31)
        have N8 := Fr.snoc X8 Na g_dst
        obtain ⟨g8f, hf_g8f⟩ : ∃ gq : Nat → Int32, gq = fun i => if i = t.toNatClampNeg then (nar .byte ((f t.toNatClampNeg).toInt8.toInt32)) else g i := ⟨_, rfl⟩
        have V8 : PA Z h8 dst kd .byte len g8f := by rw [hf_g8f]; exact PA.set (f := g) Va (fits_nar_byte _) W8
        have pre9 : ∀ tq, Steps p.tables e below (T8.setTop (mkF m 3 #[.val (.ref src), .val (.int (t + (1 : Int32))), .val (.ref dst), .val (.int (t + (1 : Int32))), .val (.int len), .val (.int (t + (1 : Int32))), .val (.int (f t.toNatClampNeg))] [])) tq → Steps p.tables e below (T0.setTop (mkF m 3 #[.val (.ref src), .val (.int t), .val (.ref dst), .val (.int t), .val (.int len), .val (.int t), s6] [])) tq := by
          intro tq kt
          refine preL tq ?_
          show Steps p.tables e below (T0.setTop (mkF m 3 #[.val (.ref src), .val (.int t), .val (.ref dst), .val (.int t), .val (.int len), .val (.int t), s6] [])) _
          refine XS.iload Xa.here hx rfl (hb hby d16_3) rfl ?_
          show Steps p.tables e below (T0.setTop (mkF m 5 #[.val (.ref src), .val (.int t), .val (.ref dst), .val (.int t), .val (.int len), .val (.int t), s6] [(.int t)])) _
          refine XS.iload Xa.here hx rfl (hb hby d16_5) rfl ?_
          show Steps p.tables e below (T0.setTop (mkF m 7 #[.val (.ref src), .val (.int t), .val (.ref dst), .val (.int t), .val (.int len), .val (.int t), s6] [(.int len), (.int t)])) _
          refine XS.icmpNo Xa.here hx rfl (hb hby d16_7) rfl (tlt (by rw [Int32.lt_iff_toInt_lt]; omega : t < len)).2.1 ?_
          show Steps p.tables e below (T0.setTop (mkF m 10 #[.val (.ref src), .val (.int t), .val (.ref dst), .val (.int t), .val (.int len), .val (.int t), s6] [])) _
          refine XS.aloadN Xa.here hx rfl (hb hby d16_10) rfl rfl ?_
          show Steps p.tables e below (T0.setTop (mkF m 11 #[.val (.ref src), .val (.int t), .val (.ref dst), .val (.int t), .val (.int len), .val (.int t), s6] [(.ref src)])) _
          refine XS.iloadN Xa.here hx rfl (hb hby d16_11) rfl ?_
          show Steps p.tables e below (T0.setTop (mkF m 12 #[.val (.ref src), .val (.int t), .val (.ref dst), .val (.int t), .val (.int len), .val (.int t), s6] [(.int t), (.ref src)])) _
          refine Xa.caload hx (j := t) (v := (.int (f t.toNatClampNeg))) (by rw [ea]; exact Ar6.1) (State.isArrayOf_alike (hZ).alike Ar6.2.1) Ar6.2.2 hin6 hat6 (g := (mkF m 12 #[.val (.ref src), .val (.int t), .val (.ref dst), .val (.int t), .val (.int len), .val (.int t), s6] [(.int t), (.ref src)])) rfl rfl (hb hby d16_12) _ ?_
          show Steps p.tables e below (T0.setTop (mkF m 13 #[.val (.ref src), .val (.int t), .val (.ref dst), .val (.int t), .val (.int len), .val (.int t), s6] [(.int (f t.toNatClampNeg))])) _
          refine XS.istore Xa.here hx rfl (hb hby d16_13) rfl (l' := #[.val (.ref src), .val (.int t), .val (.ref dst), .val (.int t), .val (.int len), .val (.int t), .val (.int (f t.toNatClampNeg))]) (hs _) ?_
          show Steps p.tables e below (T0.setTop (mkF m 15 #[.val (.ref src), .val (.int t), .val (.ref dst), .val (.int t), .val (.int len), .val (.int t), .val (.int (f t.toNatClampNeg))] [])) _
          refine XS.iload Xa.here hx rfl (hb hby d16_15) rfl ?_
          show Steps p.tables e below (T0.setTop (mkF m 17 #[.val (.ref src), .val (.int t), .val (.ref dst), .val (.int t), .val (.int len), .val (.int t), .val (.int (f t.toNatClampNeg))] [(.int (f t.toNatClampNeg))])) _
          refine XS.sipush Xa.here hx rfl (hb hby d16_17) ?_
          show Steps p.tables e below (T0.setTop (mkF m 20 #[.val (.ref src), .val (.int t), .val (.ref dst), .val (.int t), .val (.int len), .val (.int t), .val (.int (f t.toNatClampNeg))] [(.int (255 : Int32)), (.int (f t.toNatClampNeg))])) _
          refine XS.icmpYes Xa.here hx rfl (pc0 := 20) (pc' := 26) rfl (hb hby d16_20) rfl (flt hw2).2.2.2 (by decide) (by decide) ?_
          show Steps p.tables e below (T0.setTop (mkF m 26 #[.val (.ref src), .val (.int t), .val (.ref dst), .val (.int t), .val (.int len), .val (.int t), .val (.int (f t.toNatClampNeg))] [])) _
          refine XS.aloadN Xa.here hx rfl (hb hby d16_26) rfl rfl ?_
          show Steps p.tables e below (T0.setTop (mkF m 27 #[.val (.ref src), .val (.int t), .val (.ref dst), .val (.int t), .val (.int len), .val (.int t), .val (.int (f t.toNatClampNeg))] [(.ref dst)])) _
          refine XS.iloadN Xa.here hx rfl (hb hby d16_27) rfl ?_
          show Steps p.tables e below (T0.setTop (mkF m 28 #[.val (.ref src), .val (.int t), .val (.ref dst), .val (.int t), .val (.int len), .val (.int t), .val (.int (f t.toNatClampNeg))] [(.int t), (.ref dst)])) _
          refine XS.iload Xa.here hx rfl (hb hby d16_28) rfl ?_
          show Steps p.tables e below (T0.setTop (mkF m 30 #[.val (.ref src), .val (.int t), .val (.ref dst), .val (.int t), .val (.int len), .val (.int t), .val (.int (f t.toNatClampNeg))] [(.int (f t.toNatClampNeg)), (.int t), (.ref dst)])) _
          refine XS.i2b Xa.here hx rfl (hb hby d16_30) rfl ?_
          show Steps p.tables e below (T0.setTop (mkF m 31 #[.val (.ref src), .val (.int t), .val (.ref dst), .val (.int t), .val (.int len), .val (.int t), .val (.int (f t.toNatClampNeg))] [(.int ((f t.toNatClampNeg).toInt8.toInt32)), (.int t), (.ref dst)])) _
          refine st8 _ ?_
          show Steps p.tables e below (T8.setTop (mkF m 32 #[.val (.ref src), .val (.int t), .val (.ref dst), .val (.int t), .val (.int len), .val (.int t), .val (.int (f t.toNatClampNeg))] [])) _
          refine XS.iinc X8.here hx rfl (hb hby d16_32) rfl (l' := #[.val (.ref src), .val (.int (t + (1 : Int32))), .val (.ref dst), .val (.int t), .val (.int len), .val (.int t), .val (.int (f t.toNatClampNeg))]) rfl ?_
          show Steps p.tables e below (T8.setTop (mkF m 35 #[.val (.ref src), .val (.int (t + (1 : Int32))), .val (.ref dst), .val (.int t), .val (.int len), .val (.int t), .val (.int (f t.toNatClampNeg))] [])) _
          refine XS.iinc X8.here hx rfl (hb hby d16_35) rfl (l' := #[.val (.ref src), .val (.int (t + (1 : Int32))), .val (.ref dst), .val (.int (t + (1 : Int32))), .val (.int len), .val (.int t), .val (.int (f t.toNatClampNeg))]) rfl ?_
          show Steps p.tables e below (T8.setTop (mkF m 38 #[.val (.ref src), .val (.int (t + (1 : Int32))), .val (.ref dst), .val (.int (t + (1 : Int32))), .val (.int len), .val (.int t), .val (.int (f t.toNatClampNeg))] [])) _
          refine XS.iinc X8.here hx rfl (hb hby d16_38) rfl (l' := #[.val (.ref src), .val (.int (t + (1 : Int32))), .val (.ref dst), .val (.int (t + (1 : Int32))), .val (.int len), .val (.int (t + (1 : Int32))), .val (.int (f t.toNatClampNeg))]) rfl ?_
          show Steps p.tables e below (T8.setTop (mkF m 41 #[.val (.ref src), .val (.int (t + (1 : Int32))), .val (.ref dst), .val (.int (t + (1 : Int32))), .val (.int len), .val (.int (t + (1 : Int32))), .val (.int (f t.toNatClampNeg))] [])) _
          refine XS.goto X8.here hx rfl (pc0 := 41) (pc' := 3) rfl (hb hby d16_41) (by decide) (by decide) ?_
          show Steps p.tables e below (T8.setTop (mkF m 3 #[.val (.ref src), .val (.int (t + (1 : Int32))), .val (.ref dst), .val (.int (t + (1 : Int32))), .val (.int len), .val (.int (t + (1 : Int32))), .val (.int (f t.toNatClampNeg))] [])) _
          exact kt
        have ht := own_inc (j := t) q0 (by omega)
        obtain ⟨T1, lc1, t1, s6', y1, y2, y3, y4, y5, y6, y7⟩ := ih _ _ _ (t + (1 : Int32)) (.val (.int (f t.toNatClampNeg))) _ X8 e8 N8 (Sa.other W8 hne) V8 (by rw [ht]; omega) (by rw [ht]; omega) (fun _ => rfl)
        exact ⟨T1, lc1, t1, s6', y1, y2, (Keep.of_wr W8).trans y3 (fun x hx => Or.inl hx), y4, y5, y6, fun tg k => pre9 _ (y7 tg k)⟩
  obtain ⟨T10, lc10, t10, s6x, X10, N10, K10, ta10, tb10, tw10, st10⟩ := loop wi _ _ _ (0 : Int32) .unset gd X0 e0 N0 VS VD (by decide) (by rw [show (0 : Int32).toInt = 0 from rfl]; omega) (fun _ => rfl)
  obtain ⟨fs, hr, hrun, hended, hW, hsame⟩ := X10.leave (v := some (.int t10)) (fun h => by rw [Bd.returns] at h; cases h)
  refine ⟨_, _, pre1 _ ?_, hrun, hended, _, _, rfl, ?_, ⟨_, rfl⟩, hW, hsame.mono (by decide) (by decide)⟩
  · refine st10 _ ?_
    show Steps p.tables e below (T10.setTop (mkF m 25 #[.val (.ref src), .val (.int t10), .val (.ref dst), .val (.int t10), .val (.int len), .val (.int t10), s6x] [(.int t10)])) _
    exact retI X10 hx Bd.returns (hb hby d16_25) hr
  · show Q16 Z src dst len ks kd f gd h0 n0 _ T10.heap _
    exact ⟨_, rfl, N10, K10, ta10, tb10, tw10⟩
theorem d15_0 : decode jdk_52_method_16_code 0 = .ok (.iload_n 2, 1) := by decide +kernel
theorem d15_1 : decode jdk_52_method_16_code 1 = .ok (.newarray .byte, 2) := by decide +kernel
theorem d15_3 : decode jdk_52_method_16_code 3 = .ok (.astore_n 3, 1) := by decide +kernel
theorem d15_4 : decode jdk_52_method_16_code 4 = .ok (.aload_n 0, 1) := by decide +kernel
theorem d15_5 : decode jdk_52_method_16_code 5 = .ok (.iload_n 1, 1) := by decide +kernel
theorem d15_6 : decode jdk_52_method_16_code 6 = .ok (.aload_n 3, 1) := by decide +kernel
theorem d15_7 : decode jdk_52_method_16_code 7 = .ok (.iconst 0, 1) := by decide +kernel
theorem d15_8 : decode jdk_52_method_16_code 8 = .ok (.iload_n 2, 1) := by decide +kernel
theorem d15_9 : decode jdk_52_method_16_code 9 = .ok (.invokestatic 115, 3) := by decide +kernel
theorem pd_3 : parseMethodDescriptor "([CI[BII)I" = some ⟨[(.array .char), .int, (.array .byte), .int, .int], some .int⟩ := by decide +kernel
theorem d15_12 : decode jdk_52_method_16_code 12 = .ok (.istore 4, 2) := by decide +kernel
theorem d15_14 : decode jdk_52_method_16_code 14 = .ok (.iload 4, 2) := by decide +kernel
theorem d15_16 : decode jdk_52_method_16_code 16 = .ok (.iload_n 2, 1) := by decide +kernel
theorem d15_17 : decode jdk_52_method_16_code 17 = .ok (.if_icmp .eq 40, 3) := by decide +kernel
theorem d15_20 : decode jdk_52_method_16_code 20 = .ok (.aload_n 0, 1) := by decide +kernel
theorem d15_21 : decode jdk_52_method_16_code 21 = .ok (.iload_n 1, 1) := by decide +kernel
theorem d15_22 : decode jdk_52_method_16_code 22 = .ok (.iload_n 2, 1) := by decide +kernel
theorem d15_23 : decode jdk_52_method_16_code 23 = .ok (.invokestatic 119, 3) := by decide +kernel
theorem pd_4 : parseMethodDescriptor "([CII)[B" = some ⟨[(.array .char), .int, .int], some (.array .byte)⟩ := by decide +kernel
theorem d15_26 : decode jdk_52_method_16_code 26 = .ok (.astore 5, 2) := by decide +kernel
theorem d15_28 : decode jdk_52_method_16_code 28 = .ok (.aload 5, 2) := by decide +kernel
theorem d15_30 : decode jdk_52_method_16_code 30 = .ok (.iload 4, 2) := by decide +kernel
theorem d15_32 : decode jdk_52_method_16_code 32 = .ok (.invokestatic 71, 3) := by decide +kernel
theorem pd_5 : parseMethodDescriptor "([BI)C" = some ⟨[(.array .byte), .int], some .char⟩ := by decide +kernel
theorem d15_35 : decode jdk_52_method_16_code 35 = .ok (.sipush 255, 3) := by decide +kernel
theorem d15_38 : decode jdk_52_method_16_code 38 = .ok (.if_icmp .gt 16, 3) := by decide +kernel
theorem d15_54 : decode jdk_52_method_16_code 54 = .ok (.aload 5, 2) := by decide +kernel
theorem d15_56 : decode jdk_52_method_16_code 56 = .ok (.areturn, 1) := by decide +kernel
theorem ef_rm15 (m : MethodId) (x0 : Addr) (x2 : Int32) : entryFrame m #[(.ref x0), (.int (0 : Int32)), (.int x2)] 6 = mkF m 0 #[.val (.ref x0), .val (.int (0 : Int32)), .val (.int x2), .unset, .unset, .unset] [] := by first | (simp [entryFrame, mkF, argsToLocals, Value.category]; done) | rfl
def Q15 (Z : State) (src : Addr) (len : Int32) (ks : ClassId) (f : Nat → Int32) (h0 : Heap) (n0 : Nat) (v : Option Value) (h : Heap) (L : List Loc) : Prop := ∃ (b : Addr) (kb : ClassId) (z : Int32) (g : Nat → Int32), v = some (.ref b) ∧ Fr n0 L ∧ n0 ≤ b ∧ h0.size ≤ b ∧ Keep h0 h [] ∧ PA Z h b kb .byte z g ∧ z.toInt = 2 * len.toInt ∧ ∀ i : Nat, (i : Int) < len.toInt → g (2 * i) = StrChars.lo8 (f i) ∧ g (2 * i + 1) = StrChars.hi8 (f i)
set_option maxRecDepth 65536 in
set_option maxHeartbeats 40000000 in
theorem rm15 (l : Launch) (Z : State) (a0 : Array Value) (hw : ∀ d ∈ tables_1, d.before a0 Z = true) (ws : List Jvm.Cond) (src : Addr) (len : Int32) (ks : ClassId) (f : Nat → Int32) (h0 : Heap) (n0 : Nat) (Z0 : n0 ≤ h0.size) (O : Old Z n0 h0) (VS : PA Z h0 src ks .char len f) (S_ad : Sta Z Z.heap "java/lang/StringUTF16" "$assertionsDisabled" "Z" (.int (1 : Int32))) (S_hi : Sta Z Z.heap "java/lang/StringUTF16" "HI_BYTE_SHIFT" "I" (.int (0 : Int32))) (S_lo : Sta Z Z.heap "java/lang/StringUTF16" "LO_BYTE_SHIFT" "I" (.int (8 : Int32))) (la : 0 < len.toInt) (lb : len.toInt ≤ 3) (hfc : ∀ i : Nat, (i : Int) < len.toInt → ¬ f i < 0 ∧ ¬ (65535 : Int32) < f i) (hw_ : ∃ i : Nat, (i : Int) < len.toInt ∧ (255 : Int32) < f i) :
    MetFree l (⟨"java/lang/StringUTF16", "compress", "([CII)[B"⟩ : MethodName) (head1 (Jvm.Cond.code (⟨"java/lang/StringUTF16", "compress", "([CII)[B"⟩ : MethodName) jdk_52_method_16_code 6 (some (.array .byte)) :: ws) ({ frames := 3, cells := 2, slots := 9, locals := 40 } : Room)) (fun a U => a = #[(.ref src), (.int (0 : Int32)), (.int len)] ∧ Z.Warmed39 U.vm ∧ U.heap = h0) (fun _ _ _ _ _ => True) (fun _ U o U' => ∃ v L, o = .returned v ∧ Q15 Z src len ks f h0 n0 v U'.heap L ∧ FrameEnd U o U' L ({ frames := 3, cells := 2, slots := 9, locals := 40 } : Room).cells ({ frames := 3, cells := 2, slots := 9, locals := 40 } : Room).slots) := by
  refine MetFree.of_bodySF (plainFor_of_name pn_0) hisR ?_
  intro p e s m args below meth c s₁ Bd hml0 hP hK
  obtain ⟨rfl, hZ, hh⟩ := hP
  have hx := Bd.exec
  have hby := Bd.bytes
  have hml : c.maxLocals = 6 := hml0
  have hown : s.vm.findClass "java/lang/StringUTF16" = some m.cls := findClass_of_methodNamed Bd.named
  have hnm := (name_of_methodNamed Bd.named Bd.method).1
  have X0 : Stand p l e ({ frames := 3, cells := 2, slots := 9, locals := 40 } : Room) s m #[(.ref src), (.int (0 : Int32)), (.int len)] below meth c s₁ [] 0 0 := Stand.of_body Bd
  have e0 : s₁.heap = h0 := by rw [← hh, Bd.state]; rfl
  have N0 := Fr.nil n0
  have pre0 : ∀ t, Steps p.tables e below (s₁.setTop (mkF m 0 #[.val (.ref src), .val (.int (0 : Int32)), .val (.int len), .unset, .unset, .unset] [])) t → Steps p.tables e below (s₁.setTop (entryFrame m #[(.ref src), (.int (0 : Int32)), (.int len)] 6)) t := fun t k => castTop (ef_rm15 m src len) k
  have z0 : (0 : Int32).toInt = 0 := rfl
  have nneg : ¬ len < 0 := by rw [Int32.lt_iff_toInt_lt, z0]; omega
  have ncap : len.toNatClampNeg ≤ 3 := by have := own_nat (j := len) (by omega); omega
  obtain ⟨T1, h1, k1, X1, e1, E1, A1, st1⟩ := newP X0 hx hZ (hw _ (List.mem_of_getElem? (i := 27) rfl)) e0 (g := (mkF m 1 #[.val (.ref src), .val (.int (0 : Int32)), .val (.int len), .unset, .unset, .unset] [(.int len)])) rfl (hb hby d15_1) rfl nneg (cap := 3) ncap (by decide) (by decide) (by decide)
  obtain ⟨b1, g1⟩ : ∃ z, z = h0.size := ⟨_, rfl⟩
  rw [← g1] at A1 st1
  have g_b1 : n0 ≤ b1 := Nat.le_trans Z0 (Nat.le_of_eq g1.symm)
  have sz_b1 : h0.size ≤ b1 := Nat.le_trans (Keep.refl h0 []).1 (Nat.le_of_eq g1.symm)
  have ne_src_b1 : src ≠ b1 := Nat.ne_of_lt (Nat.lt_of_lt_of_le VS.lt (Nat.le_of_eq g1.symm))
  have Kc1 : Keep h0 h1 [] := (Keep.refl h0 []).ext E1
  have Oc1 := O.ext E1
  have V_b1 : PA Z h1 b1 k1 .byte len (fun _ => 0) := PA.of (Arv.new A1 nneg) (fun j _ => by rfl)
  obtain ⟨_, _, ⟨T2, L2, k2, n2⟩, -, X2, ⟨Lc2, hQ2, l2, y2, z2⟩, st2⟩ := Jvm.LawKit.callS X1 hx (y := (⟨"java/lang/StringUTF16", "compress", "([CI[BII)I"⟩ : MethodName)) hown (mvT hZ (hw _ (List.mem_of_getElem? (i := 83) rfl))) (mvT hZ (hw _ (List.mem_of_getElem? (i := 84) rfl))) (mvT hZ (hw _ (List.mem_of_getElem? (i := 81) rfl))) (mvT hZ (hw _ (List.mem_of_getElem? (i := 85) rfl))) (by decide) (backOf (W := 0) (rm16 l Z a0 hw [] src b1 len ks k1 f (fun _ => (0 : Int32)) h1 n0 (Nat.le_trans Z0 Kc1.1) (VS.ext E1) V_b1 g_b1 ne_src_b1 hw_ la lb) hZ (hw _ (List.mem_of_getElem? (i := 85) rfl)) (hw _ (List.mem_of_getElem? (i := 81) rfl)) (by decide) (by decide)) (g := (mkF m 9 #[.val (.ref src), .val (.int (0 : Int32)), .val (.int len), .val (.ref b1), .unset, .unset] [(.int len), (.int (0 : Int32)), (.ref b1), (.int (0 : Int32)), (.ref src)])) rfl (by rw [hml]; rfl) (argsL := [(.ref src), (.int (0 : Int32)), (.ref b1), (.int (0 : Int32)), (.int len)]) (rest := []) (lenOf pd_3 rfl) rfl (by show 2 * 0 + _ ≤ _; exact Nat.le_of_eq rfl) (hb hby d15_9) (fun _ _ => ⟨rfl, e1, (by decide : 1 + 0 ≤ _), (by decide : 3 + 0 ≤ _)⟩)
  dsimp only [Pt.U, Pt.locs, Pt.cells, Pt.slots] at X2 l2 y2 z2 st2 hQ2
  subst l2 y2 z2
  obtain ⟨tk, rfl, N2q, K2, ta, tb, tw⟩ := hQ2
  have N2 := Fr.app N0 N2q
  have Kc2 : Keep h0 T2.heap [] := Kc1.trans K2 (allS (Or.inr sz_b1) all0)
  have Oc2 := Oc1.keep K2 (allS g_b1 all0)
  obtain ⟨_, _, ⟨T3, L3, k3, n3⟩, -, X3, ⟨Lc3, hQ3, l3, y3, z3⟩, st3⟩ := Jvm.LawKit.callS X2 hx (y := (⟨"java/lang/StringUTF16", "toBytes", "([CII)[B"⟩ : MethodName)) hown (mvT hZ (hw _ (List.mem_of_getElem? (i := 120) rfl))) (mvT hZ (hw _ (List.mem_of_getElem? (i := 121) rfl))) (mvT hZ (hw _ (List.mem_of_getElem? (i := 81) rfl))) (mvT hZ (hw _ (List.mem_of_getElem? (i := 122) rfl))) (by decide) (backOf (W := 0) (rm25 l Z a0 hw [] src len ks f T2.heap n0 (Nat.le_trans Z0 Kc2.1) Oc2 ((VS.ext E1).keep K2 (ninS ne_src_b1 nin0)) S_ad S_hi S_lo la lb) hZ (hw _ (List.mem_of_getElem? (i := 122) rfl)) (hw _ (List.mem_of_getElem? (i := 81) rfl)) (by decide) (by decide)) (g := (mkF m 23 #[.val (.ref src), .val (.int (0 : Int32)), .val (.int len), .val (.ref b1), .val (.int tk), .unset] [(.int len), (.int (0 : Int32)), (.ref src)])) rfl (by rw [hml]; rfl) (argsL := [(.ref src), (.int (0 : Int32)), (.int len)]) (rest := []) (lenOf pd_4 rfl) rfl (by show 2 * 0 + _ ≤ _; exact Nat.le_of_eq rfl) (hb hby d15_23) (fun _ _ => ⟨rfl, rfl, (by decide : 1 + 1 ≤ _), (by decide : 3 + 6 ≤ _)⟩)
  dsimp only [Pt.U, Pt.locs, Pt.cells, Pt.slots] at X3 l3 y3 z3 st3 hQ3
  subst l3 y3 z3
  obtain ⟨b3, kb3, zb3, gb3, rfl, N3q, g_b3, szz3, K3, Vb3, hzb3, hgb3⟩ := hQ3
  have N3 := Fr.app N2 N3q
  have Kc3 : Keep h0 T3.heap [] := Kc2.trans K3 all0
  have Oc3 := Oc2.keep K3 all0
  have sz_b3 : h0.size ≤ b3 := Nat.le_trans Kc2.1 szz3
  have ne_src_b3 : src ≠ b3 := Nat.ne_of_lt (Nat.lt_of_lt_of_le ((VS.ext E1).keep K2 (ninS ne_src_b1 nin0)).lt szz3)
  have tn := own_nat (j := tk) ta
  have hbk := hfc tk.toNatClampNeg (by omega)
  obtain ⟨_, _, ⟨T4, L4, k4, n4⟩, -, X4, ⟨Lc4, hQ4, l4, y4, z4⟩, st4⟩ := Jvm.LawKit.callS X3 hx (y := (⟨"java/lang/StringUTF16", "getChar", "([BI)C"⟩ : MethodName)) hown (mvT hZ (hw _ (List.mem_of_getElem? (i := 136) rfl))) (mvT hZ (hw _ (List.mem_of_getElem? (i := 137) rfl))) (mvT hZ (hw _ (List.mem_of_getElem? (i := 81) rfl))) (mvT hZ (hw _ (List.mem_of_getElem? (i := 138) rfl))) (by decide) (backOf (W := 0) (rm29 l Z a0 hw [] b3 tk kb3 zb3 gb3 (f tk.toNatClampNeg) T3.heap n0 (Nat.le_trans Z0 Kc3.1) Vb3 (S_ad.ext Oc3.2) (S_hi.ext Oc3.2) (S_lo.ext Oc3.2) ta (by omega) (by omega) hbk.1 hbk.2 (fun i hi => by rw [show i = 2 * tk.toNatClampNeg from by omega]; exact (hgb3 tk.toNatClampNeg (by omega)).1) (fun i hi => by rw [show i = 2 * tk.toNatClampNeg + 1 from by omega]; exact (hgb3 tk.toNatClampNeg (by omega)).2)) hZ (hw _ (List.mem_of_getElem? (i := 138) rfl)) (hw _ (List.mem_of_getElem? (i := 81) rfl)) (by decide) (by decide)) (g := (mkF m 32 #[.val (.ref src), .val (.int (0 : Int32)), .val (.int len), .val (.ref b1), .val (.int tk), .val (.ref b3)] [(.int tk), (.ref b3)])) rfl (by rw [hml]; rfl) (argsL := [(.ref b3), (.int tk)]) (rest := []) (lenOf pd_5 rfl) rfl (by show 2 * 0 + _ ≤ _; exact Nat.le_of_eq rfl) (hb hby d15_32) (fun _ _ => ⟨rfl, rfl, (by decide : 2 + 0 ≤ _), (by decide : 9 + 0 ≤ _)⟩)
  dsimp only [Pt.U, Pt.locs, Pt.cells, Pt.slots] at X4 l4 y4 z4 st4 hQ4
  subst l4 y4 z4
  obtain ⟨rfl, N4q, e4⟩ := hQ4
  have N4 := Fr.app N3 N4q
  obtain ⟨fs, hr, hrun, hended, hW, hsame⟩ := X4.leave (v := some (.ref b3)) (fun h => by rw [Bd.returns] at h; cases h)
  refine ⟨_, _, pre0 _ ?_, hrun, hended, _, _, rfl, ?_, ⟨_, rfl⟩, hW, hsame.mono (by decide) (by decide)⟩
  · show Steps p.tables e below (s₁.setTop (mkF m 0 #[.val (.ref src), .val (.int (0 : Int32)), .val (.int len), .unset, .unset, .unset] [])) _
    refine XS.iloadN X0.here hx rfl (hb hby d15_0) rfl ?_
    show Steps p.tables e below (s₁.setTop (mkF m 1 #[.val (.ref src), .val (.int (0 : Int32)), .val (.int len), .unset, .unset, .unset] [(.int len)])) _
    refine st1 _ ?_
    show Steps p.tables e below (T1.setTop (mkF m 3 #[.val (.ref src), .val (.int (0 : Int32)), .val (.int len), .unset, .unset, .unset] [(.ref b1)])) _
    refine XS.astoreN X1.here hx rfl (hb hby d15_3) rfl rfl (l' := #[.val (.ref src), .val (.int (0 : Int32)), .val (.int len), .val (.ref b1), .unset, .unset]) rfl ?_
    show Steps p.tables e below (T1.setTop (mkF m 4 #[.val (.ref src), .val (.int (0 : Int32)), .val (.int len), .val (.ref b1), .unset, .unset] [])) _
    refine XS.aloadN X1.here hx rfl (hb hby d15_4) rfl rfl ?_
    show Steps p.tables e below (T1.setTop (mkF m 5 #[.val (.ref src), .val (.int (0 : Int32)), .val (.int len), .val (.ref b1), .unset, .unset] [(.ref src)])) _
    refine XS.iloadN X1.here hx rfl (hb hby d15_5) rfl ?_
    show Steps p.tables e below (T1.setTop (mkF m 6 #[.val (.ref src), .val (.int (0 : Int32)), .val (.int len), .val (.ref b1), .unset, .unset] [(.int (0 : Int32)), (.ref src)])) _
    refine XS.aloadN X1.here hx rfl (hb hby d15_6) rfl rfl ?_
    show Steps p.tables e below (T1.setTop (mkF m 7 #[.val (.ref src), .val (.int (0 : Int32)), .val (.int len), .val (.ref b1), .unset, .unset] [(.ref b1), (.int (0 : Int32)), (.ref src)])) _
    refine XS.iconst X1.here hx rfl (hb hby d15_7) ?_
    show Steps p.tables e below (T1.setTop (mkF m 8 #[.val (.ref src), .val (.int (0 : Int32)), .val (.int len), .val (.ref b1), .unset, .unset] [(.int (0 : Int32)), (.ref b1), (.int (0 : Int32)), (.ref src)])) _
    refine XS.iloadN X1.here hx rfl (hb hby d15_8) rfl ?_
    show Steps p.tables e below (T1.setTop (mkF m 9 #[.val (.ref src), .val (.int (0 : Int32)), .val (.int len), .val (.ref b1), .unset, .unset] [(.int len), (.int (0 : Int32)), (.ref b1), (.int (0 : Int32)), (.ref src)])) _
    refine st2 _ ?_
    show Steps p.tables e below (T2.setTop (mkF m 12 #[.val (.ref src), .val (.int (0 : Int32)), .val (.int len), .val (.ref b1), .unset, .unset] [(.int tk)])) _
    refine XS.istore X2.here hx rfl (hb hby d15_12) rfl (l' := #[.val (.ref src), .val (.int (0 : Int32)), .val (.int len), .val (.ref b1), .val (.int tk), .unset]) rfl ?_
    show Steps p.tables e below (T2.setTop (mkF m 14 #[.val (.ref src), .val (.int (0 : Int32)), .val (.int len), .val (.ref b1), .val (.int tk), .unset] [])) _
    refine XS.iload X2.here hx rfl (hb hby d15_14) rfl ?_
    show Steps p.tables e below (T2.setTop (mkF m 16 #[.val (.ref src), .val (.int (0 : Int32)), .val (.int len), .val (.ref b1), .val (.int tk), .unset] [(.int tk)])) _
    refine XS.iloadN X2.here hx rfl (hb hby d15_16) rfl ?_
    show Steps p.tables e below (T2.setTop (mkF m 17 #[.val (.ref src), .val (.int (0 : Int32)), .val (.int len), .val (.ref b1), .val (.int tk), .unset] [(.int len), (.int tk)])) _
    refine XS.icmpNo X2.here hx rfl (hb hby d15_17) rfl (feq (fun q => by rw [q] at tb; omega : ¬ (tk = len))).1 ?_
    show Steps p.tables e below (T2.setTop (mkF m 20 #[.val (.ref src), .val (.int (0 : Int32)), .val (.int len), .val (.ref b1), .val (.int tk), .unset] [])) _
    refine XS.aloadN X2.here hx rfl (hb hby d15_20) rfl rfl ?_
    show Steps p.tables e below (T2.setTop (mkF m 21 #[.val (.ref src), .val (.int (0 : Int32)), .val (.int len), .val (.ref b1), .val (.int tk), .unset] [(.ref src)])) _
    refine XS.iloadN X2.here hx rfl (hb hby d15_21) rfl ?_
    show Steps p.tables e below (T2.setTop (mkF m 22 #[.val (.ref src), .val (.int (0 : Int32)), .val (.int len), .val (.ref b1), .val (.int tk), .unset] [(.int (0 : Int32)), (.ref src)])) _
    refine XS.iloadN X2.here hx rfl (hb hby d15_22) rfl ?_
    show Steps p.tables e below (T2.setTop (mkF m 23 #[.val (.ref src), .val (.int (0 : Int32)), .val (.int len), .val (.ref b1), .val (.int tk), .unset] [(.int len), (.int (0 : Int32)), (.ref src)])) _
    refine st3 _ ?_
    show Steps p.tables e below (T3.setTop (mkF m 26 #[.val (.ref src), .val (.int (0 : Int32)), .val (.int len), .val (.ref b1), .val (.int tk), .unset] [(.ref b3)])) _
    refine XS.astore X3.here hx rfl (hb hby d15_26) rfl rfl (l' := #[.val (.ref src), .val (.int (0 : Int32)), .val (.int len), .val (.ref b1), .val (.int tk), .val (.ref b3)]) rfl ?_
    show Steps p.tables e below (T3.setTop (mkF m 28 #[.val (.ref src), .val (.int (0 : Int32)), .val (.int len), .val (.ref b1), .val (.int tk), .val (.ref b3)] [])) _
    refine XS.aload X3.here hx rfl (hb hby d15_28) rfl rfl ?_
    show Steps p.tables e below (T3.setTop (mkF m 30 #[.val (.ref src), .val (.int (0 : Int32)), .val (.int len), .val (.ref b1), .val (.int tk), .val (.ref b3)] [(.ref b3)])) _
    refine XS.iload X3.here hx rfl (hb hby d15_30) rfl ?_
    show Steps p.tables e below (T3.setTop (mkF m 32 #[.val (.ref src), .val (.int (0 : Int32)), .val (.int len), .val (.ref b1), .val (.int tk), .val (.ref b3)] [(.int tk), (.ref b3)])) _
    refine st4 _ ?_
    show Steps p.tables e below (T4.setTop (mkF m 35 #[.val (.ref src), .val (.int (0 : Int32)), .val (.int len), .val (.ref b1), .val (.int tk), .val (.ref b3)] [(.int (f tk.toNatClampNeg))])) _
    refine XS.sipush X4.here hx rfl (hb hby d15_35) ?_
    show Steps p.tables e below (T4.setTop (mkF m 38 #[.val (.ref src), .val (.int (0 : Int32)), .val (.int len), .val (.ref b1), .val (.int tk), .val (.ref b3)] [(.int (255 : Int32)), (.int (f tk.toNatClampNeg))])) _
    refine XS.icmpYes X4.here hx rfl (pc0 := 38) (pc' := 54) rfl (hb hby d15_38) rfl (tlt (tw : (255 : Int32) < (f tk.toNatClampNeg))).2.2.1 (by decide) (by decide) ?_
    show Steps p.tables e below (T4.setTop (mkF m 54 #[.val (.ref src), .val (.int (0 : Int32)), .val (.int len), .val (.ref b1), .val (.int tk), .val (.ref b3)] [])) _
    refine XS.aload X4.here hx rfl (hb hby d15_54) rfl rfl ?_
    show Steps p.tables e below (T4.setTop (mkF m 56 #[.val (.ref src), .val (.int (0 : Int32)), .val (.int len), .val (.ref b1), .val (.int tk), .val (.ref b3)] [(.ref b3)])) _
    exact retOut X4 hx Bd.returns rfl (Or.inr (Or.inr (Or.inr (Or.inr ⟨rfl, rfl, rfl⟩)))) (hb hby d15_56) hr
  · show Q15 Z src len ks f h0 n0 _ T4.heap _
    rw [e4]
    exact ⟨_, _, _, _, rfl, N4, g_b3, sz_b3, Kc3, Vb3, hzb3, hgb3⟩
theorem d4_0 : decode jdk_42_method_149_code 0 = .ok (.aload_n 0, 1) := by decide +kernel
theorem d4_1 : decode jdk_42_method_149_code 1 = .ok (.invokespecial 1, 3) := by decide +kernel
theorem d4_4 : decode jdk_42_method_149_code 4 = .ok (.iload_n 3, 1) := by decide +kernel
theorem d4_5 : decode jdk_42_method_149_code 5 = .ok (.ifCond .ne 22, 3) := by decide +kernel
theorem d4_27 : decode jdk_42_method_149_code 27 = .ok (.getstatic 38, 3) := by decide +kernel
theorem d4_30 : decode jdk_42_method_149_code 30 = .ok (.ifCond .eq 28, 3) := by decide +kernel
theorem d4_33 : decode jdk_42_method_149_code 33 = .ok (.aload_n 1, 1) := by decide +kernel
theorem d4_34 : decode jdk_42_method_149_code 34 = .ok (.iload_n 2, 1) := by decide +kernel
theorem d4_35 : decode jdk_42_method_149_code 35 = .ok (.iload_n 3, 1) := by decide +kernel
theorem d4_36 : decode jdk_42_method_149_code 36 = .ok (.invokestatic 177, 3) := by decide +kernel
theorem d4_39 : decode jdk_42_method_149_code 39 = .ok (.astore 5, 2) := by decide +kernel
theorem d4_41 : decode jdk_42_method_149_code 41 = .ok (.aload_n 0, 1) := by decide +kernel
theorem d4_42 : decode jdk_42_method_149_code 42 = .ok (.aload 5, 2) := by decide +kernel
theorem d4_44 : decode jdk_42_method_149_code 44 = .ok (.iload_n 3, 1) := by decide +kernel
theorem d4_45 : decode jdk_42_method_149_code 45 = .ok (.invokestatic 47, 3) := by decide +kernel
theorem pd_6 : parseMethodDescriptor "([BI)B" = some ⟨[(.array .byte), .int], some .byte⟩ := by decide +kernel
theorem d4_48 : decode jdk_42_method_149_code 48 = .ok (.putfield 15, 3) := by decide +kernel
theorem d4_51 : decode jdk_42_method_149_code 51 = .ok (.aload_n 0, 1) := by decide +kernel
theorem d4_52 : decode jdk_42_method_149_code 52 = .ok (.aload 5, 2) := by decide +kernel
theorem d4_54 : decode jdk_42_method_149_code 54 = .ok (.putfield 9, 3) := by decide +kernel
theorem d4_57 : decode jdk_42_method_149_code 57 = .ok (.return_, 1) := by decide +kernel
theorem pn_1 : plainName "java/lang/String" = true := by first | (simp [plainName, overriddenIn]; done) | decide +kernel
theorem ef_rm4 (m : MethodId) (x0 : Addr) (x1 : Addr) (x3 : Int32) : entryFrame m #[(.ref x0), (.ref x1), (.int (0 : Int32)), (.int x3), .null] 6 = mkF m 0 #[.val (.ref x0), .val (.ref x1), .val (.int (0 : Int32)), .val (.int x3), .val .null, .unset] [] := by first | (simp [entryFrame, mkF, argsToLocals, Value.category]; done) | rfl
def Q4 (Z : State) (ob : Addr) (src : Addr) (len : Int32) (ks : ClassId) (f : Nat → Int32) (zc : Int32) (h0 : Heap) (n0 : Nat) (v : Option Value) (h : Heap) (L : List Loc) : Prop := ∃ (t : Addr) (kb : ClassId) (z : Int32) (g : Nat → Int32), v = none ∧ Fr n0 L ∧ Keep h0 h [ob] ∧ Exa Z h ob "java/lang/String" ∧ Fld Z h ob "java/lang/String" "value" "[B" (.ref t) ∧ Fld Z h ob "java/lang/String" "coder" "B" (.int (1 : Int32)) ∧ PA Z h t kb .byte z g ∧ z.toInt = 2 * len.toInt ∧ ∀ i : Nat, (i : Int) < len.toInt → g (2 * i) = StrChars.lo8 (f i) ∧ g (2 * i + 1) = StrChars.hi8 (f i)
set_option maxRecDepth 65536 in
set_option maxHeartbeats 40000000 in
theorem rm4 (l : Launch) (Z : State) (a0 : Array Value) (hw : ∀ d ∈ tables_1, d.before a0 Z = true) (ws : List Jvm.Cond) (ob : Addr) (src : Addr) (len : Int32) (ks : ClassId) (f : Nat → Int32) (zc : Int32) (h0 : Heap) (n0 : Nat) (Z0 : n0 ≤ h0.size) (O : Old Z n0 h0) (E_ob : Exa Z h0 ob "java/lang/String") (g_ob : n0 ≤ ob) (F_value : Fld Z h0 ob "java/lang/String" "value" "[B" .null) (F_coder : Fld Z h0 ob "java/lang/String" "coder" "B" (.int (0 : Int32))) (VS : PA Z h0 src ks .char len f) (S_ad : Sta Z Z.heap "java/lang/StringUTF16" "$assertionsDisabled" "Z" (.int (1 : Int32))) (S_hi : Sta Z Z.heap "java/lang/StringUTF16" "HI_BYTE_SHIFT" "I" (.int (0 : Int32))) (S_lo : Sta Z Z.heap "java/lang/StringUTF16" "LO_BYTE_SHIFT" "I" (.int (8 : Int32))) (S_c : Sta Z Z.heap "java/lang/String" "COMPACT_STRINGS" "Z" (.int zc)) (hzc : ¬ zc = (0 : Int32)) (la : 0 < len.toInt) (lb : len.toInt ≤ 3) (hfc : ∀ i : Nat, (i : Int) < len.toInt → ¬ f i < 0 ∧ ¬ (65535 : Int32) < f i) (hw_ : ∃ i : Nat, (i : Int) < len.toInt ∧ (255 : Int32) < f i) :
    MetFree l (⟨"java/lang/String", "<init>", "([CIILjava/lang/Void;)V"⟩ : MethodName) (head1 (Jvm.Cond.code (⟨"java/lang/String", "<init>", "([CIILjava/lang/Void;)V"⟩ : MethodName) jdk_42_method_149_code 6 none :: ws) ({ frames := 4, cells := 2, slots := 9, locals := 57 } : Room)) (fun a U => a = #[(.ref ob), (.ref src), (.int (0 : Int32)), (.int len), .null] ∧ Z.Warmed39 U.vm ∧ U.heap = h0) (fun _ _ _ _ _ => True) (fun _ U o U' => ∃ v L, o = .returned v ∧ Q4 Z ob src len ks f zc h0 n0 v U'.heap L ∧ FrameEnd U o U' L ({ frames := 4, cells := 2, slots := 9, locals := 57 } : Room).cells ({ frames := 4, cells := 2, slots := 9, locals := 57 } : Room).slots) := by
  refine MetFree.of_bodySF (plainFor_of_name pn_1) hisR ?_
  intro p e s m args below meth c s₁ Bd hml0 hP hK
  obtain ⟨rfl, hZ, hh⟩ := hP
  have hx := Bd.exec
  have hby := Bd.bytes
  have hml : c.maxLocals = 6 := hml0
  have hown : s.vm.findClass "java/lang/String" = some m.cls := findClass_of_methodNamed Bd.named
  have hnm := (name_of_methodNamed Bd.named Bd.method).1
  have X0 : Stand p l e ({ frames := 4, cells := 2, slots := 9, locals := 57 } : Room) s m #[(.ref ob), (.ref src), (.int (0 : Int32)), (.int len), .null] below meth c s₁ [] 0 0 := Stand.of_body Bd
  have e0 : s₁.heap = h0 := by rw [← hh, Bd.state]; rfl
  have N0 := Fr.nil n0
  have pre0 : ∀ t, Steps p.tables e below (s₁.setTop (mkF m 0 #[.val (.ref ob), .val (.ref src), .val (.int (0 : Int32)), .val (.int len), .val .null, .unset] [])) t → Steps p.tables e below (s₁.setTop (entryFrame m #[(.ref ob), (.ref src), (.int (0 : Int32)), (.int len), .null] 6)) t := fun t k => castTop (ef_rm4 m ob src len) k
  obtain ⟨T1, X1, e1, st1⟩ := initO X0 hx hZ hown (hw _ (List.mem_of_getElem? (i := 23) rfl)) (hw _ (List.mem_of_getElem? (i := 24) rfl)) (hw _ (List.mem_of_getElem? (i := 25) rfl)) e0 (g := (mkF m 1 #[.val (.ref ob), .val (.ref src), .val (.int (0 : Int32)), .val (.int len), .val .null, .unset] [(.ref ob)])) rfl (by rw [hml]; rfl) rfl (hb hby d4_1) (by decide) (W := 0) (by show 2 * 0 + _ ≤ _; exact Nat.le_of_eq rfl) (by decide)
  obtain ⟨T2, X2, e2, st2⟩ := getS2 X1 hx hZ hown (host := "") (Or.inl (hw _ (List.mem_of_getElem? (i := 59) rfl))) Via.refl e1 (S_c.ext O.2) (g := (mkF m 27 #[.val (.ref ob), .val (.ref src), .val (.int (0 : Int32)), .val (.int len), .val .null, .unset] [])) rfl (hb hby d4_27)
  obtain ⟨_, _, ⟨T3, L3, k3, n3⟩, -, X3, ⟨Lc3, hQ3, l3, y3, z3⟩, st3⟩ := Jvm.LawKit.callS X2 hx (y := (⟨"java/lang/StringUTF16", "compress", "([CII)[B"⟩ : MethodName)) hown (mvT hZ (hw _ (List.mem_of_getElem? (i := 79) rfl))) (mvT hZ (hw _ (List.mem_of_getElem? (i := 80) rfl))) (mvT hZ (hw _ (List.mem_of_getElem? (i := 81) rfl))) (mvT hZ (hw _ (List.mem_of_getElem? (i := 82) rfl))) (by decide) (backOf (W := 0) (rm15 l Z a0 hw [] src len ks f h0 n0 Z0 O VS S_ad S_hi S_lo la lb hfc hw_) hZ (hw _ (List.mem_of_getElem? (i := 82) rfl)) (hw _ (List.mem_of_getElem? (i := 81) rfl)) (by decide) (by decide)) (g := (mkF m 36 #[.val (.ref ob), .val (.ref src), .val (.int (0 : Int32)), .val (.int len), .val .null, .unset] [(.int len), (.int (0 : Int32)), (.ref src)])) rfl (by rw [hml]; rfl) (argsL := [(.ref src), (.int (0 : Int32)), (.int len)]) (rest := []) (lenOf pd_4 rfl) rfl (by show 2 * 0 + _ ≤ _; exact Nat.le_of_eq rfl) (hb hby d4_36) (fun _ _ => ⟨rfl, e2, (by decide : 0 + 2 ≤ _), (by decide : 0 + 9 ≤ _)⟩)
  dsimp only [Pt.U, Pt.locs, Pt.cells, Pt.slots] at X3 l3 y3 z3 st3 hQ3
  subst l3 y3 z3
  obtain ⟨b3, kb3, zb3, gb3, rfl, N3q, g_b3, szz3, K3, Vb3, hzb3, hgb3⟩ := hQ3
  have N3 := Fr.app N0 N3q
  have Kc3 : Keep h0 T3.heap [ob] := (Keep.refl h0 [ob]).trans K3 all0
  have Oc3 := O.keep K3 all0
  have sz_b3 : h0.size ≤ b3 := Nat.le_trans (Keep.refl h0 [ob]).1 szz3
  have ne_src_b3 : src ≠ b3 := Nat.ne_of_lt (Nat.lt_of_lt_of_le VS.lt szz3)
  have ne_ob_b3 : ob ≠ b3 := Nat.ne_of_lt (Nat.lt_of_lt_of_le E_ob.lt szz3)
  obtain ⟨_, _, ⟨T4, L4, k4, n4⟩, -, X4, ⟨Lc4, hQ4, l4, y4, z4⟩, st4⟩ := Jvm.LawKit.callS X3 hx (y := (⟨"java/lang/StringUTF16", "coderFromArrayLen", "([BI)B"⟩ : MethodName)) hown (mvT hZ (hw _ (List.mem_of_getElem? (i := 86) rfl))) (mvT hZ (hw _ (List.mem_of_getElem? (i := 87) rfl))) (mvT hZ (hw _ (List.mem_of_getElem? (i := 81) rfl))) (mvT hZ (hw _ (List.mem_of_getElem? (i := 88) rfl))) (by decide) (backOf (W := 1) (rm17 l Z a0 hw [] b3 len kb3 zb3 gb3 T3.heap n0 (Nat.le_trans Z0 Kc3.1) Vb3 hzb3 la lb) hZ (hw _ (List.mem_of_getElem? (i := 88) rfl)) (hw _ (List.mem_of_getElem? (i := 81) rfl)) (by decide) (by decide)) (g := (mkF m 45 #[.val (.ref ob), .val (.ref src), .val (.int (0 : Int32)), .val (.int len), .val .null, .val (.ref b3)] [(.int len), (.ref b3), (.ref ob)])) rfl (by rw [hml]; rfl) (argsL := [(.ref b3), (.int len)]) (rest := [(.ref ob)]) (lenOf pd_6 rfl) rfl (by show 2 * 0 + _ ≤ _; exact Nat.le_of_eq rfl) (hb hby d4_45) (fun _ _ => ⟨rfl, rfl, (by decide : 2 + 0 ≤ _), (by decide : 9 + 0 ≤ _)⟩)
  dsimp only [Pt.U, Pt.locs, Pt.cells, Pt.slots] at X4 l4 y4 z4 st4 hQ4
  subst l4 y4 z4
  obtain ⟨rfl, N4q, e4⟩ := hQ4
  have N4 := Fr.app N3 N4q
  obtain ⟨T5, h5, X5, e5, W5, st5⟩ := putFN X4 hx hZ hown (hw _ (List.mem_of_getElem? (i := 33) rfl)) Via.refl e4 (F_coder.keep K3 nin0) (E_ob.keep K3) (Or.inr ⟨(hw _ (List.mem_of_getElem? (i := 29) rfl)), rfl, hnm⟩) (hw _ (List.mem_of_getElem? (i := 13) rfl)) (ty := .byte) (v' := (.int (nar .byte (1 : Int32)))) (by decide) rfl (fits_nar_byte _) (g := (mkF m 48 #[.val (.ref ob), .val (.ref src), .val (.int (0 : Int32)), .val (.int len), .val .null, .val (.ref b3)] [(.int (1 : Int32)), (.ref ob)])) rfl rfl (hb hby d4_48)
  have Kc5 : Keep h0 h5 [ob] := Kc3.wr W5 (Or.inl (List.mem_of_getElem? (i := 0) rfl))
  have Oc5 := Oc3.wr W5 g_ob
  have N5 := Fr.snoc X5 N4 g_ob
  have Fw5 : Fld Z h5 ob "java/lang/String" "coder" "B" (.int (1 : Int32)) := (F_coder.keep K3 nin0).same W5
  obtain ⟨T6, h6, X6, e6, W6, st6⟩ := putF X5 hx hZ hown (host := "") (Or.inl (hw _ (List.mem_of_getElem? (i := 32) rfl))) Via.refl e5 ((F_value.keep K3 nin0).other W5 (Or.inr (slot_ne (Or.inr (hw _ (List.mem_of_getElem? (i := 28) rfl))) (Or.inr (hw _ (List.mem_of_getElem? (i := 29) rfl))) (by decide) (t := (.array .byte)) (t' := .byte) (by decide) (by decide)))) ((E_ob.keep K3).wr W5) (Or.inr ⟨(hw _ (List.mem_of_getElem? (i := 28) rfl)), rfl, hnm⟩) (hw _ (List.mem_of_getElem? (i := 13) rfl)) (ty := (.array .byte)) (by decide) rfl rfl (g := (mkF m 54 #[.val (.ref ob), .val (.ref src), .val (.int (0 : Int32)), .val (.int len), .val .null, .val (.ref b3)] [(.ref b3), (.ref ob)])) rfl rfl (hb hby d4_54)
  have Kc6 : Keep h0 h6 [ob] := Kc5.wr W6 (Or.inl (List.mem_of_getElem? (i := 0) rfl))
  have Oc6 := Oc5.wr W6 g_ob
  have N6 := Fr.snoc X6 N5 g_ob
  have Fw6 : Fld Z h6 ob "java/lang/String" "value" "[B" (.ref b3) := ((F_value.keep K3 nin0).other W5 (Or.inr (slot_ne (Or.inr (hw _ (List.mem_of_getElem? (i := 28) rfl))) (Or.inr (hw _ (List.mem_of_getElem? (i := 29) rfl))) (by decide) (t := (.array .byte)) (t' := .byte) (by decide) (by decide)))).same W6
  obtain ⟨fs, hr, hrun, hended, hW, hsame⟩ := X6.leave (v := none) (fun _ => rfl)
  refine ⟨_, _, pre0 _ ?_, hrun, hended, _, _, rfl, ?_, ⟨_, rfl⟩, hW, hsame.mono (by decide) (by decide)⟩
  · show Steps p.tables e below (s₁.setTop (mkF m 0 #[.val (.ref ob), .val (.ref src), .val (.int (0 : Int32)), .val (.int len), .val .null, .unset] [])) _
    refine XS.aloadN X0.here hx rfl (hb hby d4_0) rfl rfl ?_
    show Steps p.tables e below (s₁.setTop (mkF m 1 #[.val (.ref ob), .val (.ref src), .val (.int (0 : Int32)), .val (.int len), .val .null, .unset] [(.ref ob)])) _
    refine st1 _ ?_
    show Steps p.tables e below (T1.setTop (mkF m 4 #[.val (.ref ob), .val (.ref src), .val (.int (0 : Int32)), .val (.int len), .val .null, .unset] [])) _
    refine XS.iloadN X1.here hx rfl (hb hby d4_4) rfl ?_
    show Steps p.tables e below (T1.setTop (mkF m 5 #[.val (.ref ob), .val (.ref src), .val (.int (0 : Int32)), .val (.int len), .val .null, .unset] [(.int len)])) _
    refine XS.ifYes X1.here hx rfl (pc0 := 5) (pc' := 27) rfl (hb hby d4_5) rfl ((if0 _ _).trans (feq (fun q => by rw [q] at la; exact absurd la (by decide) : ¬ (len = (0 : Int32)))).2) (by decide) (by decide) ?_
    show Steps p.tables e below (T1.setTop (mkF m 27 #[.val (.ref ob), .val (.ref src), .val (.int (0 : Int32)), .val (.int len), .val .null, .unset] [])) _
    refine st2 _ ?_
    show Steps p.tables e below (T2.setTop (mkF m 30 #[.val (.ref ob), .val (.ref src), .val (.int (0 : Int32)), .val (.int len), .val .null, .unset] [(.int zc)])) _
    refine XS.ifNo X2.here hx rfl (hb hby d4_30) rfl ((if0 _ _).trans (feq hzc).1) ?_
    show Steps p.tables e below (T2.setTop (mkF m 33 #[.val (.ref ob), .val (.ref src), .val (.int (0 : Int32)), .val (.int len), .val .null, .unset] [])) _
    refine XS.aloadN X2.here hx rfl (hb hby d4_33) rfl rfl ?_
    show Steps p.tables e below (T2.setTop (mkF m 34 #[.val (.ref ob), .val (.ref src), .val (.int (0 : Int32)), .val (.int len), .val .null, .unset] [(.ref src)])) _
    refine XS.iloadN X2.here hx rfl (hb hby d4_34) rfl ?_
    show Steps p.tables e below (T2.setTop (mkF m 35 #[.val (.ref ob), .val (.ref src), .val (.int (0 : Int32)), .val (.int len), .val .null, .unset] [(.int (0 : Int32)), (.ref src)])) _
    refine XS.iloadN X2.here hx rfl (hb hby d4_35) rfl ?_
    show Steps p.tables e below (T2.setTop (mkF m 36 #[.val (.ref ob), .val (.ref src), .val (.int (0 : Int32)), .val (.int len), .val .null, .unset] [(.int len), (.int (0 : Int32)), (.ref src)])) _
    refine st3 _ ?_
    show Steps p.tables e below (T3.setTop (mkF m 39 #[.val (.ref ob), .val (.ref src), .val (.int (0 : Int32)), .val (.int len), .val .null, .unset] [(.ref b3)])) _
    refine XS.astore X3.here hx rfl (hb hby d4_39) rfl rfl (l' := #[.val (.ref ob), .val (.ref src), .val (.int (0 : Int32)), .val (.int len), .val .null, .val (.ref b3)]) rfl ?_
    show Steps p.tables e below (T3.setTop (mkF m 41 #[.val (.ref ob), .val (.ref src), .val (.int (0 : Int32)), .val (.int len), .val .null, .val (.ref b3)] [])) _
    refine XS.aloadN X3.here hx rfl (hb hby d4_41) rfl rfl ?_
    show Steps p.tables e below (T3.setTop (mkF m 42 #[.val (.ref ob), .val (.ref src), .val (.int (0 : Int32)), .val (.int len), .val .null, .val (.ref b3)] [(.ref ob)])) _
    refine XS.aload X3.here hx rfl (hb hby d4_42) rfl rfl ?_
    show Steps p.tables e below (T3.setTop (mkF m 44 #[.val (.ref ob), .val (.ref src), .val (.int (0 : Int32)), .val (.int len), .val .null, .val (.ref b3)] [(.ref b3), (.ref ob)])) _
    refine XS.iloadN X3.here hx rfl (hb hby d4_44) rfl ?_
    show Steps p.tables e below (T3.setTop (mkF m 45 #[.val (.ref ob), .val (.ref src), .val (.int (0 : Int32)), .val (.int len), .val .null, .val (.ref b3)] [(.int len), (.ref b3), (.ref ob)])) _
    refine st4 _ ?_
    show Steps p.tables e below (T4.setTop (mkF m 48 #[.val (.ref ob), .val (.ref src), .val (.int (0 : Int32)), .val (.int len), .val .null, .val (.ref b3)] [(.int (1 : Int32)), (.ref ob)])) _
    refine st5 _ ?_
    show Steps p.tables e below (T5.setTop (mkF m 51 #[.val (.ref ob), .val (.ref src), .val (.int (0 : Int32)), .val (.int len), .val .null, .val (.ref b3)] [])) _
    refine XS.aloadN X5.here hx rfl (hb hby d4_51) rfl rfl ?_
    show Steps p.tables e below (T5.setTop (mkF m 52 #[.val (.ref ob), .val (.ref src), .val (.int (0 : Int32)), .val (.int len), .val .null, .val (.ref b3)] [(.ref ob)])) _
    refine XS.aload X5.here hx rfl (hb hby d4_52) rfl rfl ?_
    show Steps p.tables e below (T5.setTop (mkF m 54 #[.val (.ref ob), .val (.ref src), .val (.int (0 : Int32)), .val (.int len), .val .null, .val (.ref b3)] [(.ref b3), (.ref ob)])) _
    refine st6 _ ?_
    show Steps p.tables e below (T6.setTop (mkF m 57 #[.val (.ref ob), .val (.ref src), .val (.int (0 : Int32)), .val (.int len), .val .null, .val (.ref b3)] [])) _
    exact X6.returnOut hx Bd.returns (hb hby d4_57) hr
  · show Q4 Z ob src len ks f zc h0 n0 _ T6.heap _
    rw [e6]
    exact ⟨_, _, _, _, rfl, N6, Kc6, (((E_ob.keep K3).wr W5).wr W6), Fw6, (Fw5.other W6 (Or.inr (slot_ne (Or.inr (hw _ (List.mem_of_getElem? (i := 29) rfl))) (Or.inr (hw _ (List.mem_of_getElem? (i := 28) rfl))) (by decide) (t := .byte) (t' := (.array .byte)) (by decide) (by decide)))), ((Vb3.other W5 (Ne.symm ne_ob_b3)).other W6 (Ne.symm ne_ob_b3)), hzb3, hgb3⟩
theorem d3_0 : decode jdk_42_method_3_code 0 = .ok (.aload_n 0, 1) := by decide +kernel
theorem d3_1 : decode jdk_42_method_3_code 1 = .ok (.aload_n 1, 1) := by decide +kernel
theorem d3_2 : decode jdk_42_method_3_code 2 = .ok (.iconst 0, 1) := by decide +kernel
theorem d3_3 : decode jdk_42_method_3_code 3 = .ok (.aload_n 1, 1) := by decide +kernel
theorem d3_4 : decode jdk_42_method_3_code 4 = .ok (.arraylength, 1) := by decide +kernel
theorem d3_5 : decode jdk_42_method_3_code 5 = .ok (.aconst_null, 1) := by decide +kernel
theorem d3_6 : decode jdk_42_method_3_code 6 = .ok (.invokespecial 27, 3) := by decide +kernel
theorem pd_7 : parseMethodDescriptor "([CIILjava/lang/Void;)V" = some ⟨[(.array .char), .int, .int, (.object "java/lang/Void")], none⟩ := by decide +kernel
theorem d3_9 : decode jdk_42_method_3_code 9 = .ok (.return_, 1) := by decide +kernel
theorem ef_rm3 (m : MethodId) (x0 : Addr) (x1 : Addr) : entryFrame m #[(.ref x0), (.ref x1)] 2 = mkF m 0 #[.val (.ref x0), .val (.ref x1)] [] := by first | (simp [entryFrame, mkF, argsToLocals, Value.category]; done) | rfl
def Q3 (Z : State) (ob : Addr) (src : Addr) (len : Int32) (ks : ClassId) (f : Nat → Int32) (zc : Int32) (h0 : Heap) (n0 : Nat) (v : Option Value) (h : Heap) (L : List Loc) : Prop := ∃ (t : Addr) (kb : ClassId) (z : Int32) (g : Nat → Int32), v = none ∧ Fr n0 L ∧ Keep h0 h [ob] ∧ Exa Z h ob "java/lang/String" ∧ Fld Z h ob "java/lang/String" "value" "[B" (.ref t) ∧ Fld Z h ob "java/lang/String" "coder" "B" (.int (1 : Int32)) ∧ PA Z h t kb .byte z g ∧ z.toInt = 2 * len.toInt ∧ ∀ i : Nat, (i : Int) < len.toInt → g (2 * i) = StrChars.lo8 (f i) ∧ g (2 * i + 1) = StrChars.hi8 (f i)
set_option maxRecDepth 65536 in
set_option maxHeartbeats 40000000 in
theorem rm3 (l : Launch) (Z : State) (a0 : Array Value) (hw : ∀ d ∈ tables_1, d.before a0 Z = true) (ws : List Jvm.Cond) (ob : Addr) (src : Addr) (len : Int32) (ks : ClassId) (f : Nat → Int32) (zc : Int32) (h0 : Heap) (n0 : Nat) (Z0 : n0 ≤ h0.size) (O : Old Z n0 h0) (E_ob : Exa Z h0 ob "java/lang/String") (g_ob : n0 ≤ ob) (F_value : Fld Z h0 ob "java/lang/String" "value" "[B" .null) (F_coder : Fld Z h0 ob "java/lang/String" "coder" "B" (.int (0 : Int32))) (VS : PA Z h0 src ks .char len f) (S_ad : Sta Z Z.heap "java/lang/StringUTF16" "$assertionsDisabled" "Z" (.int (1 : Int32))) (S_hi : Sta Z Z.heap "java/lang/StringUTF16" "HI_BYTE_SHIFT" "I" (.int (0 : Int32))) (S_lo : Sta Z Z.heap "java/lang/StringUTF16" "LO_BYTE_SHIFT" "I" (.int (8 : Int32))) (S_c : Sta Z Z.heap "java/lang/String" "COMPACT_STRINGS" "Z" (.int zc)) (hzc : ¬ zc = (0 : Int32)) (la : 0 < len.toInt) (lb : len.toInt ≤ 3) (hfc : ∀ i : Nat, (i : Int) < len.toInt → ¬ f i < 0 ∧ ¬ (65535 : Int32) < f i) (hw_ : ∃ i : Nat, (i : Int) < len.toInt ∧ (255 : Int32) < f i) :
    MetFree l (⟨"java/lang/String", "<init>", "([C)V"⟩ : MethodName) (head1 (Jvm.Cond.code (⟨"java/lang/String", "<init>", "([C)V"⟩ : MethodName) jdk_42_method_3_code 2 none :: ws) ({ frames := 5, cells := 2, slots := 9, locals := 74 } : Room)) (fun a U => a = #[(.ref ob), (.ref src)] ∧ Z.Warmed39 U.vm ∧ U.heap = h0) (fun _ _ _ _ _ => True) (fun _ U o U' => ∃ v L, o = .returned v ∧ Q3 Z ob src len ks f zc h0 n0 v U'.heap L ∧ FrameEnd U o U' L ({ frames := 5, cells := 2, slots := 9, locals := 74 } : Room).cells ({ frames := 5, cells := 2, slots := 9, locals := 74 } : Room).slots) := by
  refine MetFree.of_bodySF (plainFor_of_name pn_1) hisR ?_
  intro p e s m args below meth c s₁ Bd hml0 hP hK
  obtain ⟨rfl, hZ, hh⟩ := hP
  have hx := Bd.exec
  have hby := Bd.bytes
  have hml : c.maxLocals = 2 := hml0
  have hown : s.vm.findClass "java/lang/String" = some m.cls := findClass_of_methodNamed Bd.named
  have hnm := (name_of_methodNamed Bd.named Bd.method).1
  have X0 : Stand p l e ({ frames := 5, cells := 2, slots := 9, locals := 74 } : Room) s m #[(.ref ob), (.ref src)] below meth c s₁ [] 0 0 := Stand.of_body Bd
  have e0 : s₁.heap = h0 := by rw [← hh, Bd.state]; rfl
  have N0 := Fr.nil n0
  have pre0 : ∀ t, Steps p.tables e below (s₁.setTop (mkF m 0 #[.val (.ref ob), .val (.ref src)] [])) t → Steps p.tables e below (s₁.setTop (entryFrame m #[(.ref ob), (.ref src)] 2)) t := fun t k => castTop (ef_rm3 m ob src) k
  obtain ⟨cl1, Ar1, hc1c, hz1, hn1n, he1, hg1g⟩ := (id VS)
  obtain ⟨_, _, ⟨T2, L2, k2, n2⟩, -, X2, ⟨Lc2, hQ2, l2, y2, z2⟩, st2⟩ := X0.specialBack hx (y := (⟨"java/lang/String", "<init>", "([CIILjava/lang/Void;)V"⟩ : MethodName)) rfl hown (mvT hZ (hw _ (List.mem_of_getElem? (i := 19) rfl))) (mvT hZ (hw _ (List.mem_of_getElem? (i := 20) rfl))) (mvT hZ (hw _ (List.mem_of_getElem? (i := 22) rfl))) (by decide) (backOf (W := 0) (rm4 l Z a0 hw [] ob src len ks f zc h0 n0 Z0 O E_ob g_ob F_value F_coder VS S_ad S_hi S_lo S_c hzc la lb hfc hw_) hZ (hw _ (List.mem_of_getElem? (i := 22) rfl)) (hw _ (List.mem_of_getElem? (i := 14) rfl)) (by decide) (by decide)) (g := (mkF m 6 #[.val (.ref ob), .val (.ref src)] [.null, (.int len), (.int (0 : Int32)), (.ref src), (.ref ob)])) rfl (by rw [hml]; rfl) (Steps.refl _) (a := ob) (argsL := [(.ref src), (.int (0 : Int32)), (.int len), .null]) (rest := []) (lenOf pd_7 rfl) rfl (by show 2 * 0 + _ ≤ _; exact Nat.le_of_eq rfl) (hb hby d3_6) (fun _ _ => ⟨rfl, e0, (by decide : 0 + 2 ≤ _), (by decide : 0 + 9 ≤ _)⟩)
  dsimp only [Pt.U, Pt.locs, Pt.cells, Pt.slots] at X2 l2 y2 z2 st2 hQ2
  subst l2 y2 z2
  obtain ⟨tt2, kb2, zb2, gb2, rfl, N2q, K2, A2c, Fv2, Fc2, Vt2, hztt2, hgtt2⟩ := hQ2
  have N2 := Fr.app N0 N2q
  have Kc2 : Keep h0 T2.heap [ob] := (Keep.refl h0 [ob]).trans K2 (allS (Or.inl (List.mem_of_getElem? (i := 0) rfl)) all0)
  have Oc2 := O.keep K2 (allS g_ob all0)
  obtain ⟨fs, hr, hrun, hended, hW, hsame⟩ := X2.leave (v := none) (fun _ => rfl)
  refine ⟨_, _, pre0 _ ?_, hrun, hended, _, _, rfl, ?_, ⟨_, rfl⟩, hW, hsame.mono (by decide) (by decide)⟩
  · show Steps p.tables e below (s₁.setTop (mkF m 0 #[.val (.ref ob), .val (.ref src)] [])) _
    refine XS.aloadN X0.here hx rfl (hb hby d3_0) rfl rfl ?_
    show Steps p.tables e below (s₁.setTop (mkF m 1 #[.val (.ref ob), .val (.ref src)] [(.ref ob)])) _
    refine XS.aloadN X0.here hx rfl (hb hby d3_1) rfl rfl ?_
    show Steps p.tables e below (s₁.setTop (mkF m 2 #[.val (.ref ob), .val (.ref src)] [(.ref src), (.ref ob)])) _
    refine XS.iconst X0.here hx rfl (hb hby d3_2) ?_
    show Steps p.tables e below (s₁.setTop (mkF m 3 #[.val (.ref ob), .val (.ref src)] [(.int (0 : Int32)), (.ref src), (.ref ob)])) _
    refine XS.aloadN X0.here hx rfl (hb hby d3_3) rfl rfl ?_
    show Steps p.tables e below (s₁.setTop (mkF m 4 #[.val (.ref ob), .val (.ref src)] [(.ref src), (.int (0 : Int32)), (.ref src), (.ref ob)])) _
    refine X0.arraylength hx (by rw [e0]; exact Ar1.1) (State.isArrayOf_alike (hZ).alike Ar1.2.1) (g := (mkF m 4 #[.val (.ref ob), .val (.ref src)] [(.ref src), (.int (0 : Int32)), (.ref src), (.ref ob)])) rfl rfl (hb hby d3_4) _ ?_
    rw [len_of hz1 hn1n]
    show Steps p.tables e below (s₁.setTop (mkF m 5 #[.val (.ref ob), .val (.ref src)] [(.int len), (.int (0 : Int32)), (.ref src), (.ref ob)])) _
    refine XS.aconstNull X0.here hx rfl (hb hby d3_5) ?_
    show Steps p.tables e below (s₁.setTop (mkF m 6 #[.val (.ref ob), .val (.ref src)] [.null, (.int len), (.int (0 : Int32)), (.ref src), (.ref ob)])) _
    refine st2.trans ?_
    show Steps p.tables e below (T2.setTop (mkF m 9 #[.val (.ref ob), .val (.ref src)] [])) _
    exact X2.returnOut hx Bd.returns (hb hby d3_9) hr
  · show Q3 Z ob src len ks f zc h0 n0 _ T2.heap _
    exact ⟨_, _, _, _, rfl, N2, Kc2, A2c, Fv2, Fc2, Vt2, hztt2, hgtt2⟩
theorem d4_8 : decode jdk_42_method_149_code 8 = .ok (.aload_n 0, 1) := by decide +kernel
theorem d4_9 : decode jdk_42_method_149_code 9 = .ok (.ldc 7, 2) := by decide +kernel
theorem d4_11 : decode jdk_42_method_149_code 11 = .ok (.getfield 9, 3) := by decide +kernel
theorem d4_14 : decode jdk_42_method_149_code 14 = .ok (.putfield 9, 3) := by decide +kernel
theorem d4_17 : decode jdk_42_method_149_code 17 = .ok (.aload_n 0, 1) := by decide +kernel
theorem d4_18 : decode jdk_42_method_149_code 18 = .ok (.ldc 7, 2) := by decide +kernel
theorem d4_20 : decode jdk_42_method_149_code 20 = .ok (.getfield 15, 3) := by decide +kernel
theorem d4_23 : decode jdk_42_method_149_code 23 = .ok (.putfield 15, 3) := by decide +kernel
theorem d4_26 : decode jdk_42_method_149_code 26 = .ok (.return_, 1) := by decide +kernel
theorem ef_rm4z (m : MethodId) (x0 : Addr) (x1 : Addr) : entryFrame m #[(.ref x0), (.ref x1), (.int (0 : Int32)), (.int (0 : Int32)), .null] 6 = mkF m 0 #[.val (.ref x0), .val (.ref x1), .val (.int (0 : Int32)), .val (.int (0 : Int32)), .val .null, .unset] [] := by first | (simp [entryFrame, mkF, argsToLocals, Value.category]; done) | rfl
def Q4z (Z : State) (ob : Addr) (src : Addr) (ks : ClassId) (h0 : Heap) (n0 : Nat) (v : Option Value) (h : Heap) (L : List Loc) : Prop := ∃ (t : Addr) (kb : ClassId), v = none ∧ Fr n0 L ∧ Keep h0 h [ob] ∧ Exa Z h ob "java/lang/String" ∧ Fld Z h ob "java/lang/String" "value" "[B" (.ref t) ∧ Fld Z h ob "java/lang/String" "coder" "B" (.int (0 : Int32)) ∧ Arv Z h t kb .byte (0 : Int32) [] (.int 0)
set_option maxRecDepth 65536 in
set_option maxHeartbeats 40000000 in
theorem rm4z (l : Launch) (Z : State) (a0 : Array Value) (hw : ∀ d ∈ tables_1, d.before a0 Z = true) (ws : List Jvm.Cond) (ob : Addr) (src : Addr) (ks : ClassId) (h0 : Heap) (n0 : Nat) (Z0 : n0 ≤ h0.size) (E_ob : Exa Z h0 ob "java/lang/String") (g_ob : n0 ≤ ob) (F_value : Fld Z h0 ob "java/lang/String" "value" "[B" .null) (F_coder : Fld Z h0 ob "java/lang/String" "coder" "B" (.int (0 : Int32))) (VS : Arv Z h0 src ks .char (0 : Int32) [] (.int 0)) :
    MetFree l (⟨"java/lang/String", "<init>", "([CIILjava/lang/Void;)V"⟩ : MethodName) (head1 (Jvm.Cond.code (⟨"java/lang/String", "<init>", "([CIILjava/lang/Void;)V"⟩ : MethodName) jdk_42_method_149_code 6 none :: ws) ({ frames := 1, cells := 4, slots := 8, locals := 12 } : Room)) (fun a U => a = #[(.ref ob), (.ref src), (.int (0 : Int32)), (.int (0 : Int32)), .null] ∧ Z.Warmed39 U.vm ∧ U.heap = h0 ∧ CHv Z EL0 U.vm h0) (fun _ _ _ _ _ => True) (fun _ U o U' => ∃ v L, o = .returned v ∧ Q4z Z ob src ks h0 n0 v U'.heap L ∧ CHr Z EL0 U.vm U.heap U'.vm U'.heap ∧ ReturnedEndW U o U' L ({ frames := 1, cells := 4, slots := 8, locals := 12 } : Room).cells ({ frames := 1, cells := 4, slots := 8, locals := 12 } : Room).slots) := by
  refine MetFree.of_bodySF (plainFor_of_name pn_1) hisR ?_
  intro p e s m args below meth c s₁ Bd hml0 hP hK
  obtain ⟨rfl, hZ, hh, hCH⟩ := hP
  have hx := Bd.exec
  have hby := Bd.bytes
  have hml : c.maxLocals = 6 := hml0
  have hown : s.vm.findClass "java/lang/String" = some m.cls := findClass_of_methodNamed Bd.named
  have hnm := (name_of_methodNamed Bd.named Bd.method).1
  have X0 : Stand p l e ({ frames := 1, cells := 4, slots := 8, locals := 12 } : Room) (s.setVm s.vm) m #[(.ref ob), (.ref src), (.int (0 : Int32)), (.int (0 : Int32)), .null] below meth c s₁ [] 0 0 := Stand.of_body Bd
  have e0 : s₁.heap = h0 := by rw [← hh, Bd.state]; rfl
  have N0 := Fr.nil n0
  have pre0 : ∀ t, Steps p.tables e below (s₁.setTop (mkF m 0 #[.val (.ref ob), .val (.ref src), .val (.int (0 : Int32)), .val (.int (0 : Int32)), .val .null, .unset] [])) t → Steps p.tables e below (s₁.setTop (entryFrame m #[(.ref ob), (.ref src), (.int (0 : Int32)), (.int (0 : Int32)), .null] 6)) t := fun t k => castTop (ef_rm4z m ob src) k
  have hEL : EW Z a0 EL0 := own_EW hw
  have CH0 : CHr Z EL0 s.vm h0 s.vm h0 := CHr.refl hCH
  have hS0 : s.Since s.vm 0 := (State.WarmedH.refl s).since 0
  have hwS : ∀ a ∈ Bundle.stringAtoms, a.before a0 Z = true := fun d hd => hw d ((by decide +kernel : ∀ d ∈ Bundle.stringAtoms, d ∈ tables_1) d hd)
  obtain ⟨T1, X1, e1, st1⟩ := initO X0 hx hZ hown (hw _ (List.mem_of_getElem? (i := 23) rfl)) (hw _ (List.mem_of_getElem? (i := 24) rfl)) (hw _ (List.mem_of_getElem? (i := 25) rfl)) e0 (g := (mkF m 1 #[.val (.ref ob), .val (.ref src), .val (.int (0 : Int32)), .val (.int (0 : Int32)), .val .null, .unset] [(.ref ob)])) rfl (by rw [hml]; rfl) rfl (hb hby d4_1) (by decide) (W := 0) (by show 2 * 0 + _ ≤ _; exact Nat.le_of_eq rfl) (by decide)
  obtain ⟨b2, T2, h2, k2, tb2, kb2, X2, e2, E2, hS2, hk2, hZ2, hown2, A2, C2, V2, K2, -, -, hC2, -, hs2, st2⟩ := ldcCH (s := s) (vm0 := s.vm) (vs := []) (z := (0 : Int32)) X1 hx hZ hown (hw _ (List.mem_of_getElem? (i := 26) rfl)) hwS e1 hS0 (Nat.zero_le _) hEL (by simp [EL0]) CH0.1 ⟨fun c hc => by simp at hc, rfl⟩ (by decide) (by decide) (g := (mkF m 9 #[.val (.ref ob), .val (.ref src), .val (.int (0 : Int32)), .val (.int (0 : Int32)), .val .null, .unset] [(.ref ob)])) rfl (hb hby d4_9) (n := 0) (by decide) (by decide) (by decide) (by decide)
  have cq2 := hC2
  have CH2 := CH0.trans cq2
  have sf2_ob := cq2.safe E_ob.lt (own_safe hZ.alike E_ob F_value)
  have Kc2 : Keep h0 h2 [ob] := (Keep.refl h0 [ob]).ext E2
  have nl2 := hs2 ob sf2_ob
  obtain ⟨T3, X3, e3, st3⟩ := getF X2 hx hZ2 hown2 (host := "") (Or.inl (hw _ (List.mem_of_getElem? (i := 32) rfl))) Via.refl e2 V2 (g := (mkF m 11 #[.val (.ref ob), .val (.ref src), .val (.int (0 : Int32)), .val (.int (0 : Int32)), .val .null, .unset] [(.ref b2), (.ref ob)])) rfl rfl (hb hby d4_11)
  obtain ⟨T4, h4, X4, e4, W4, st4⟩ := putF X3 hx hZ2 hown2 (host := "") (Or.inl (hw _ (List.mem_of_getElem? (i := 32) rfl))) Via.refl e3 (F_value.ext E2) (E_ob.ext E2) (Or.inr ⟨(hw _ (List.mem_of_getElem? (i := 28) rfl)), rfl, hnm⟩) (hw _ (List.mem_of_getElem? (i := 13) rfl)) (ty := (.array .byte)) (by decide) rfl rfl (g := (mkF m 14 #[.val (.ref ob), .val (.ref src), .val (.int (0 : Int32)), .val (.int (0 : Int32)), .val .null, .unset] [(.ref tb2), (.ref ob)])) rfl rfl (hb hby d4_14)
  have cq4 := CHr.wr W4 sf2_ob CH2.1
  have CH4 := CH2.trans cq4
  have sf4_ob := cq4.safe (E_ob.ext E2).lt sf2_ob
  have Kc4 : Keep h0 h4 [ob] := Kc2.wr W4 (Or.inl (List.mem_of_getElem? (i := 0) rfl))
  have N4 := Fr.snoc X4 N0 g_ob
  have Fw4 : Fld Z h4 ob "java/lang/String" "value" "[B" (.ref tb2) := (F_value.ext E2).same W4
  obtain ⟨b5, T5, h5, k5, tb5, kb5, X5, e5, E5, hS5, hk5, hZ5, hown5, A5, C5, V5, K5, -, -, hC5, -, hs5, st5⟩ := ldcCH (s := s) (vm0 := T2.vm) (vs := []) (z := (0 : Int32)) X4 hx hZ2 hown2 (hw _ (List.mem_of_getElem? (i := 26) rfl)) hwS e4 hS2 (Nat.le_trans hk2 (Keep.of_wr W4).1) hEL (by simp [EL0]) CH4.1 ⟨fun c hc => by simp at hc, rfl⟩ (by decide) (by decide) (g := (mkF m 18 #[.val (.ref ob), .val (.ref src), .val (.int (0 : Int32)), .val (.int (0 : Int32)), .val .null, .unset] [(.ref ob)])) rfl (hb hby d4_18) (n := 0) (by decide) (by decide) (by decide) (by decide)
  have cq5 := hC5
  have CH5 := CH4.trans cq5
  have sf5_ob := cq5.safe ((E_ob.ext E2).wr W4).lt sf4_ob
  have Kc5 : Keep h0 h5 [ob] := Kc4.ext E5
  have nl5 := hs5 ob sf5_ob
  obtain ⟨T6, X6, e6, st6⟩ := getF X5 hx hZ5 hown5 (host := "") (Or.inl (hw _ (List.mem_of_getElem? (i := 33) rfl))) Via.refl e5 C5 (g := (mkF m 20 #[.val (.ref ob), .val (.ref src), .val (.int (0 : Int32)), .val (.int (0 : Int32)), .val .null, .unset] [(.ref b5), (.ref ob)])) rfl rfl (hb hby d4_20)
  obtain ⟨T7, h7, X7, e7, W7, st7⟩ := putFN X6 hx hZ5 hown5 (hw _ (List.mem_of_getElem? (i := 33) rfl)) Via.refl e6 (((F_coder.ext E2).other W4 (Or.inr (slot_ne (Or.inr (hw _ (List.mem_of_getElem? (i := 29) rfl))) (Or.inr (hw _ (List.mem_of_getElem? (i := 28) rfl))) (by decide) (t := .byte) (t' := (.array .byte)) (by decide) (by decide)))).ext E5) (((E_ob.ext E2).wr W4).ext E5) (Or.inr ⟨(hw _ (List.mem_of_getElem? (i := 29) rfl)), rfl, hnm⟩) (hw _ (List.mem_of_getElem? (i := 13) rfl)) (ty := .byte) (v' := (.int (nar .byte (0 : Int32)))) (by decide) rfl (fits_nar_byte _) (g := (mkF m 23 #[.val (.ref ob), .val (.ref src), .val (.int (0 : Int32)), .val (.int (0 : Int32)), .val .null, .unset] [(.int (0 : Int32)), (.ref ob)])) rfl rfl (hb hby d4_23)
  have cq7 := CHr.wr W7 sf5_ob CH5.1
  have CH7 := CH5.trans cq7
  have sf7_ob := cq7.safe (((E_ob.ext E2).wr W4).ext E5).lt sf5_ob
  have Kc7 : Keep h0 h7 [ob] := Kc5.wr W7 (Or.inl (List.mem_of_getElem? (i := 0) rfl))
  have N7 := Fr.snoc X7 N4 g_ob
  have Fw7 : Fld Z h7 ob "java/lang/String" "coder" "B" (.int (0 : Int32)) := (((F_coder.ext E2).other W4 (Or.inr (slot_ne (Or.inr (hw _ (List.mem_of_getElem? (i := 29) rfl))) (Or.inr (hw _ (List.mem_of_getElem? (i := 28) rfl))) (by decide) (t := .byte) (t' := (.array .byte)) (by decide) (by decide)))).ext E5).same W7
  obtain ⟨fs, hr, hrun, hended, hend⟩ := Stand.leaveW (s := s) (vm₁ := T5.vm) X7 hS5 (by rw [e7]; exact (Nat.le_trans hk5 (Keep.of_wr W7).1)) (v := none) (fun _ => rfl)
  have hCfin : CHr Z EL0 s.vm s.heap (T7.setFrames fs).vm (T7.setFrames fs).heap := by
    show CHr Z EL0 s.vm s.heap T7.vm T7.heap
    rw [hh, e7]
    exact CH7.trans (CHv.at X7 hZ5 hEL CH7.1)
  refine ⟨_, _, pre0 _ ?_, hrun, hended, _, _, rfl, ?_, hCfin, hend.1, hend.2.1, hend.2.2.1, hend.2.2.2.mono (by decide) (by decide)⟩
  · show Steps p.tables e below (s₁.setTop (mkF m 0 #[.val (.ref ob), .val (.ref src), .val (.int (0 : Int32)), .val (.int (0 : Int32)), .val .null, .unset] [])) _
    refine XS.aloadN X0.here hx rfl (hb hby d4_0) rfl rfl ?_
    show Steps p.tables e below (s₁.setTop (mkF m 1 #[.val (.ref ob), .val (.ref src), .val (.int (0 : Int32)), .val (.int (0 : Int32)), .val .null, .unset] [(.ref ob)])) _
    refine st1 _ ?_
    show Steps p.tables e below (T1.setTop (mkF m 4 #[.val (.ref ob), .val (.ref src), .val (.int (0 : Int32)), .val (.int (0 : Int32)), .val .null, .unset] [])) _
    refine XS.iloadN X1.here hx rfl (hb hby d4_4) rfl ?_
    show Steps p.tables e below (T1.setTop (mkF m 5 #[.val (.ref ob), .val (.ref src), .val (.int (0 : Int32)), .val (.int (0 : Int32)), .val .null, .unset] [(.int (0 : Int32))])) _
    refine XS.ifNo X1.here hx rfl (hb hby d4_5) rfl ((if0 _ _).trans (teq (rfl : (0 : Int32) = (0 : Int32))).2) ?_
    show Steps p.tables e below (T1.setTop (mkF m 8 #[.val (.ref ob), .val (.ref src), .val (.int (0 : Int32)), .val (.int (0 : Int32)), .val .null, .unset] [])) _
    refine XS.aloadN X1.here hx rfl (hb hby d4_8) rfl rfl ?_
    show Steps p.tables e below (T1.setTop (mkF m 9 #[.val (.ref ob), .val (.ref src), .val (.int (0 : Int32)), .val (.int (0 : Int32)), .val .null, .unset] [(.ref ob)])) _
    refine st2 _ ?_
    show Steps p.tables e below (T2.setTop (mkF m 11 #[.val (.ref ob), .val (.ref src), .val (.int (0 : Int32)), .val (.int (0 : Int32)), .val .null, .unset] [(.ref b2), (.ref ob)])) _
    refine st3 _ ?_
    show Steps p.tables e below (T3.setTop (mkF m 14 #[.val (.ref ob), .val (.ref src), .val (.int (0 : Int32)), .val (.int (0 : Int32)), .val .null, .unset] [(.ref tb2), (.ref ob)])) _
    refine st4 _ ?_
    show Steps p.tables e below (T4.setTop (mkF m 17 #[.val (.ref ob), .val (.ref src), .val (.int (0 : Int32)), .val (.int (0 : Int32)), .val .null, .unset] [])) _
    refine XS.aloadN X4.here hx rfl (hb hby d4_17) rfl rfl ?_
    show Steps p.tables e below (T4.setTop (mkF m 18 #[.val (.ref ob), .val (.ref src), .val (.int (0 : Int32)), .val (.int (0 : Int32)), .val .null, .unset] [(.ref ob)])) _
    refine st5 _ ?_
    show Steps p.tables e below (T5.setTop (mkF m 20 #[.val (.ref ob), .val (.ref src), .val (.int (0 : Int32)), .val (.int (0 : Int32)), .val .null, .unset] [(.ref b5), (.ref ob)])) _
    refine st6 _ ?_
    show Steps p.tables e below (T6.setTop (mkF m 23 #[.val (.ref ob), .val (.ref src), .val (.int (0 : Int32)), .val (.int (0 : Int32)), .val .null, .unset] [(.int (0 : Int32)), (.ref ob)])) _
    refine st7 _ ?_
    show Steps p.tables e below (T7.setTop (mkF m 26 #[.val (.ref ob), .val (.ref src), .val (.int (0 : Int32)), .val (.int (0 : Int32)), .val .null, .unset] [])) _
    exact X7.returnOut hx Bd.returns (hb hby d4_26) hr
  · show Q4z Z ob src ks h0 n0 _ T7.heap _
    rw [e7]
    exact ⟨_, _, rfl, N7, Kc7, ((((E_ob.ext E2).wr W4).ext E5).wr W7), ((Fw4.ext E5).other W7 (Or.inr (slot_ne (Or.inr (hw _ (List.mem_of_getElem? (i := 28) rfl))) (Or.inr (hw _ (List.mem_of_getElem? (i := 29) rfl))) (by decide) (t := (.array .byte)) (t' := .byte) (by decide) (by decide)))), Fw7, (((K2.other W4 (Ne.symm nl2.2)).ext E5).other W7 (Ne.symm nl2.2))⟩
theorem ef_rm3z (m : MethodId) (x0 : Addr) (x1 : Addr) : entryFrame m #[(.ref x0), (.ref x1)] 2 = mkF m 0 #[.val (.ref x0), .val (.ref x1)] [] := by first | (simp [entryFrame, mkF, argsToLocals, Value.category]; done) | rfl
def Q3z (Z : State) (ob : Addr) (src : Addr) (ks : ClassId) (h0 : Heap) (n0 : Nat) (v : Option Value) (h : Heap) (L : List Loc) : Prop := ∃ (t : Addr) (kb : ClassId), v = none ∧ Fr n0 L ∧ Keep h0 h [ob] ∧ Exa Z h ob "java/lang/String" ∧ Fld Z h ob "java/lang/String" "value" "[B" (.ref t) ∧ Fld Z h ob "java/lang/String" "coder" "B" (.int (0 : Int32)) ∧ Arv Z h t kb .byte (0 : Int32) [] (.int 0)
set_option maxRecDepth 65536 in
set_option maxHeartbeats 40000000 in
theorem rm3z (l : Launch) (Z : State) (a0 : Array Value) (hw : ∀ d ∈ tables_1, d.before a0 Z = true) (ws : List Jvm.Cond) (ob : Addr) (src : Addr) (ks : ClassId) (h0 : Heap) (n0 : Nat) (Z0 : n0 ≤ h0.size) (E_ob : Exa Z h0 ob "java/lang/String") (g_ob : n0 ≤ ob) (F_value : Fld Z h0 ob "java/lang/String" "value" "[B" .null) (F_coder : Fld Z h0 ob "java/lang/String" "coder" "B" (.int (0 : Int32))) (VS : Arv Z h0 src ks .char (0 : Int32) [] (.int 0)) :
    MetFree l (⟨"java/lang/String", "<init>", "([C)V"⟩ : MethodName) (head1 (Jvm.Cond.code (⟨"java/lang/String", "<init>", "([C)V"⟩ : MethodName) jdk_42_method_3_code 2 none :: ws) ({ frames := 2, cells := 4, slots := 8, locals := 29 } : Room)) (fun a U => a = #[(.ref ob), (.ref src)] ∧ Z.Warmed39 U.vm ∧ U.heap = h0 ∧ CHv Z EL0 U.vm h0) (fun _ _ _ _ _ => True) (fun _ U o U' => ∃ v L, o = .returned v ∧ Q3z Z ob src ks h0 n0 v U'.heap L ∧ CHr Z EL0 U.vm U.heap U'.vm U'.heap ∧ ReturnedEndW U o U' L ({ frames := 2, cells := 4, slots := 8, locals := 29 } : Room).cells ({ frames := 2, cells := 4, slots := 8, locals := 29 } : Room).slots) := by
  refine MetFree.of_bodySF (plainFor_of_name pn_1) hisR ?_
  intro p e s m args below meth c s₁ Bd hml0 hP hK
  obtain ⟨rfl, hZ, hh, hCH⟩ := hP
  have hx := Bd.exec
  have hby := Bd.bytes
  have hml : c.maxLocals = 2 := hml0
  have hown : s.vm.findClass "java/lang/String" = some m.cls := findClass_of_methodNamed Bd.named
  have hnm := (name_of_methodNamed Bd.named Bd.method).1
  have X0 : Stand p l e ({ frames := 2, cells := 4, slots := 8, locals := 29 } : Room) (s.setVm s.vm) m #[(.ref ob), (.ref src)] below meth c s₁ [] 0 0 := Stand.of_body Bd
  have e0 : s₁.heap = h0 := by rw [← hh, Bd.state]; rfl
  have N0 := Fr.nil n0
  have pre0 : ∀ t, Steps p.tables e below (s₁.setTop (mkF m 0 #[.val (.ref ob), .val (.ref src)] [])) t → Steps p.tables e below (s₁.setTop (entryFrame m #[(.ref ob), (.ref src)] 2)) t := fun t k => castTop (ef_rm3z m ob src) k
  have hEL : EW Z a0 EL0 := own_EW hw
  have CH0 : CHr Z EL0 s.vm h0 s.vm h0 := CHr.refl hCH
  have hS0 : s.Since s.vm 0 := (State.WarmedH.refl s).since 0
  have hwS : ∀ a ∈ Bundle.stringAtoms, a.before a0 Z = true := fun d hd => hw d ((by decide +kernel : ∀ d ∈ Bundle.stringAtoms, d ∈ tables_1) d hd)
  obtain ⟨cl1, Ar1, qc1, Sz1, Ng1, Hs1, Gs1⟩ := (id VS)
  obtain ⟨_, _, ⟨T2, L2, k2, n2⟩, -, X2, hSc2, hgc2, ⟨Lc2, hQ2, l2, y2, z2, hC2⟩, st2⟩ := X0.specialBackS hx (y := (⟨"java/lang/String", "<init>", "([CIILjava/lang/Void;)V"⟩ : MethodName)) rfl hown (mvT hZ (hw _ (List.mem_of_getElem? (i := 19) rfl))) (mvT hZ (hw _ (List.mem_of_getElem? (i := 20) rfl))) (mvT hZ (hw _ (List.mem_of_getElem? (i := 22) rfl))) (by decide) (backOfSH (W := 0) (rm4z l Z a0 hw [] ob src ks h0 n0 Z0 E_ob g_ob F_value F_coder VS) hZ (hw _ (List.mem_of_getElem? (i := 22) rfl)) (hw _ (List.mem_of_getElem? (i := 14) rfl)) (by decide) (by decide) hEL CH0.1) (g := (mkF m 6 #[.val (.ref ob), .val (.ref src)] [.null, (.int (0 : Int32)), (.int (0 : Int32)), (.ref src), (.ref ob)])) rfl (by rw [hml]; rfl) (Steps.refl _) (a := ob) (argsL := [(.ref src), (.int (0 : Int32)), (.int (0 : Int32)), .null]) (rest := []) (lenOf pd_7 rfl) rfl (by show 2 * 0 + _ ≤ _; exact Nat.le_of_eq rfl) (hb hby d3_6) (fun _ _ => ⟨rfl, e0, (by decide : 0 + 4 ≤ _), (by decide : 0 + 8 ≤ _)⟩)
  dsimp only [Pt.U, Pt.locs, Pt.cells, Pt.slots] at X2 l2 y2 z2 st2 hQ2 hSc2 hgc2 hC2
  subst l2 y2 z2
  obtain ⟨t2, kb2, rfl, N2q, K2, A2c, Fv2, Fc2, Vt2⟩ := hQ2
  have N2 := Fr.app N0 N2q
  obtain ⟨Xr2, hS2, hZ2, hown2⟩ := rebS (n1 := s₁.heap.size) hS0 (by rw [e0]; exact (Nat.zero_le _)) X2 hSc2 hgc2 hZ hown
  have cq2 := hC2
  have CH2 := CH0.trans cq2
  have sf2_ob := cq2.safe E_ob.lt (own_safe hZ.alike E_ob F_value)
  have Kc2 : Keep h0 T2.heap [ob] := (Keep.refl h0 [ob]).trans K2 (allS (Or.inl (List.mem_of_getElem? (i := 0) rfl)) all0)
  obtain ⟨fs, hr, hrun, hended, hend⟩ := Stand.leaveW (s := s) (vm₁ := T2.vm) Xr2 hS2 (Nat.le_refl _) (v := none) (fun _ => rfl)
  have hCfin : CHr Z EL0 s.vm s.heap (T2.setFrames fs).vm (T2.setFrames fs).heap := by
    show CHr Z EL0 s.vm s.heap T2.vm T2.heap
    rw [hh]
    exact CH2.trans (CHv.at Xr2 hZ2 hEL CH2.1)
  refine ⟨_, _, pre0 _ ?_, hrun, hended, _, _, rfl, ?_, hCfin, hend.1, hend.2.1, hend.2.2.1, hend.2.2.2.mono (by decide) (by decide)⟩
  · show Steps p.tables e below (s₁.setTop (mkF m 0 #[.val (.ref ob), .val (.ref src)] [])) _
    refine XS.aloadN X0.here hx rfl (hb hby d3_0) rfl rfl ?_
    show Steps p.tables e below (s₁.setTop (mkF m 1 #[.val (.ref ob), .val (.ref src)] [(.ref ob)])) _
    refine XS.aloadN X0.here hx rfl (hb hby d3_1) rfl rfl ?_
    show Steps p.tables e below (s₁.setTop (mkF m 2 #[.val (.ref ob), .val (.ref src)] [(.ref src), (.ref ob)])) _
    refine XS.iconst X0.here hx rfl (hb hby d3_2) ?_
    show Steps p.tables e below (s₁.setTop (mkF m 3 #[.val (.ref ob), .val (.ref src)] [(.int (0 : Int32)), (.ref src), (.ref ob)])) _
    refine XS.aloadN X0.here hx rfl (hb hby d3_3) rfl rfl ?_
    show Steps p.tables e below (s₁.setTop (mkF m 4 #[.val (.ref ob), .val (.ref src)] [(.ref src), (.int (0 : Int32)), (.ref src), (.ref ob)])) _
    refine X0.arraylength hx (by rw [e0]; exact Ar1.1) (State.isArrayOf_alike (hZ).alike Ar1.2.1) (g := (mkF m 4 #[.val (.ref ob), .val (.ref src)] [(.ref src), (.int (0 : Int32)), (.ref src), (.ref ob)])) rfl rfl (hb hby d3_4) _ ?_
    rw [len_of Sz1 Ng1]
    show Steps p.tables e below (s₁.setTop (mkF m 5 #[.val (.ref ob), .val (.ref src)] [(.int (0 : Int32)), (.int (0 : Int32)), (.ref src), (.ref ob)])) _
    refine XS.aconstNull X0.here hx rfl (hb hby d3_5) ?_
    show Steps p.tables e below (s₁.setTop (mkF m 6 #[.val (.ref ob), .val (.ref src)] [.null, (.int (0 : Int32)), (.int (0 : Int32)), (.ref src), (.ref ob)])) _
    refine st2.trans ?_
    show Steps p.tables e below (T2.setTop (mkF m 9 #[.val (.ref ob), .val (.ref src)] [])) _
    exact Xr2.returnOut hx Bd.returns (hb hby d3_9) hr
  · show Q3z Z ob src ks h0 n0 _ T2.heap _
    exact ⟨_, _, rfl, N2, Kc2, A2c, Fv2, Fc2, Vt2⟩
/-- a String whose chars are cs -/
def STR (Z : State) (h : Heap) (a : Addr) (cs : List Int32) : Prop := ∃ (t : Addr) (kb : ClassId) (cd NB2 : Int32) (vs : List Value), Exa Z h a "java/lang/String" ∧ Fld Z h a "java/lang/String" "value" "[B" (.ref t) ∧ Fld Z h a "java/lang/String" "coder" "B" (.int cd) ∧ Arv Z h t kb .byte NB2 vs (.int 0) ∧ StrChars.Road.CodA cs cd NB2 vs
theorem STR.exa {Z : State} {h : Heap} {a : Addr} {cs : List Int32} (S : STR Z h a cs) : Exa Z h a "java/lang/String" := by obtain ⟨t, kb, cd, NB2, vs, E, r⟩ := S; exact E
theorem STR.ext {Z : State} {h h' : Heap} {a : Addr} {cs : List Int32} (S : STR Z h a cs) (E : Ext h h') : STR Z h' a cs := by obtain ⟨t, kb, cd, NB2, vs, e1, e2, e3, e4, e5⟩ := S; exact ⟨t, kb, cd, NB2, vs, e1.ext E, e2.ext E, e3.ext E, e4.ext E, e5⟩
theorem STR.keep0 {Z : State} {h h' : Heap} {a : Addr} {cs : List Int32} (S : STR Z h a cs) (K : Keep h h' []) : STR Z h' a cs := by obtain ⟨t, kb, cd, NB2, vs, e1, e2, e3, e4, e5⟩ := S; exact ⟨t, kb, cd, NB2, vs, e1.keep K, e2.keep K nin0, e3.keep K nin0, e4.keep K nin0, e5⟩
theorem STR.keepJ {Z : State} {a0 : Array Value} {h h' : Heap} {a ob : Addr} {cs : List Int32} {n : Nat} (S : STR Z h a cs) (K : Keep h h' [ob]) (E : Exa Z h ob "com/example/attestrail/attestrail/json/JsonString") (wi : (Cond.instantiable "com/example/attestrail/attestrail/json/JsonString" n).before a0 Z = true) : STR Z h' a cs := by
  obtain ⟨t, kb, cd, NB2, vs, e1, e2, e3, e4, e5⟩ := S
  have n1 : a ≠ ob := Exa.ne e1 E (by decide)
  have n2 : t ≠ ob := Ne.symm (Exa.neArv E e4 wi)
  exact ⟨t, kb, cd, NB2, vs, e1.keep K, e2.keep K (ninS n1 nin0), e3.keep K (ninS n1 nin0), e4.keep K (ninS n2 nin0), e5⟩
theorem STR.wr {Z : State} {a0 : Array Value} {h h' : Heap} {a ob : Addr} {sl : Nat} {v : Value} {cs : List Int32} {n : Nat} (S : STR Z h a cs) (W : Wr h h' ob sl v) (E : Exa Z h ob "com/example/attestrail/attestrail/json/JsonString") (wi : (Cond.instantiable "com/example/attestrail/attestrail/json/JsonString" n).before a0 Z = true) : STR Z h' a cs := S.keepJ (Keep.of_wr W) E wi
def csF (n a b c : Int32) : List Int32 := if n = (0 : Int32) then [] else if n = (1 : Int32) then [a] else if n = (2 : Int32) then [a, b] else [a, b, c]
theorem own_map (cs : List Int32) (j : Nat) : (cs.map Value.int).getD j (.int 0) = .int (cs.getD j 0) := by
  simp only [List.getD_eq_getElem?_getD, List.getElem?_map]
  cases cs[j]? <;> rfl
theorem own_bnd {cs : List Int32} {len : Int32} (hb : ∀ c ∈ cs, ¬ c < 0 ∧ ¬ (65535 : Int32) < c) (hl : len.toInt = cs.length) : ∀ i : Nat, (i : Int) < len.toInt → ¬ cs.getD i 0 < 0 ∧ ¬ (65535 : Int32) < cs.getD i 0 := by
  intro i hi
  have h : i < cs.length := by omega
  rw [List.getD_eq_getElem?_getD, List.getElem?_eq_getElem h]
  exact hb _ (List.getElem_mem h)
theorem own_z2 (cs : List Int32) {z len : Int32} (hz : z.toInt = 2 * len.toInt) (hl : len.toInt = cs.length) : z = Int32.ofNat (2 * cs.length) := by
  apply Int32.toInt_inj.mp
  have r := rng32 z
  rw [Int32.toInt_ofNat_of_lt (by omega), hz, hl]
  omega
theorem own_wide (cs : List Int32) (g : Nat → Int32) {z len : Int32} (hz : z.toInt = 2 * len.toInt) (hl : len.toInt = cs.length) (hg : ∀ i : Nat, (i : Int) < len.toInt → g (2 * i) = StrChars.lo8 (cs.getD i 0) ∧ g (2 * i + 1) = StrChars.hi8 (cs.getD i 0)) : ∀ j, j < z.toNatClampNeg → (StrChars.Road.wideBytes cs).getD j (.int 0) = .int (g j) := by
  intro j hj
  have hn := own_nat (j := z) (by omega)
  have h2 := hg (j / 2) (by omega)
  rcases Nat.mod_two_eq_zero_or_one j with q | q
  · have e : j = 2 * (j / 2) := by omega
    rw [e, StrChars.Road.wide_lo _ cs (j / 2) (by omega), h2.1]
  · have e : j = 2 * (j / 2) + 1 := by omega
    rw [e, StrChars.Road.wide_hi _ cs (j / 2) (by omega), h2.2]
theorem d2_0 : decode method_3_code 0 = .ok (.iload_n 3, 1) := by decide +kernel
theorem d2_1 : decode method_3_code 1 = .ok (.ifCond .ne 14, 3) := by decide +kernel
theorem d2_4 : decode method_3_code 4 = .ok (.new 9, 3) := by decide +kernel
theorem d2_7 : decode method_3_code 7 = .ok (.dup, 1) := by decide +kernel
theorem d2_8 : decode method_3_code 8 = .ok (.iconst 0, 1) := by decide +kernel
theorem d2_9 : decode method_3_code 9 = .ok (.newarray .char, 2) := by decide +kernel
theorem d2_11 : decode method_3_code 11 = .ok (.invokespecial 11, 3) := by decide +kernel
theorem pd_8 : parseMethodDescriptor "([C)V" = some ⟨[(.array .char)], none⟩ := by decide +kernel
theorem d2_14 : decode method_3_code 14 = .ok (.areturn, 1) := by decide +kernel
theorem d2_15 : decode method_3_code 15 = .ok (.iload_n 3, 1) := by decide +kernel
theorem d2_16 : decode method_3_code 16 = .ok (.iconst 1, 1) := by decide +kernel
theorem d2_17 : decode method_3_code 17 = .ok (.if_icmp .ne 18, 3) := by decide +kernel
theorem d2_20 : decode method_3_code 20 = .ok (.new 9, 3) := by decide +kernel
theorem d2_23 : decode method_3_code 23 = .ok (.dup, 1) := by decide +kernel
theorem d2_24 : decode method_3_code 24 = .ok (.iconst 1, 1) := by decide +kernel
theorem d2_25 : decode method_3_code 25 = .ok (.newarray .char, 2) := by decide +kernel
theorem d2_27 : decode method_3_code 27 = .ok (.dup, 1) := by decide +kernel
theorem d2_28 : decode method_3_code 28 = .ok (.iconst 0, 1) := by decide +kernel
theorem d2_29 : decode method_3_code 29 = .ok (.iload_n 0, 1) := by decide +kernel
theorem d2_30 : decode method_3_code 30 = .ok (.castore, 1) := by decide +kernel
theorem d2_31 : decode method_3_code 31 = .ok (.invokespecial 11, 3) := by decide +kernel
theorem d2_34 : decode method_3_code 34 = .ok (.areturn, 1) := by decide +kernel
theorem d2_35 : decode method_3_code 35 = .ok (.iload_n 3, 1) := by decide +kernel
theorem d2_36 : decode method_3_code 36 = .ok (.iconst 2, 1) := by decide +kernel
theorem d2_37 : decode method_3_code 37 = .ok (.if_icmp .ne 22, 3) := by decide +kernel
theorem d2_40 : decode method_3_code 40 = .ok (.new 9, 3) := by decide +kernel
theorem d2_43 : decode method_3_code 43 = .ok (.dup, 1) := by decide +kernel
theorem d2_44 : decode method_3_code 44 = .ok (.iconst 2, 1) := by decide +kernel
theorem d2_45 : decode method_3_code 45 = .ok (.newarray .char, 2) := by decide +kernel
theorem d2_47 : decode method_3_code 47 = .ok (.dup, 1) := by decide +kernel
theorem d2_48 : decode method_3_code 48 = .ok (.iconst 0, 1) := by decide +kernel
theorem d2_49 : decode method_3_code 49 = .ok (.iload_n 0, 1) := by decide +kernel
theorem d2_50 : decode method_3_code 50 = .ok (.castore, 1) := by decide +kernel
theorem d2_51 : decode method_3_code 51 = .ok (.dup, 1) := by decide +kernel
theorem d2_52 : decode method_3_code 52 = .ok (.iconst 1, 1) := by decide +kernel
theorem d2_53 : decode method_3_code 53 = .ok (.iload_n 1, 1) := by decide +kernel
theorem d2_54 : decode method_3_code 54 = .ok (.castore, 1) := by decide +kernel
theorem d2_55 : decode method_3_code 55 = .ok (.invokespecial 11, 3) := by decide +kernel
theorem d2_58 : decode method_3_code 58 = .ok (.areturn, 1) := by decide +kernel
theorem d2_59 : decode method_3_code 59 = .ok (.new 9, 3) := by decide +kernel
theorem d2_62 : decode method_3_code 62 = .ok (.dup, 1) := by decide +kernel
theorem d2_63 : decode method_3_code 63 = .ok (.iconst 3, 1) := by decide +kernel
theorem d2_64 : decode method_3_code 64 = .ok (.newarray .char, 2) := by decide +kernel
theorem d2_66 : decode method_3_code 66 = .ok (.dup, 1) := by decide +kernel
theorem d2_67 : decode method_3_code 67 = .ok (.iconst 0, 1) := by decide +kernel
theorem d2_68 : decode method_3_code 68 = .ok (.iload_n 0, 1) := by decide +kernel
theorem d2_69 : decode method_3_code 69 = .ok (.castore, 1) := by decide +kernel
theorem d2_70 : decode method_3_code 70 = .ok (.dup, 1) := by decide +kernel
theorem d2_71 : decode method_3_code 71 = .ok (.iconst 1, 1) := by decide +kernel
theorem d2_72 : decode method_3_code 72 = .ok (.iload_n 1, 1) := by decide +kernel
theorem d2_73 : decode method_3_code 73 = .ok (.castore, 1) := by decide +kernel
theorem d2_74 : decode method_3_code 74 = .ok (.dup, 1) := by decide +kernel
theorem d2_75 : decode method_3_code 75 = .ok (.iconst 2, 1) := by decide +kernel
theorem d2_76 : decode method_3_code 76 = .ok (.iload_n 2, 1) := by decide +kernel
theorem d2_77 : decode method_3_code 77 = .ok (.castore, 1) := by decide +kernel
theorem d2_78 : decode method_3_code 78 = .ok (.invokespecial 11, 3) := by decide +kernel
theorem d2_81 : decode method_3_code 81 = .ok (.areturn, 1) := by decide +kernel
theorem pn_2 : plainName "com/example/attestrail/attestrail/json/JsonStringEqualsPinLaw" = true := by first | (simp [plainName, overriddenIn]; done) | decide +kernel
theorem ef_rm2 (m : MethodId) (x0 : Int32) (x1 : Int32) (x2 : Int32) (x3 : Int32) : entryFrame m #[(.int x0), (.int x1), (.int x2), (.int x3)] 4 = mkF m 0 #[.val (.int x0), .val (.int x1), .val (.int x2), .val (.int x3)] [] := by first | (simp [entryFrame, mkF, argsToLocals, Value.category]; done) | rfl
def Q2 (Z : State) (p1 : Int32) (p2 : Int32) (p3 : Int32) (pn : Int32) (zc : Int32) (h0 : Heap) (n0 : Nat) (v : Option Value) (h : Heap) (L : List Loc) : Prop := ∃ a : Addr, v = some (.ref a) ∧ Fr n0 L ∧ n0 ≤ a ∧ h0.size ≤ a ∧ Keep h0 h [] ∧ STR Z h a (csF pn p1 p2 p3)
set_option maxRecDepth 65536 in
set_option maxHeartbeats 40000000 in
theorem rm2 (l : Launch) (Z : State) (a0 : Array Value) (hw : ∀ d ∈ tables_1, d.before a0 Z = true) (ws : List Jvm.Cond) (p1 : Int32) (p2 : Int32) (p3 : Int32) (pn : Int32) (zc : Int32) (h0 : Heap) (n0 : Nat) (Z0 : n0 ≤ h0.size) (O : Old Z n0 h0) (S_ad : Sta Z Z.heap "java/lang/StringUTF16" "$assertionsDisabled" "Z" (.int (1 : Int32))) (S_hi : Sta Z Z.heap "java/lang/StringUTF16" "HI_BYTE_SHIFT" "I" (.int (0 : Int32))) (S_lo : Sta Z Z.heap "java/lang/StringUTF16" "LO_BYTE_SHIFT" "I" (.int (8 : Int32))) (S_c : Sta Z Z.heap "java/lang/String" "COMPACT_STRINGS" "Z" (.int zc)) (hzc : ¬ zc = (0 : Int32)) (p1a : ¬ p1 < 0) (p1b : ¬ (65535 : Int32) < p1) (p2a : ¬ p2 < 0) (p2b : ¬ (65535 : Int32) < p2) (p3a : ¬ p3 < 0) (p3b : ¬ (65535 : Int32) < p3) :
    MetFree l (⟨"com/example/attestrail/attestrail/json/JsonStringEqualsPinLaw", "str", "(CCCI)Ljava/lang/String;"⟩ : MethodName) (head1 (Jvm.Cond.code (⟨"com/example/attestrail/attestrail/json/JsonStringEqualsPinLaw", "str", "(CCCI)Ljava/lang/String;"⟩ : MethodName) method_3_code 4 (some (.object "java/lang/String")) :: ws) ({ frames := 6, cells := 6, slots := 16, locals := 88 } : Room)) (fun a U => a = #[(.int p1), (.int p2), (.int p3), (.int pn)] ∧ Z.Warmed39 U.vm ∧ U.heap = h0 ∧ CHv Z EL0 U.vm h0) (fun _ _ _ _ _ => True) (fun _ U o U' => ∃ v L, o = .returned v ∧ Q2 Z p1 p2 p3 pn zc h0 n0 v U'.heap L ∧ CHr Z EL0 U.vm U.heap U'.vm U'.heap ∧ ReturnedEndW U o U' L ({ frames := 6, cells := 6, slots := 16, locals := 88 } : Room).cells ({ frames := 6, cells := 6, slots := 16, locals := 88 } : Room).slots) := by
  refine MetFree.of_bodySF (plainFor_of_name pn_2) hisR ?_
  intro p e s m args below meth c s₁ Bd hml0 hP hK
  obtain ⟨rfl, hZ, hh, hCH⟩ := hP
  have hx := Bd.exec
  have hby := Bd.bytes
  have hml : c.maxLocals = 4 := hml0
  have hown : s.vm.findClass "com/example/attestrail/attestrail/json/JsonStringEqualsPinLaw" = some m.cls := findClass_of_methodNamed Bd.named
  have hnm := (name_of_methodNamed Bd.named Bd.method).1
  have X0 : Stand p l e ({ frames := 6, cells := 6, slots := 16, locals := 88 } : Room) (s.setVm s.vm) m #[(.int p1), (.int p2), (.int p3), (.int pn)] below meth c s₁ [] 0 0 := Stand.of_body Bd
  have e0 : s₁.heap = h0 := by rw [← hh, Bd.state]; rfl
  have N0 := Fr.nil n0
  have pre0 : ∀ t, Steps p.tables e below (s₁.setTop (mkF m 0 #[.val (.int p1), .val (.int p2), .val (.int p3), .val (.int pn)] [])) t → Steps p.tables e below (s₁.setTop (entryFrame m #[(.int p1), (.int p2), (.int p3), (.int pn)] 4)) t := fun t k => castTop (ef_rm2 m p1 p2 p3 pn) k
  have hEL : EW Z a0 EL0 := own_EW hw
  have CH0 : CHr Z EL0 s.vm h0 s.vm h0 := CHr.refl hCH
  have hS0 : s.Since s.vm 0 := (State.WarmedH.refl s).since 0
  have hwS : ∀ a ∈ Bundle.stringAtoms, a.before a0 Z = true := fun d hd => hw d ((by decide +kernel : ∀ d ∈ Bundle.stringAtoms, d ∈ tables_1) d hd)
  have hws : ∀ d ∈ StrChars.Road.words, d.before a0 Z = true := fun d hd => hw d ((by decide +kernel : ∀ d ∈ StrChars.Road.words, d ∈ tables_1) d hd)
  have pre1 : ∀ tq, Steps p.tables e below (s₁.setTop (mkF m 1 #[.val (.int p1), .val (.int p2), .val (.int p3), .val (.int pn)] [(.int pn)])) tq → Steps p.tables e below (s₁.setTop (entryFrame m #[(.int p1), (.int p2), (.int p3), (.int pn)] 4)) tq := by
    intro tq kt
    refine pre0 tq ?_
    show Steps p.tables e below (s₁.setTop (mkF m 0 #[.val (.int p1), .val (.int p2), .val (.int p3), .val (.int pn)] [])) _
    refine XS.iloadN X0.here hx rfl (hb hby d2_0) rfl ?_
    show Steps p.tables e below (s₁.setTop (mkF m 1 #[.val (.int p1), .val (.int p2), .val (.int p3), .val (.int pn)] [(.int pn)])) _
    exact kt
  by_cases hc1_2 : pn = (0 : Int32)
  · obtain ⟨T3, h3, X3, e3, E3, A3, D3, -, st3⟩ := newO X0 hx hZ hown (hw _ (List.mem_of_getElem? (i := 12) rfl)) (hw _ (List.mem_of_getElem? (i := 13) rfl)) (hw _ (List.mem_of_getElem? (i := 14) rfl)) e0 (g := (mkF m 4 #[.val (.int p1), .val (.int p2), .val (.int p3), .val (.int pn)] [])) rfl (hb hby d2_4) (by decide) (by decide)
    obtain ⟨b3, g3⟩ : ∃ z, z = h0.size := ⟨_, rfl⟩
    rw [← g3] at A3 D3 st3
    have g_b3 : n0 ≤ b3 := Nat.le_trans Z0 (Nat.le_of_eq g3.symm)
    have sz_b3 : h0.size ≤ b3 := Nat.le_trans (Keep.refl h0 []).1 (Nat.le_of_eq g3.symm)
    have cq3 := CHr.ext E3 CH0.1
    have CH3 := CH0.trans cq3
    have sf3_b3 := Safe.ext E3 CH0.1 (Safe.new (Nat.le_of_eq g3.symm))
    have Kc3 : Keep h0 h3 [] := (Keep.refl h0 []).ext E3
    have Oc3 := O.ext E3
    have F_value_b3 : Fld Z h3 b3 "java/lang/String" "value" "[B" .null := D3 (Or.inr (hw _ (List.mem_of_getElem? (i := 28) rfl))) (ty := (.array .byte)) (by decide)
    have F_coder_b3 : Fld Z h3 b3 "java/lang/String" "coder" "B" (.int (0 : Int32)) := D3 (Or.inr (hw _ (List.mem_of_getElem? (i := 29) rfl))) (ty := .byte) (by decide)
    obtain ⟨T4, h4, k4, X4, e4, E4, A4, st4⟩ := newP X3 hx hZ (hw _ (List.mem_of_getElem? (i := 15) rfl)) e3 (g := (mkF m 9 #[.val (.int p1), .val (.int p2), .val (.int p3), .val (.int pn)] [(.int (0 : Int32)), (.ref b3), (.ref b3)])) rfl (hb hby d2_9) rfl (by decide) (cap := 0) (by decide) (by decide) (by decide) (by decide)
    obtain ⟨b4, g4⟩ : ∃ z, z = h3.size := ⟨_, rfl⟩
    rw [← g4] at A4 st4
    have g_b4 : n0 ≤ b4 := Nat.le_trans (Nat.le_trans Z0 Kc3.1) (Nat.le_of_eq g4.symm)
    have sz_b4 : h0.size ≤ b4 := Nat.le_trans Kc3.1 (Nat.le_of_eq g4.symm)
    have ne_b3_b4 : b3 ≠ b4 := Nat.ne_of_lt (Nat.lt_of_lt_of_le A3.lt (Nat.le_of_eq g4.symm))
    have cq4 := CHr.ext E4 CH3.1
    have CH4 := CH3.trans cq4
    have sf4_b3 := cq4.safe A3.lt sf3_b3
    have sf4_b4 := Safe.ext E4 CH3.1 (Safe.new (Nat.le_of_eq g4.symm))
    have Kc4 : Keep h0 h4 [] := Kc3.ext E4
    have Oc4 := Oc3.ext E4
    have V_b4 : Arv Z h4 b4 k4 .char (0 : Int32) [] (.int (0 : Int32)) := (Arv.new A4 (by decide)).pad (pad_rep [] (.int (0 : Int32)) 0)
    obtain ⟨_, _, ⟨T5, L5, k5, n5⟩, -, X5, hSc5, hgc5, ⟨Lc5, hQ5, l5, y5, z5, hC5⟩, st5⟩ := X4.specialBackS hx (y := (⟨"java/lang/String", "<init>", "([C)V"⟩ : MethodName)) rfl hown (mvT hZ (hw _ (List.mem_of_getElem? (i := 16) rfl))) (mvT hZ (hw _ (List.mem_of_getElem? (i := 17) rfl))) (mvT hZ (hw _ (List.mem_of_getElem? (i := 18) rfl))) (by decide) (backOfSH (W := 1) (rm3z l Z a0 hw [] b3 b4 k4 h4 n0 (Nat.le_trans Z0 Kc4.1) (A3.ext E4) g_b3 (F_value_b3.ext E4) (F_coder_b3.ext E4) V_b4) hZ (hw _ (List.mem_of_getElem? (i := 18) rfl)) (hw _ (List.mem_of_getElem? (i := 14) rfl)) (by decide) (by decide) hEL CH4.1) (g := (mkF m 11 #[.val (.int p1), .val (.int p2), .val (.int p3), .val (.int pn)] [(.ref b4), (.ref b3), (.ref b3)])) rfl (by rw [hml]; rfl) (Steps.refl _) (a := b3) (argsL := [(.ref b4)]) (rest := [(.ref b3)]) (lenOf pd_8 rfl) rfl (by show 2 * 0 + _ ≤ _; exact Nat.le_of_eq rfl) (hb hby d2_11) (fun _ _ => ⟨rfl, e4, (by decide : 2 + 4 ≤ _), (by decide : 4 + 8 ≤ _)⟩)
    dsimp only [Pt.U, Pt.locs, Pt.cells, Pt.slots] at X5 l5 y5 z5 st5 hQ5 hSc5 hgc5 hC5
    subst l5 y5 z5
    obtain ⟨t5, kb5, rfl, N5q, K5, A5c, Fv5, Fc5, Vt5⟩ := hQ5
    have N5 := Fr.app N0 N5q
    obtain ⟨Xr5, hS5, hZ5, hown5⟩ := rebS (n1 := T4.heap.size) hS0 (by rw [e4]; exact (Nat.le_trans (Nat.le_trans (Nat.zero_le _) E3.1) E4.1)) X5 hSc5 hgc5 hZ hown
    have cq5 := hC5
    have CH5 := CH4.trans cq5
    have sf5_b3 := cq5.safe (A3.ext E4).lt sf4_b3
    have sf5_b4 := cq5.safe V_b4.lt sf4_b4
    have Kc5 : Keep h0 T5.heap [] := Kc4.trans K5 (allS (Or.inr sz_b3) all0)
    have Oc5 := Oc4.keep K5 (allS g_b3 all0)
    obtain ⟨fs, hr, hrun, hended, hend⟩ := Stand.leaveW (s := s) (vm₁ := T5.vm) Xr5 hS5 (Nat.le_refl _) (v := some (.ref b3)) (fun h => by rw [Bd.returns] at h; cases h)
    have hCfin : CHr Z EL0 s.vm s.heap (T5.setFrames fs).vm (T5.setFrames fs).heap := by
      show CHr Z EL0 s.vm s.heap T5.vm T5.heap
      rw [hh]
      exact CH5.trans (CHv.at Xr5 hZ5 hEL CH5.1)
    refine ⟨_, _, pre1 _ ?_, hrun, hended, _, _, rfl, ?_, hCfin, hend.1, hend.2.1, hend.2.2.1, hend.2.2.2.mono (by decide) (by decide)⟩
    · show Steps p.tables e below (s₁.setTop (mkF m 1 #[.val (.int p1), .val (.int p2), .val (.int p3), .val (.int pn)] [(.int pn)])) _
      refine XS.ifNo X0.here hx rfl (hb hby d2_1) rfl ((if0 _ _).trans (teq hc1_2).2) ?_
      show Steps p.tables e below (s₁.setTop (mkF m 4 #[.val (.int p1), .val (.int p2), .val (.int p3), .val (.int pn)] [])) _
      refine st3 _ ?_
      show Steps p.tables e below (T3.setTop (mkF m 7 #[.val (.int p1), .val (.int p2), .val (.int p3), .val (.int pn)] [(.ref b3)])) _
      refine XS.dup X3.here hx rfl (hb hby d2_7) rfl rfl ?_
      show Steps p.tables e below (T3.setTop (mkF m 8 #[.val (.int p1), .val (.int p2), .val (.int p3), .val (.int pn)] [(.ref b3), (.ref b3)])) _
      refine XS.iconst X3.here hx rfl (hb hby d2_8) ?_
      show Steps p.tables e below (T3.setTop (mkF m 9 #[.val (.int p1), .val (.int p2), .val (.int p3), .val (.int pn)] [(.int (0 : Int32)), (.ref b3), (.ref b3)])) _
      refine st4 _ ?_
      show Steps p.tables e below (T4.setTop (mkF m 11 #[.val (.int p1), .val (.int p2), .val (.int p3), .val (.int pn)] [(.ref b4), (.ref b3), (.ref b3)])) _
      refine st5.trans ?_
      show Steps p.tables e below (T5.setTop (mkF m 14 #[.val (.int p1), .val (.int p2), .val (.int p3), .val (.int pn)] [(.ref b3)])) _
      exact retOut Xr5 hx Bd.returns rfl (Or.inr (Or.inr (Or.inr (Or.inr ⟨rfl, rfl, rfl⟩)))) (hb hby d2_14) hr
    · show Q2 Z p1 p2 p3 pn zc h0 n0 _ T5.heap _
      refine ⟨_, rfl, N5, g_b3, sz_b3, Kc5, ?_⟩
      rw [show csF pn p1 p2 p3 = [] from by unfold csF; rw [if_pos hc1_2]]
      exact ⟨t5, kb5, _, _, _, A5c, Fv5, Fc5, Vt5, (Or.inl ⟨rfl, rfl, rfl, fun c hc => by simp at hc⟩)⟩
  · have pre7 : ∀ tq, Steps p.tables e below (s₁.setTop (mkF m 17 #[.val (.int p1), .val (.int p2), .val (.int p3), .val (.int pn)] [(.int (1 : Int32)), (.int pn)])) tq → Steps p.tables e below (s₁.setTop (entryFrame m #[(.int p1), (.int p2), (.int p3), (.int pn)] 4)) tq := by
      intro tq kt
      refine pre1 tq ?_
      show Steps p.tables e below (s₁.setTop (mkF m 1 #[.val (.int p1), .val (.int p2), .val (.int p3), .val (.int pn)] [(.int pn)])) _
      refine XS.ifYes X0.here hx rfl (pc0 := 1) (pc' := 15) rfl (hb hby d2_1) rfl ((if0 _ _).trans (feq hc1_2).2) (by decide) (by decide) ?_
      show Steps p.tables e below (s₁.setTop (mkF m 15 #[.val (.int p1), .val (.int p2), .val (.int p3), .val (.int pn)] [])) _
      refine XS.iloadN X0.here hx rfl (hb hby d2_15) rfl ?_
      show Steps p.tables e below (s₁.setTop (mkF m 16 #[.val (.int p1), .val (.int p2), .val (.int p3), .val (.int pn)] [(.int pn)])) _
      refine XS.iconst X0.here hx rfl (hb hby d2_16) ?_
      show Steps p.tables e below (s₁.setTop (mkF m 17 #[.val (.int p1), .val (.int p2), .val (.int p3), .val (.int pn)] [(.int (1 : Int32)), (.int pn)])) _
      exact kt
    by_cases hc17_8 : pn = (1 : Int32)
    · obtain ⟨T9, h9, X9, e9, E9, A9, D9, -, st9⟩ := newO X0 hx hZ hown (hw _ (List.mem_of_getElem? (i := 12) rfl)) (hw _ (List.mem_of_getElem? (i := 13) rfl)) (hw _ (List.mem_of_getElem? (i := 14) rfl)) e0 (g := (mkF m 20 #[.val (.int p1), .val (.int p2), .val (.int p3), .val (.int pn)] [])) rfl (hb hby d2_20) (by decide) (by decide)
      obtain ⟨b9, g9⟩ : ∃ z, z = h0.size := ⟨_, rfl⟩
      rw [← g9] at A9 D9 st9
      have g_b9 : n0 ≤ b9 := Nat.le_trans Z0 (Nat.le_of_eq g9.symm)
      have sz_b9 : h0.size ≤ b9 := Nat.le_trans (Keep.refl h0 []).1 (Nat.le_of_eq g9.symm)
      have cq9 := CHr.ext E9 CH0.1
      have CH9 := CH0.trans cq9
      have sf9_b9 := Safe.ext E9 CH0.1 (Safe.new (Nat.le_of_eq g9.symm))
      have Kc9 : Keep h0 h9 [] := (Keep.refl h0 []).ext E9
      have Oc9 := O.ext E9
      have F_value_b9 : Fld Z h9 b9 "java/lang/String" "value" "[B" .null := D9 (Or.inr (hw _ (List.mem_of_getElem? (i := 28) rfl))) (ty := (.array .byte)) (by decide)
      have F_coder_b9 : Fld Z h9 b9 "java/lang/String" "coder" "B" (.int (0 : Int32)) := D9 (Or.inr (hw _ (List.mem_of_getElem? (i := 29) rfl))) (ty := .byte) (by decide)
      obtain ⟨T10, h10, k10, X10, e10, E10, A10, st10⟩ := newP X9 hx hZ (hw _ (List.mem_of_getElem? (i := 15) rfl)) e9 (g := (mkF m 25 #[.val (.int p1), .val (.int p2), .val (.int p3), .val (.int pn)] [(.int (1 : Int32)), (.ref b9), (.ref b9)])) rfl (hb hby d2_25) rfl (by decide) (cap := 1) (by decide) (by decide) (by decide) (by decide)
      obtain ⟨b10, g10⟩ : ∃ z, z = h9.size := ⟨_, rfl⟩
      rw [← g10] at A10 st10
      have g_b10 : n0 ≤ b10 := Nat.le_trans (Nat.le_trans Z0 Kc9.1) (Nat.le_of_eq g10.symm)
      have sz_b10 : h0.size ≤ b10 := Nat.le_trans Kc9.1 (Nat.le_of_eq g10.symm)
      have ne_b9_b10 : b9 ≠ b10 := Nat.ne_of_lt (Nat.lt_of_lt_of_le A9.lt (Nat.le_of_eq g10.symm))
      have cq10 := CHr.ext E10 CH9.1
      have CH10 := CH9.trans cq10
      have sf10_b9 := cq10.safe A9.lt sf9_b9
      have sf10_b10 := Safe.ext E10 CH9.1 (Safe.new (Nat.le_of_eq g10.symm))
      have Kc10 : Keep h0 h10 [] := Kc9.ext E10
      have Oc10 := Oc9.ext E10
      have V_b10 : Arv Z h10 b10 k10 .char (1 : Int32) [(.int (0 : Int32))] (.int (0 : Int32)) := (Arv.new A10 (by decide)).pad (pad_rep [] (.int (0 : Int32)) 1)
      obtain ⟨cl11, Ar11, qc11, Sz11, Ng11, Hs11, Gs11⟩ := (id V_b10)
      have hin11 : ¬ ((0 : Int32) < 0 ∨ cl11.slots.size ≤ ((0 : Int32)).toNatClampNeg) := inb_of Sz11 ⟨by decide, by decide⟩
      obtain ⟨T12, h12, X12, e12, W12, st12⟩ := stC X10 hx hZ e10 Ar11 (j := (0 : Int32)) hin11 (g := (mkF m 30 #[.val (.int p1), .val (.int p2), .val (.int p3), .val (.int pn)] [(.int p1), (.int (0 : Int32)), (.ref b10), (.ref b10), (.ref b9), (.ref b9)])) rfl rfl (hb hby d2_30)
      rw [own_narc p1a p1b] at W12
      have cq12 := CHr.wr W12 sf10_b10 CH10.1
      have CH12 := CH10.trans cq12
      have sf12_b9 := cq12.safe (A9.ext E10).lt sf10_b9
      have sf12_b10 := cq12.safe V_b10.lt sf10_b10
      have Kc12 : Keep h0 h12 [] := Kc10.wr W12 (Or.inr sz_b10)
      have Oc12 := Oc10.wr W12 g_b10
      have N12 := Fr.snoc X12 N0 g_b10
      have V12 : Arv Z h12 b10 k10 .char (1 : Int32) [(.int p1)] (.int (0 : Int32)) := Arv.set Ar11 qc11 Sz11 Ng11 Hs11 Gs11 (by rw [← own_narc p1a p1b]; exact fits_nar_char _) W12 0 rfl (Nat.le_of_ble_eq_true rfl)
      have pre13 : ∀ tq, Steps p.tables e below (T12.setTop (mkF m 31 #[.val (.int p1), .val (.int p2), .val (.int p3), .val (.int pn)] [(.ref b10), (.ref b9), (.ref b9)])) tq → Steps p.tables e below (s₁.setTop (entryFrame m #[(.int p1), (.int p2), (.int p3), (.int pn)] 4)) tq := by
        intro tq kt
        refine pre7 tq ?_
        show Steps p.tables e below (s₁.setTop (mkF m 17 #[.val (.int p1), .val (.int p2), .val (.int p3), .val (.int pn)] [(.int (1 : Int32)), (.int pn)])) _
        refine XS.icmpNo X0.here hx rfl (hb hby d2_17) rfl (teq hc17_8).2 ?_
        show Steps p.tables e below (s₁.setTop (mkF m 20 #[.val (.int p1), .val (.int p2), .val (.int p3), .val (.int pn)] [])) _
        refine st9 _ ?_
        show Steps p.tables e below (T9.setTop (mkF m 23 #[.val (.int p1), .val (.int p2), .val (.int p3), .val (.int pn)] [(.ref b9)])) _
        refine XS.dup X9.here hx rfl (hb hby d2_23) rfl rfl ?_
        show Steps p.tables e below (T9.setTop (mkF m 24 #[.val (.int p1), .val (.int p2), .val (.int p3), .val (.int pn)] [(.ref b9), (.ref b9)])) _
        refine XS.iconst X9.here hx rfl (hb hby d2_24) ?_
        show Steps p.tables e below (T9.setTop (mkF m 25 #[.val (.int p1), .val (.int p2), .val (.int p3), .val (.int pn)] [(.int (1 : Int32)), (.ref b9), (.ref b9)])) _
        refine st10 _ ?_
        show Steps p.tables e below (T10.setTop (mkF m 27 #[.val (.int p1), .val (.int p2), .val (.int p3), .val (.int pn)] [(.ref b10), (.ref b9), (.ref b9)])) _
        refine XS.dup X10.here hx rfl (hb hby d2_27) rfl rfl ?_
        show Steps p.tables e below (T10.setTop (mkF m 28 #[.val (.int p1), .val (.int p2), .val (.int p3), .val (.int pn)] [(.ref b10), (.ref b10), (.ref b9), (.ref b9)])) _
        refine XS.iconst X10.here hx rfl (hb hby d2_28) ?_
        show Steps p.tables e below (T10.setTop (mkF m 29 #[.val (.int p1), .val (.int p2), .val (.int p3), .val (.int pn)] [(.int (0 : Int32)), (.ref b10), (.ref b10), (.ref b9), (.ref b9)])) _
        refine XS.iloadN X10.here hx rfl (hb hby d2_29) rfl ?_
        show Steps p.tables e below (T10.setTop (mkF m 30 #[.val (.int p1), .val (.int p2), .val (.int p3), .val (.int pn)] [(.int p1), (.int (0 : Int32)), (.ref b10), (.ref b10), (.ref b9), (.ref b9)])) _
        refine st12 _ ?_
        show Steps p.tables e below (T12.setTop (mkF m 31 #[.val (.int p1), .val (.int p2), .val (.int p3), .val (.int pn)] [(.ref b10), (.ref b9), (.ref b9)])) _
        exact kt
      by_cases hs31_14 : (255 : Int32) < p1
      · have hbl : ∀ c ∈ ([p1] : List Int32), ¬ c < 0 ∧ ¬ (65535 : Int32) < c := by
          intro c hc
          simp only [List.mem_cons, List.not_mem_nil, or_false] at hc
          rcases hc with rfl
          · exact ⟨p1a, p1b⟩
        obtain ⟨_, _, ⟨T15, L15, k15, n15⟩, -, X15, ⟨Lc15, hQ15, l15, y15, z15⟩, st15⟩ := X12.specialBack hx (y := (⟨"java/lang/String", "<init>", "([C)V"⟩ : MethodName)) rfl hown (mvT hZ (hw _ (List.mem_of_getElem? (i := 16) rfl))) (mvT hZ (hw _ (List.mem_of_getElem? (i := 17) rfl))) (mvT hZ (hw _ (List.mem_of_getElem? (i := 18) rfl))) (by decide) (backOf (W := 1) (rm3 l Z a0 hw [] b9 b10 (1 : Int32) k10 (fun i => ([p1] : List Int32).getD i 0) zc h12 n0 (Nat.le_trans Z0 Kc12.1) Oc12 ((A9.ext E10).wr W12) g_b9 ((F_value_b9.ext E10).other W12 (Or.inl ne_b9_b10)) ((F_coder_b9.ext E10).other W12 (Or.inl ne_b9_b10)) (PA.of V12 (fun j _ => own_map ([p1] : List Int32) j)) S_ad S_hi S_lo S_c hzc (by decide) (by decide) (own_bnd hbl rfl) ⟨0, by decide, hs31_14⟩) hZ (hw _ (List.mem_of_getElem? (i := 18) rfl)) (hw _ (List.mem_of_getElem? (i := 14) rfl)) (by decide) (by decide)) (g := (mkF m 31 #[.val (.int p1), .val (.int p2), .val (.int p3), .val (.int pn)] [(.ref b10), (.ref b9), (.ref b9)])) rfl (by rw [hml]; rfl) (Steps.refl _) (a := b9) (argsL := [(.ref b10)]) (rest := [(.ref b9)]) (lenOf pd_8 rfl) rfl (by show 2 * 0 + _ ≤ _; exact Nat.le_of_eq rfl) (hb hby d2_31) (fun _ _ => ⟨rfl, e12, (by decide : 2 + 2 ≤ _), (by decide : 5 + 9 ≤ _)⟩)
        dsimp only [Pt.U, Pt.locs, Pt.cells, Pt.slots] at X15 l15 y15 z15 st15 hQ15
        subst l15 y15 z15
        obtain ⟨t15, kb15, zb15, gb15, rfl, N15q, K15, A15c, Fv15, Fc15, Vp15, hz15, hg15⟩ := hQ15
        have Vt15 := Vp15.arv (own_wide ([p1] : List Int32) gb15 hz15 rfl hg15)
        have N15 := Fr.app N12 N15q
        have cq15 := CHr.keep K15 (sfS sf12_b9 sf0) CH12.1
        have CH15 := CH12.trans cq15
        have sf15_b9 := cq15.safe ((A9.ext E10).wr W12).lt sf12_b9
        have sf15_b10 := cq15.safe V12.lt sf12_b10
        have Kc15 : Keep h0 T15.heap [] := Kc12.trans K15 (allS (Or.inr sz_b9) all0)
        have Oc15 := Oc12.keep K15 (allS g_b9 all0)
        obtain ⟨fs, hr, hrun, hended, hend⟩ := Stand.leaveW (s := s) (vm₁ := s.vm) X15 hS0 (Nat.le_trans (Nat.le_trans (Nat.le_trans (Nat.le_trans (Nat.zero_le _) E9.1) E10.1) (Keep.of_wr W12).1) K15.1) (v := some (.ref b9)) (fun h => by rw [Bd.returns] at h; cases h)
        have hCfin : CHr Z EL0 s.vm s.heap (T15.setFrames fs).vm (T15.setFrames fs).heap := by
          show CHr Z EL0 s.vm s.heap T15.vm T15.heap
          rw [hh]
          exact CH15.trans (CHv.at X15 hZ hEL CH15.1)
        refine ⟨_, _, pre13 _ ?_, hrun, hended, _, _, rfl, ?_, hCfin, hend.1, hend.2.1, hend.2.2.1, hend.2.2.2.mono (by decide) (by decide)⟩
        · show Steps p.tables e below (T12.setTop (mkF m 31 #[.val (.int p1), .val (.int p2), .val (.int p3), .val (.int pn)] [(.ref b10), (.ref b9), (.ref b9)])) _
          refine st15.trans ?_
          show Steps p.tables e below (T15.setTop (mkF m 34 #[.val (.int p1), .val (.int p2), .val (.int p3), .val (.int pn)] [(.ref b9)])) _
          exact retOut X15 hx Bd.returns rfl (Or.inr (Or.inr (Or.inr (Or.inr ⟨rfl, rfl, rfl⟩)))) (hb hby d2_34) hr
        · show Q2 Z p1 p2 p3 pn zc h0 n0 _ T15.heap _
          refine ⟨_, rfl, N15, g_b9, sz_b9, Kc15, ?_⟩
          rw [show csF pn p1 p2 p3 = [p1] from by unfold csF; rw [if_neg hc1_2, if_pos hc17_8]]
          exact ⟨t15, kb15, _, _, _, A15c, Fv15, Fc15, Vt15, (Or.inr ⟨rfl, own_z2 ([p1] : List Int32) hz15 rfl, rfl, p1, by simp, hs31_14⟩)⟩
      · have hp : ∀ c ∈ ([p1] : List Int32), ¬ c < 0 ∧ ¬ (255 : Int32) < c := by
          intro c hc
          simp only [List.mem_cons, List.not_mem_nil, or_false] at hc
          rcases hc with rfl
          · exact ⟨p1a, hs31_14⟩
        obtain ⟨_, _, ⟨T17, L17, k17, n17⟩, -, X17, ⟨Lc17, hQ17, l17, y17, z17⟩, st17⟩ := X12.specialBack hx (y := (⟨"java/lang/String", "<init>", "([C)V"⟩ : MethodName)) rfl hown (mvT hZ (hw _ (List.mem_of_getElem? (i := 16) rfl))) (mvT hZ (hw _ (List.mem_of_getElem? (i := 17) rfl))) (mvT hZ (hw _ (List.mem_of_getElem? (i := 18) rfl))) (by decide) (StrChars.Road.backV (W := 1) hZ hws (kI := 4) (hw _ (List.mem_of_getElem? (i := 13) rfl)) (cs := ([p1] : List Int32)) (bs := ([p1] : List Int32).map (fun c => c.toInt8.toInt32)) (n := 1) g_b9 (Nat.le_trans Z0 Kc12.1) ((A9.ext E10).wr W12) ((F_value_b9.ext E10).other W12 (Or.inl ne_b9_b10)) ((F_coder_b9.ext E10).other W12 (Or.inl ne_b9_b10)) V12 (S_c.ext Oc12.2) hzc rfl rfl (by decide) (by decide) hp rfl (by decide) (by decide)) (g := (mkF m 31 #[.val (.int p1), .val (.int p2), .val (.int p3), .val (.int pn)] [(.ref b10), (.ref b9), (.ref b9)])) rfl (by rw [hml]; rfl) (Steps.refl _) (a := b9) (argsL := [(.ref b10)]) (rest := [(.ref b9)]) (lenOf pd_8 rfl) rfl (by show 2 * 0 + _ ≤ _; exact Nat.le_of_eq rfl) (hb hby d2_31) (fun _ _ => ⟨rfl, e12, (by decide : 2 + 1 ≤ _), (by decide : 5 + 1 ≤ _)⟩)
        dsimp only [Pt.U, Pt.locs, Pt.cells, Pt.slots] at X17 l17 y17 z17 st17 hQ17
        subst l17 y17 z17
        obtain ⟨rfl, N17q, K17, A17c, Fc17, t17, kb17, -, -, -, Fv17, Vt17⟩ := hQ17
        have N17 := Fr.app N12 N17q
        have cq17 := CHr.keep K17 (sfS sf12_b9 sf0) CH12.1
        have CH17 := CH12.trans cq17
        have sf17_b9 := cq17.safe ((A9.ext E10).wr W12).lt sf12_b9
        have sf17_b10 := cq17.safe V12.lt sf12_b10
        have Kc17 : Keep h0 T17.heap [] := Kc12.trans K17 (allS (Or.inr sz_b9) all0)
        have Oc17 := Oc12.keep K17 (allS g_b9 all0)
        obtain ⟨fs, hr, hrun, hended, hend⟩ := Stand.leaveW (s := s) (vm₁ := s.vm) X17 hS0 (Nat.le_trans (Nat.le_trans (Nat.le_trans (Nat.le_trans (Nat.zero_le _) E9.1) E10.1) (Keep.of_wr W12).1) K17.1) (v := some (.ref b9)) (fun h => by rw [Bd.returns] at h; cases h)
        have hCfin : CHr Z EL0 s.vm s.heap (T17.setFrames fs).vm (T17.setFrames fs).heap := by
          show CHr Z EL0 s.vm s.heap T17.vm T17.heap
          rw [hh]
          exact CH17.trans (CHv.at X17 hZ hEL CH17.1)
        refine ⟨_, _, pre13 _ ?_, hrun, hended, _, _, rfl, ?_, hCfin, hend.1, hend.2.1, hend.2.2.1, hend.2.2.2.mono (by decide) (by decide)⟩
        · show Steps p.tables e below (T12.setTop (mkF m 31 #[.val (.int p1), .val (.int p2), .val (.int p3), .val (.int pn)] [(.ref b10), (.ref b9), (.ref b9)])) _
          refine st17.trans ?_
          show Steps p.tables e below (T17.setTop (mkF m 34 #[.val (.int p1), .val (.int p2), .val (.int p3), .val (.int pn)] [(.ref b9)])) _
          exact retOut X17 hx Bd.returns rfl (Or.inr (Or.inr (Or.inr (Or.inr ⟨rfl, rfl, rfl⟩)))) (hb hby d2_34) hr
        · show Q2 Z p1 p2 p3 pn zc h0 n0 _ T17.heap _
          refine ⟨_, rfl, N17, g_b9, sz_b9, Kc17, ?_⟩
          rw [show csF pn p1 p2 p3 = [p1] from by unfold csF; rw [if_neg hc1_2, if_pos hc17_8]]
          exact ⟨t17, kb17, _, _, _, A17c, Fv17, Fc17, Vt17, (StrChars.Road.codOf (n := 1) rfl (fun c hc => (hp c hc).2))⟩
    · have pre19 : ∀ tq, Steps p.tables e below (s₁.setTop (mkF m 37 #[.val (.int p1), .val (.int p2), .val (.int p3), .val (.int pn)] [(.int (2 : Int32)), (.int pn)])) tq → Steps p.tables e below (s₁.setTop (entryFrame m #[(.int p1), (.int p2), (.int p3), (.int pn)] 4)) tq := by
        intro tq kt
        refine pre7 tq ?_
        show Steps p.tables e below (s₁.setTop (mkF m 17 #[.val (.int p1), .val (.int p2), .val (.int p3), .val (.int pn)] [(.int (1 : Int32)), (.int pn)])) _
        refine XS.icmpYes X0.here hx rfl (pc0 := 17) (pc' := 35) rfl (hb hby d2_17) rfl (feq hc17_8).2 (by decide) (by decide) ?_
        show Steps p.tables e below (s₁.setTop (mkF m 35 #[.val (.int p1), .val (.int p2), .val (.int p3), .val (.int pn)] [])) _
        refine XS.iloadN X0.here hx rfl (hb hby d2_35) rfl ?_
        show Steps p.tables e below (s₁.setTop (mkF m 36 #[.val (.int p1), .val (.int p2), .val (.int p3), .val (.int pn)] [(.int pn)])) _
        refine XS.iconst X0.here hx rfl (hb hby d2_36) ?_
        show Steps p.tables e below (s₁.setTop (mkF m 37 #[.val (.int p1), .val (.int p2), .val (.int p3), .val (.int pn)] [(.int (2 : Int32)), (.int pn)])) _
        exact kt
      by_cases hc37_20 : pn = (2 : Int32)
      · obtain ⟨T21, h21, X21, e21, E21, A21, D21, -, st21⟩ := newO X0 hx hZ hown (hw _ (List.mem_of_getElem? (i := 12) rfl)) (hw _ (List.mem_of_getElem? (i := 13) rfl)) (hw _ (List.mem_of_getElem? (i := 14) rfl)) e0 (g := (mkF m 40 #[.val (.int p1), .val (.int p2), .val (.int p3), .val (.int pn)] [])) rfl (hb hby d2_40) (by decide) (by decide)
        obtain ⟨b21, g21⟩ : ∃ z, z = h0.size := ⟨_, rfl⟩
        rw [← g21] at A21 D21 st21
        have g_b21 : n0 ≤ b21 := Nat.le_trans Z0 (Nat.le_of_eq g21.symm)
        have sz_b21 : h0.size ≤ b21 := Nat.le_trans (Keep.refl h0 []).1 (Nat.le_of_eq g21.symm)
        have cq21 := CHr.ext E21 CH0.1
        have CH21 := CH0.trans cq21
        have sf21_b21 := Safe.ext E21 CH0.1 (Safe.new (Nat.le_of_eq g21.symm))
        have Kc21 : Keep h0 h21 [] := (Keep.refl h0 []).ext E21
        have Oc21 := O.ext E21
        have F_value_b21 : Fld Z h21 b21 "java/lang/String" "value" "[B" .null := D21 (Or.inr (hw _ (List.mem_of_getElem? (i := 28) rfl))) (ty := (.array .byte)) (by decide)
        have F_coder_b21 : Fld Z h21 b21 "java/lang/String" "coder" "B" (.int (0 : Int32)) := D21 (Or.inr (hw _ (List.mem_of_getElem? (i := 29) rfl))) (ty := .byte) (by decide)
        obtain ⟨T22, h22, k22, X22, e22, E22, A22, st22⟩ := newP X21 hx hZ (hw _ (List.mem_of_getElem? (i := 15) rfl)) e21 (g := (mkF m 45 #[.val (.int p1), .val (.int p2), .val (.int p3), .val (.int pn)] [(.int (2 : Int32)), (.ref b21), (.ref b21)])) rfl (hb hby d2_45) rfl (by decide) (cap := 2) (by decide) (by decide) (by decide) (by decide)
        obtain ⟨b22, g22⟩ : ∃ z, z = h21.size := ⟨_, rfl⟩
        rw [← g22] at A22 st22
        have g_b22 : n0 ≤ b22 := Nat.le_trans (Nat.le_trans Z0 Kc21.1) (Nat.le_of_eq g22.symm)
        have sz_b22 : h0.size ≤ b22 := Nat.le_trans Kc21.1 (Nat.le_of_eq g22.symm)
        have ne_b21_b22 : b21 ≠ b22 := Nat.ne_of_lt (Nat.lt_of_lt_of_le A21.lt (Nat.le_of_eq g22.symm))
        have cq22 := CHr.ext E22 CH21.1
        have CH22 := CH21.trans cq22
        have sf22_b21 := cq22.safe A21.lt sf21_b21
        have sf22_b22 := Safe.ext E22 CH21.1 (Safe.new (Nat.le_of_eq g22.symm))
        have Kc22 : Keep h0 h22 [] := Kc21.ext E22
        have Oc22 := Oc21.ext E22
        have V_b22 : Arv Z h22 b22 k22 .char (2 : Int32) [(.int (0 : Int32)), (.int (0 : Int32))] (.int (0 : Int32)) := (Arv.new A22 (by decide)).pad (pad_rep [] (.int (0 : Int32)) 2)
        obtain ⟨cl23, Ar23, qc23, Sz23, Ng23, Hs23, Gs23⟩ := (id V_b22)
        have hin23 : ¬ ((0 : Int32) < 0 ∨ cl23.slots.size ≤ ((0 : Int32)).toNatClampNeg) := inb_of Sz23 ⟨by decide, by decide⟩
        obtain ⟨T24, h24, X24, e24, W24, st24⟩ := stC X22 hx hZ e22 Ar23 (j := (0 : Int32)) hin23 (g := (mkF m 50 #[.val (.int p1), .val (.int p2), .val (.int p3), .val (.int pn)] [(.int p1), (.int (0 : Int32)), (.ref b22), (.ref b22), (.ref b21), (.ref b21)])) rfl rfl (hb hby d2_50)
        rw [own_narc p1a p1b] at W24
        have cq24 := CHr.wr W24 sf22_b22 CH22.1
        have CH24 := CH22.trans cq24
        have sf24_b21 := cq24.safe (A21.ext E22).lt sf22_b21
        have sf24_b22 := cq24.safe V_b22.lt sf22_b22
        have Kc24 : Keep h0 h24 [] := Kc22.wr W24 (Or.inr sz_b22)
        have Oc24 := Oc22.wr W24 g_b22
        have N24 := Fr.snoc X24 N0 g_b22
        have V24 : Arv Z h24 b22 k22 .char (2 : Int32) [(.int p1), (.int (0 : Int32))] (.int (0 : Int32)) := Arv.set Ar23 qc23 Sz23 Ng23 Hs23 Gs23 (by rw [← own_narc p1a p1b]; exact fits_nar_char _) W24 0 rfl (Nat.le_of_ble_eq_true rfl)
        obtain ⟨cl25, Ar25, qc25, Sz25, Ng25, Hs25, Gs25⟩ := (id V24)
        have hin25 : ¬ ((1 : Int32) < 0 ∨ cl25.slots.size ≤ ((1 : Int32)).toNatClampNeg) := inb_of Sz25 ⟨by decide, by decide⟩
        obtain ⟨T26, h26, X26, e26, W26, st26⟩ := stC X24 hx hZ e24 Ar25 (j := (1 : Int32)) hin25 (g := (mkF m 54 #[.val (.int p1), .val (.int p2), .val (.int p3), .val (.int pn)] [(.int p2), (.int (1 : Int32)), (.ref b22), (.ref b22), (.ref b21), (.ref b21)])) rfl rfl (hb hby d2_54)
        rw [own_narc p2a p2b] at W26
        have cq26 := CHr.wr W26 sf24_b22 CH24.1
        have CH26 := CH24.trans cq26
        have sf26_b21 := cq26.safe ((A21.ext E22).wr W24).lt sf24_b21
        have sf26_b22 := cq26.safe V24.lt sf24_b22
        have Kc26 : Keep h0 h26 [] := Kc24.wr W26 (Or.inr sz_b22)
        have Oc26 := Oc24.wr W26 g_b22
        have N26 := Fr.snoc X26 N24 g_b22
        have V26 : Arv Z h26 b22 k22 .char (2 : Int32) [(.int p1), (.int p2)] (.int (0 : Int32)) := Arv.set Ar25 qc25 Sz25 Ng25 Hs25 Gs25 (by rw [← own_narc p2a p2b]; exact fits_nar_char _) W26 1 rfl (Nat.le_of_ble_eq_true rfl)
        have pre27 : ∀ tq, Steps p.tables e below (T26.setTop (mkF m 55 #[.val (.int p1), .val (.int p2), .val (.int p3), .val (.int pn)] [(.ref b22), (.ref b21), (.ref b21)])) tq → Steps p.tables e below (s₁.setTop (entryFrame m #[(.int p1), (.int p2), (.int p3), (.int pn)] 4)) tq := by
          intro tq kt
          refine pre19 tq ?_
          show Steps p.tables e below (s₁.setTop (mkF m 37 #[.val (.int p1), .val (.int p2), .val (.int p3), .val (.int pn)] [(.int (2 : Int32)), (.int pn)])) _
          refine XS.icmpNo X0.here hx rfl (hb hby d2_37) rfl (teq hc37_20).2 ?_
          show Steps p.tables e below (s₁.setTop (mkF m 40 #[.val (.int p1), .val (.int p2), .val (.int p3), .val (.int pn)] [])) _
          refine st21 _ ?_
          show Steps p.tables e below (T21.setTop (mkF m 43 #[.val (.int p1), .val (.int p2), .val (.int p3), .val (.int pn)] [(.ref b21)])) _
          refine XS.dup X21.here hx rfl (hb hby d2_43) rfl rfl ?_
          show Steps p.tables e below (T21.setTop (mkF m 44 #[.val (.int p1), .val (.int p2), .val (.int p3), .val (.int pn)] [(.ref b21), (.ref b21)])) _
          refine XS.iconst X21.here hx rfl (hb hby d2_44) ?_
          show Steps p.tables e below (T21.setTop (mkF m 45 #[.val (.int p1), .val (.int p2), .val (.int p3), .val (.int pn)] [(.int (2 : Int32)), (.ref b21), (.ref b21)])) _
          refine st22 _ ?_
          show Steps p.tables e below (T22.setTop (mkF m 47 #[.val (.int p1), .val (.int p2), .val (.int p3), .val (.int pn)] [(.ref b22), (.ref b21), (.ref b21)])) _
          refine XS.dup X22.here hx rfl (hb hby d2_47) rfl rfl ?_
          show Steps p.tables e below (T22.setTop (mkF m 48 #[.val (.int p1), .val (.int p2), .val (.int p3), .val (.int pn)] [(.ref b22), (.ref b22), (.ref b21), (.ref b21)])) _
          refine XS.iconst X22.here hx rfl (hb hby d2_48) ?_
          show Steps p.tables e below (T22.setTop (mkF m 49 #[.val (.int p1), .val (.int p2), .val (.int p3), .val (.int pn)] [(.int (0 : Int32)), (.ref b22), (.ref b22), (.ref b21), (.ref b21)])) _
          refine XS.iloadN X22.here hx rfl (hb hby d2_49) rfl ?_
          show Steps p.tables e below (T22.setTop (mkF m 50 #[.val (.int p1), .val (.int p2), .val (.int p3), .val (.int pn)] [(.int p1), (.int (0 : Int32)), (.ref b22), (.ref b22), (.ref b21), (.ref b21)])) _
          refine st24 _ ?_
          show Steps p.tables e below (T24.setTop (mkF m 51 #[.val (.int p1), .val (.int p2), .val (.int p3), .val (.int pn)] [(.ref b22), (.ref b21), (.ref b21)])) _
          refine XS.dup X24.here hx rfl (hb hby d2_51) rfl rfl ?_
          show Steps p.tables e below (T24.setTop (mkF m 52 #[.val (.int p1), .val (.int p2), .val (.int p3), .val (.int pn)] [(.ref b22), (.ref b22), (.ref b21), (.ref b21)])) _
          refine XS.iconst X24.here hx rfl (hb hby d2_52) ?_
          show Steps p.tables e below (T24.setTop (mkF m 53 #[.val (.int p1), .val (.int p2), .val (.int p3), .val (.int pn)] [(.int (1 : Int32)), (.ref b22), (.ref b22), (.ref b21), (.ref b21)])) _
          refine XS.iloadN X24.here hx rfl (hb hby d2_53) rfl ?_
          show Steps p.tables e below (T24.setTop (mkF m 54 #[.val (.int p1), .val (.int p2), .val (.int p3), .val (.int pn)] [(.int p2), (.int (1 : Int32)), (.ref b22), (.ref b22), (.ref b21), (.ref b21)])) _
          refine st26 _ ?_
          show Steps p.tables e below (T26.setTop (mkF m 55 #[.val (.int p1), .val (.int p2), .val (.int p3), .val (.int pn)] [(.ref b22), (.ref b21), (.ref b21)])) _
          exact kt
        by_cases hs55_28 : (255 : Int32) < p1
        · have hbl : ∀ c ∈ ([p1, p2] : List Int32), ¬ c < 0 ∧ ¬ (65535 : Int32) < c := by
            intro c hc
            simp only [List.mem_cons, List.not_mem_nil, or_false] at hc
            rcases hc with rfl | rfl
            · exact ⟨p1a, p1b⟩
            · exact ⟨p2a, p2b⟩
          obtain ⟨_, _, ⟨T29, L29, k29, n29⟩, -, X29, ⟨Lc29, hQ29, l29, y29, z29⟩, st29⟩ := X26.specialBack hx (y := (⟨"java/lang/String", "<init>", "([C)V"⟩ : MethodName)) rfl hown (mvT hZ (hw _ (List.mem_of_getElem? (i := 16) rfl))) (mvT hZ (hw _ (List.mem_of_getElem? (i := 17) rfl))) (mvT hZ (hw _ (List.mem_of_getElem? (i := 18) rfl))) (by decide) (backOf (W := 1) (rm3 l Z a0 hw [] b21 b22 (2 : Int32) k22 (fun i => ([p1, p2] : List Int32).getD i 0) zc h26 n0 (Nat.le_trans Z0 Kc26.1) Oc26 (((A21.ext E22).wr W24).wr W26) g_b21 (((F_value_b21.ext E22).other W24 (Or.inl ne_b21_b22)).other W26 (Or.inl ne_b21_b22)) (((F_coder_b21.ext E22).other W24 (Or.inl ne_b21_b22)).other W26 (Or.inl ne_b21_b22)) (PA.of V26 (fun j _ => own_map ([p1, p2] : List Int32) j)) S_ad S_hi S_lo S_c hzc (by decide) (by decide) (own_bnd hbl rfl) ⟨0, by decide, hs55_28⟩) hZ (hw _ (List.mem_of_getElem? (i := 18) rfl)) (hw _ (List.mem_of_getElem? (i := 14) rfl)) (by decide) (by decide)) (g := (mkF m 55 #[.val (.int p1), .val (.int p2), .val (.int p3), .val (.int pn)] [(.ref b22), (.ref b21), (.ref b21)])) rfl (by rw [hml]; rfl) (Steps.refl _) (a := b21) (argsL := [(.ref b22)]) (rest := [(.ref b21)]) (lenOf pd_8 rfl) rfl (by show 2 * 0 + _ ≤ _; exact Nat.le_of_eq rfl) (hb hby d2_55) (fun _ _ => ⟨rfl, e26, (by decide : 2 + 2 ≤ _), (by decide : 6 + 9 ≤ _)⟩)
          dsimp only [Pt.U, Pt.locs, Pt.cells, Pt.slots] at X29 l29 y29 z29 st29 hQ29
          subst l29 y29 z29
          obtain ⟨t29, kb29, zb29, gb29, rfl, N29q, K29, A29c, Fv29, Fc29, Vp29, hz29, hg29⟩ := hQ29
          have Vt29 := Vp29.arv (own_wide ([p1, p2] : List Int32) gb29 hz29 rfl hg29)
          have N29 := Fr.app N26 N29q
          have cq29 := CHr.keep K29 (sfS sf26_b21 sf0) CH26.1
          have CH29 := CH26.trans cq29
          have sf29_b21 := cq29.safe (((A21.ext E22).wr W24).wr W26).lt sf26_b21
          have sf29_b22 := cq29.safe V26.lt sf26_b22
          have Kc29 : Keep h0 T29.heap [] := Kc26.trans K29 (allS (Or.inr sz_b21) all0)
          have Oc29 := Oc26.keep K29 (allS g_b21 all0)
          obtain ⟨fs, hr, hrun, hended, hend⟩ := Stand.leaveW (s := s) (vm₁ := s.vm) X29 hS0 (Nat.le_trans (Nat.le_trans (Nat.le_trans (Nat.le_trans (Nat.le_trans (Nat.zero_le _) E21.1) E22.1) (Keep.of_wr W24).1) (Keep.of_wr W26).1) K29.1) (v := some (.ref b21)) (fun h => by rw [Bd.returns] at h; cases h)
          have hCfin : CHr Z EL0 s.vm s.heap (T29.setFrames fs).vm (T29.setFrames fs).heap := by
            show CHr Z EL0 s.vm s.heap T29.vm T29.heap
            rw [hh]
            exact CH29.trans (CHv.at X29 hZ hEL CH29.1)
          refine ⟨_, _, pre27 _ ?_, hrun, hended, _, _, rfl, ?_, hCfin, hend.1, hend.2.1, hend.2.2.1, hend.2.2.2.mono (by decide) (by decide)⟩
          · show Steps p.tables e below (T26.setTop (mkF m 55 #[.val (.int p1), .val (.int p2), .val (.int p3), .val (.int pn)] [(.ref b22), (.ref b21), (.ref b21)])) _
            refine st29.trans ?_
            show Steps p.tables e below (T29.setTop (mkF m 58 #[.val (.int p1), .val (.int p2), .val (.int p3), .val (.int pn)] [(.ref b21)])) _
            exact retOut X29 hx Bd.returns rfl (Or.inr (Or.inr (Or.inr (Or.inr ⟨rfl, rfl, rfl⟩)))) (hb hby d2_58) hr
          · show Q2 Z p1 p2 p3 pn zc h0 n0 _ T29.heap _
            refine ⟨_, rfl, N29, g_b21, sz_b21, Kc29, ?_⟩
            rw [show csF pn p1 p2 p3 = [p1, p2] from by unfold csF; rw [if_neg hc1_2, if_neg hc17_8, if_pos hc37_20]]
            exact ⟨t29, kb29, _, _, _, A29c, Fv29, Fc29, Vt29, (Or.inr ⟨rfl, own_z2 ([p1, p2] : List Int32) hz29 rfl, rfl, p1, by simp, hs55_28⟩)⟩
        · by_cases hs55_31 : (255 : Int32) < p2
          · have hbl : ∀ c ∈ ([p1, p2] : List Int32), ¬ c < 0 ∧ ¬ (65535 : Int32) < c := by
              intro c hc
              simp only [List.mem_cons, List.not_mem_nil, or_false] at hc
              rcases hc with rfl | rfl
              · exact ⟨p1a, p1b⟩
              · exact ⟨p2a, p2b⟩
            obtain ⟨_, _, ⟨T32, L32, k32, n32⟩, -, X32, ⟨Lc32, hQ32, l32, y32, z32⟩, st32⟩ := X26.specialBack hx (y := (⟨"java/lang/String", "<init>", "([C)V"⟩ : MethodName)) rfl hown (mvT hZ (hw _ (List.mem_of_getElem? (i := 16) rfl))) (mvT hZ (hw _ (List.mem_of_getElem? (i := 17) rfl))) (mvT hZ (hw _ (List.mem_of_getElem? (i := 18) rfl))) (by decide) (backOf (W := 1) (rm3 l Z a0 hw [] b21 b22 (2 : Int32) k22 (fun i => ([p1, p2] : List Int32).getD i 0) zc h26 n0 (Nat.le_trans Z0 Kc26.1) Oc26 (((A21.ext E22).wr W24).wr W26) g_b21 (((F_value_b21.ext E22).other W24 (Or.inl ne_b21_b22)).other W26 (Or.inl ne_b21_b22)) (((F_coder_b21.ext E22).other W24 (Or.inl ne_b21_b22)).other W26 (Or.inl ne_b21_b22)) (PA.of V26 (fun j _ => own_map ([p1, p2] : List Int32) j)) S_ad S_hi S_lo S_c hzc (by decide) (by decide) (own_bnd hbl rfl) ⟨1, by decide, hs55_31⟩) hZ (hw _ (List.mem_of_getElem? (i := 18) rfl)) (hw _ (List.mem_of_getElem? (i := 14) rfl)) (by decide) (by decide)) (g := (mkF m 55 #[.val (.int p1), .val (.int p2), .val (.int p3), .val (.int pn)] [(.ref b22), (.ref b21), (.ref b21)])) rfl (by rw [hml]; rfl) (Steps.refl _) (a := b21) (argsL := [(.ref b22)]) (rest := [(.ref b21)]) (lenOf pd_8 rfl) rfl (by show 2 * 0 + _ ≤ _; exact Nat.le_of_eq rfl) (hb hby d2_55) (fun _ _ => ⟨rfl, e26, (by decide : 2 + 2 ≤ _), (by decide : 6 + 9 ≤ _)⟩)
            dsimp only [Pt.U, Pt.locs, Pt.cells, Pt.slots] at X32 l32 y32 z32 st32 hQ32
            subst l32 y32 z32
            obtain ⟨t32, kb32, zb32, gb32, rfl, N32q, K32, A32c, Fv32, Fc32, Vp32, hz32, hg32⟩ := hQ32
            have Vt32 := Vp32.arv (own_wide ([p1, p2] : List Int32) gb32 hz32 rfl hg32)
            have N32 := Fr.app N26 N32q
            have cq32 := CHr.keep K32 (sfS sf26_b21 sf0) CH26.1
            have CH32 := CH26.trans cq32
            have sf32_b21 := cq32.safe (((A21.ext E22).wr W24).wr W26).lt sf26_b21
            have sf32_b22 := cq32.safe V26.lt sf26_b22
            have Kc32 : Keep h0 T32.heap [] := Kc26.trans K32 (allS (Or.inr sz_b21) all0)
            have Oc32 := Oc26.keep K32 (allS g_b21 all0)
            obtain ⟨fs, hr, hrun, hended, hend⟩ := Stand.leaveW (s := s) (vm₁ := s.vm) X32 hS0 (Nat.le_trans (Nat.le_trans (Nat.le_trans (Nat.le_trans (Nat.le_trans (Nat.zero_le _) E21.1) E22.1) (Keep.of_wr W24).1) (Keep.of_wr W26).1) K32.1) (v := some (.ref b21)) (fun h => by rw [Bd.returns] at h; cases h)
            have hCfin : CHr Z EL0 s.vm s.heap (T32.setFrames fs).vm (T32.setFrames fs).heap := by
              show CHr Z EL0 s.vm s.heap T32.vm T32.heap
              rw [hh]
              exact CH32.trans (CHv.at X32 hZ hEL CH32.1)
            refine ⟨_, _, pre27 _ ?_, hrun, hended, _, _, rfl, ?_, hCfin, hend.1, hend.2.1, hend.2.2.1, hend.2.2.2.mono (by decide) (by decide)⟩
            · show Steps p.tables e below (T26.setTop (mkF m 55 #[.val (.int p1), .val (.int p2), .val (.int p3), .val (.int pn)] [(.ref b22), (.ref b21), (.ref b21)])) _
              refine st32.trans ?_
              show Steps p.tables e below (T32.setTop (mkF m 58 #[.val (.int p1), .val (.int p2), .val (.int p3), .val (.int pn)] [(.ref b21)])) _
              exact retOut X32 hx Bd.returns rfl (Or.inr (Or.inr (Or.inr (Or.inr ⟨rfl, rfl, rfl⟩)))) (hb hby d2_58) hr
            · show Q2 Z p1 p2 p3 pn zc h0 n0 _ T32.heap _
              refine ⟨_, rfl, N32, g_b21, sz_b21, Kc32, ?_⟩
              rw [show csF pn p1 p2 p3 = [p1, p2] from by unfold csF; rw [if_neg hc1_2, if_neg hc17_8, if_pos hc37_20]]
              exact ⟨t32, kb32, _, _, _, A32c, Fv32, Fc32, Vt32, (Or.inr ⟨rfl, own_z2 ([p1, p2] : List Int32) hz32 rfl, rfl, p2, by simp, hs55_31⟩)⟩
          · have hp : ∀ c ∈ ([p1, p2] : List Int32), ¬ c < 0 ∧ ¬ (255 : Int32) < c := by
              intro c hc
              simp only [List.mem_cons, List.not_mem_nil, or_false] at hc
              rcases hc with rfl | rfl
              · exact ⟨p1a, hs55_28⟩
              · exact ⟨p2a, hs55_31⟩
            obtain ⟨_, _, ⟨T34, L34, k34, n34⟩, -, X34, ⟨Lc34, hQ34, l34, y34, z34⟩, st34⟩ := X26.specialBack hx (y := (⟨"java/lang/String", "<init>", "([C)V"⟩ : MethodName)) rfl hown (mvT hZ (hw _ (List.mem_of_getElem? (i := 16) rfl))) (mvT hZ (hw _ (List.mem_of_getElem? (i := 17) rfl))) (mvT hZ (hw _ (List.mem_of_getElem? (i := 18) rfl))) (by decide) (StrChars.Road.backV (W := 1) hZ hws (kI := 4) (hw _ (List.mem_of_getElem? (i := 13) rfl)) (cs := ([p1, p2] : List Int32)) (bs := ([p1, p2] : List Int32).map (fun c => c.toInt8.toInt32)) (n := 2) g_b21 (Nat.le_trans Z0 Kc26.1) (((A21.ext E22).wr W24).wr W26) (((F_value_b21.ext E22).other W24 (Or.inl ne_b21_b22)).other W26 (Or.inl ne_b21_b22)) (((F_coder_b21.ext E22).other W24 (Or.inl ne_b21_b22)).other W26 (Or.inl ne_b21_b22)) V26 (S_c.ext Oc26.2) hzc rfl rfl (by decide) (by decide) hp rfl (by decide) (by decide)) (g := (mkF m 55 #[.val (.int p1), .val (.int p2), .val (.int p3), .val (.int pn)] [(.ref b22), (.ref b21), (.ref b21)])) rfl (by rw [hml]; rfl) (Steps.refl _) (a := b21) (argsL := [(.ref b22)]) (rest := [(.ref b21)]) (lenOf pd_8 rfl) rfl (by show 2 * 0 + _ ≤ _; exact Nat.le_of_eq rfl) (hb hby d2_55) (fun _ _ => ⟨rfl, e26, (by decide : 2 + 1 ≤ _), (by decide : 6 + 2 ≤ _)⟩)
            dsimp only [Pt.U, Pt.locs, Pt.cells, Pt.slots] at X34 l34 y34 z34 st34 hQ34
            subst l34 y34 z34
            obtain ⟨rfl, N34q, K34, A34c, Fc34, t34, kb34, -, -, -, Fv34, Vt34⟩ := hQ34
            have N34 := Fr.app N26 N34q
            have cq34 := CHr.keep K34 (sfS sf26_b21 sf0) CH26.1
            have CH34 := CH26.trans cq34
            have sf34_b21 := cq34.safe (((A21.ext E22).wr W24).wr W26).lt sf26_b21
            have sf34_b22 := cq34.safe V26.lt sf26_b22
            have Kc34 : Keep h0 T34.heap [] := Kc26.trans K34 (allS (Or.inr sz_b21) all0)
            have Oc34 := Oc26.keep K34 (allS g_b21 all0)
            obtain ⟨fs, hr, hrun, hended, hend⟩ := Stand.leaveW (s := s) (vm₁ := s.vm) X34 hS0 (Nat.le_trans (Nat.le_trans (Nat.le_trans (Nat.le_trans (Nat.le_trans (Nat.zero_le _) E21.1) E22.1) (Keep.of_wr W24).1) (Keep.of_wr W26).1) K34.1) (v := some (.ref b21)) (fun h => by rw [Bd.returns] at h; cases h)
            have hCfin : CHr Z EL0 s.vm s.heap (T34.setFrames fs).vm (T34.setFrames fs).heap := by
              show CHr Z EL0 s.vm s.heap T34.vm T34.heap
              rw [hh]
              exact CH34.trans (CHv.at X34 hZ hEL CH34.1)
            refine ⟨_, _, pre27 _ ?_, hrun, hended, _, _, rfl, ?_, hCfin, hend.1, hend.2.1, hend.2.2.1, hend.2.2.2.mono (by decide) (by decide)⟩
            · show Steps p.tables e below (T26.setTop (mkF m 55 #[.val (.int p1), .val (.int p2), .val (.int p3), .val (.int pn)] [(.ref b22), (.ref b21), (.ref b21)])) _
              refine st34.trans ?_
              show Steps p.tables e below (T34.setTop (mkF m 58 #[.val (.int p1), .val (.int p2), .val (.int p3), .val (.int pn)] [(.ref b21)])) _
              exact retOut X34 hx Bd.returns rfl (Or.inr (Or.inr (Or.inr (Or.inr ⟨rfl, rfl, rfl⟩)))) (hb hby d2_58) hr
            · show Q2 Z p1 p2 p3 pn zc h0 n0 _ T34.heap _
              refine ⟨_, rfl, N34, g_b21, sz_b21, Kc34, ?_⟩
              rw [show csF pn p1 p2 p3 = [p1, p2] from by unfold csF; rw [if_neg hc1_2, if_neg hc17_8, if_pos hc37_20]]
              exact ⟨t34, kb34, _, _, _, A34c, Fv34, Fc34, Vt34, (StrChars.Road.codOf (n := 2) rfl (fun c hc => (hp c hc).2))⟩
      · obtain ⟨T36, h36, X36, e36, E36, A36, D36, -, st36⟩ := newO X0 hx hZ hown (hw _ (List.mem_of_getElem? (i := 12) rfl)) (hw _ (List.mem_of_getElem? (i := 13) rfl)) (hw _ (List.mem_of_getElem? (i := 14) rfl)) e0 (g := (mkF m 59 #[.val (.int p1), .val (.int p2), .val (.int p3), .val (.int pn)] [])) rfl (hb hby d2_59) (by decide) (by decide)
        obtain ⟨b36, g36⟩ : ∃ z, z = h0.size := ⟨_, rfl⟩
        rw [← g36] at A36 D36 st36
        have g_b36 : n0 ≤ b36 := Nat.le_trans Z0 (Nat.le_of_eq g36.symm)
        have sz_b36 : h0.size ≤ b36 := Nat.le_trans (Keep.refl h0 []).1 (Nat.le_of_eq g36.symm)
        have cq36 := CHr.ext E36 CH0.1
        have CH36 := CH0.trans cq36
        have sf36_b36 := Safe.ext E36 CH0.1 (Safe.new (Nat.le_of_eq g36.symm))
        have Kc36 : Keep h0 h36 [] := (Keep.refl h0 []).ext E36
        have Oc36 := O.ext E36
        have F_value_b36 : Fld Z h36 b36 "java/lang/String" "value" "[B" .null := D36 (Or.inr (hw _ (List.mem_of_getElem? (i := 28) rfl))) (ty := (.array .byte)) (by decide)
        have F_coder_b36 : Fld Z h36 b36 "java/lang/String" "coder" "B" (.int (0 : Int32)) := D36 (Or.inr (hw _ (List.mem_of_getElem? (i := 29) rfl))) (ty := .byte) (by decide)
        obtain ⟨T37, h37, k37, X37, e37, E37, A37, st37⟩ := newP X36 hx hZ (hw _ (List.mem_of_getElem? (i := 15) rfl)) e36 (g := (mkF m 64 #[.val (.int p1), .val (.int p2), .val (.int p3), .val (.int pn)] [(.int (3 : Int32)), (.ref b36), (.ref b36)])) rfl (hb hby d2_64) rfl (by decide) (cap := 3) (by decide) (by decide) (by decide) (by decide)
        obtain ⟨b37, g37⟩ : ∃ z, z = h36.size := ⟨_, rfl⟩
        rw [← g37] at A37 st37
        have g_b37 : n0 ≤ b37 := Nat.le_trans (Nat.le_trans Z0 Kc36.1) (Nat.le_of_eq g37.symm)
        have sz_b37 : h0.size ≤ b37 := Nat.le_trans Kc36.1 (Nat.le_of_eq g37.symm)
        have ne_b36_b37 : b36 ≠ b37 := Nat.ne_of_lt (Nat.lt_of_lt_of_le A36.lt (Nat.le_of_eq g37.symm))
        have cq37 := CHr.ext E37 CH36.1
        have CH37 := CH36.trans cq37
        have sf37_b36 := cq37.safe A36.lt sf36_b36
        have sf37_b37 := Safe.ext E37 CH36.1 (Safe.new (Nat.le_of_eq g37.symm))
        have Kc37 : Keep h0 h37 [] := Kc36.ext E37
        have Oc37 := Oc36.ext E37
        have V_b37 : Arv Z h37 b37 k37 .char (3 : Int32) [(.int (0 : Int32)), (.int (0 : Int32)), (.int (0 : Int32))] (.int (0 : Int32)) := (Arv.new A37 (by decide)).pad (pad_rep [] (.int (0 : Int32)) 3)
        obtain ⟨cl38, Ar38, qc38, Sz38, Ng38, Hs38, Gs38⟩ := (id V_b37)
        have hin38 : ¬ ((0 : Int32) < 0 ∨ cl38.slots.size ≤ ((0 : Int32)).toNatClampNeg) := inb_of Sz38 ⟨by decide, by decide⟩
        obtain ⟨T39, h39, X39, e39, W39, st39⟩ := stC X37 hx hZ e37 Ar38 (j := (0 : Int32)) hin38 (g := (mkF m 69 #[.val (.int p1), .val (.int p2), .val (.int p3), .val (.int pn)] [(.int p1), (.int (0 : Int32)), (.ref b37), (.ref b37), (.ref b36), (.ref b36)])) rfl rfl (hb hby d2_69)
        rw [own_narc p1a p1b] at W39
        have cq39 := CHr.wr W39 sf37_b37 CH37.1
        have CH39 := CH37.trans cq39
        have sf39_b36 := cq39.safe (A36.ext E37).lt sf37_b36
        have sf39_b37 := cq39.safe V_b37.lt sf37_b37
        have Kc39 : Keep h0 h39 [] := Kc37.wr W39 (Or.inr sz_b37)
        have Oc39 := Oc37.wr W39 g_b37
        have N39 := Fr.snoc X39 N0 g_b37
        have V39 : Arv Z h39 b37 k37 .char (3 : Int32) [(.int p1), (.int (0 : Int32)), (.int (0 : Int32))] (.int (0 : Int32)) := Arv.set Ar38 qc38 Sz38 Ng38 Hs38 Gs38 (by rw [← own_narc p1a p1b]; exact fits_nar_char _) W39 0 rfl (Nat.le_of_ble_eq_true rfl)
        obtain ⟨cl40, Ar40, qc40, Sz40, Ng40, Hs40, Gs40⟩ := (id V39)
        have hin40 : ¬ ((1 : Int32) < 0 ∨ cl40.slots.size ≤ ((1 : Int32)).toNatClampNeg) := inb_of Sz40 ⟨by decide, by decide⟩
        obtain ⟨T41, h41, X41, e41, W41, st41⟩ := stC X39 hx hZ e39 Ar40 (j := (1 : Int32)) hin40 (g := (mkF m 73 #[.val (.int p1), .val (.int p2), .val (.int p3), .val (.int pn)] [(.int p2), (.int (1 : Int32)), (.ref b37), (.ref b37), (.ref b36), (.ref b36)])) rfl rfl (hb hby d2_73)
        rw [own_narc p2a p2b] at W41
        have cq41 := CHr.wr W41 sf39_b37 CH39.1
        have CH41 := CH39.trans cq41
        have sf41_b36 := cq41.safe ((A36.ext E37).wr W39).lt sf39_b36
        have sf41_b37 := cq41.safe V39.lt sf39_b37
        have Kc41 : Keep h0 h41 [] := Kc39.wr W41 (Or.inr sz_b37)
        have Oc41 := Oc39.wr W41 g_b37
        have N41 := Fr.snoc X41 N39 g_b37
        have V41 : Arv Z h41 b37 k37 .char (3 : Int32) [(.int p1), (.int p2), (.int (0 : Int32))] (.int (0 : Int32)) := Arv.set Ar40 qc40 Sz40 Ng40 Hs40 Gs40 (by rw [← own_narc p2a p2b]; exact fits_nar_char _) W41 1 rfl (Nat.le_of_ble_eq_true rfl)
        obtain ⟨cl42, Ar42, qc42, Sz42, Ng42, Hs42, Gs42⟩ := (id V41)
        have hin42 : ¬ ((2 : Int32) < 0 ∨ cl42.slots.size ≤ ((2 : Int32)).toNatClampNeg) := inb_of Sz42 ⟨by decide, by decide⟩
        obtain ⟨T43, h43, X43, e43, W43, st43⟩ := stC X41 hx hZ e41 Ar42 (j := (2 : Int32)) hin42 (g := (mkF m 77 #[.val (.int p1), .val (.int p2), .val (.int p3), .val (.int pn)] [(.int p3), (.int (2 : Int32)), (.ref b37), (.ref b37), (.ref b36), (.ref b36)])) rfl rfl (hb hby d2_77)
        rw [own_narc p3a p3b] at W43
        have cq43 := CHr.wr W43 sf41_b37 CH41.1
        have CH43 := CH41.trans cq43
        have sf43_b36 := cq43.safe (((A36.ext E37).wr W39).wr W41).lt sf41_b36
        have sf43_b37 := cq43.safe V41.lt sf41_b37
        have Kc43 : Keep h0 h43 [] := Kc41.wr W43 (Or.inr sz_b37)
        have Oc43 := Oc41.wr W43 g_b37
        have N43 := Fr.snoc X43 N41 g_b37
        have V43 : Arv Z h43 b37 k37 .char (3 : Int32) [(.int p1), (.int p2), (.int p3)] (.int (0 : Int32)) := Arv.set Ar42 qc42 Sz42 Ng42 Hs42 Gs42 (by rw [← own_narc p3a p3b]; exact fits_nar_char _) W43 2 rfl (Nat.le_of_ble_eq_true rfl)
        have pre44 : ∀ tq, Steps p.tables e below (T43.setTop (mkF m 78 #[.val (.int p1), .val (.int p2), .val (.int p3), .val (.int pn)] [(.ref b37), (.ref b36), (.ref b36)])) tq → Steps p.tables e below (s₁.setTop (entryFrame m #[(.int p1), (.int p2), (.int p3), (.int pn)] 4)) tq := by
          intro tq kt
          refine pre19 tq ?_
          show Steps p.tables e below (s₁.setTop (mkF m 37 #[.val (.int p1), .val (.int p2), .val (.int p3), .val (.int pn)] [(.int (2 : Int32)), (.int pn)])) _
          refine XS.icmpYes X0.here hx rfl (pc0 := 37) (pc' := 59) rfl (hb hby d2_37) rfl (feq hc37_20).2 (by decide) (by decide) ?_
          show Steps p.tables e below (s₁.setTop (mkF m 59 #[.val (.int p1), .val (.int p2), .val (.int p3), .val (.int pn)] [])) _
          refine st36 _ ?_
          show Steps p.tables e below (T36.setTop (mkF m 62 #[.val (.int p1), .val (.int p2), .val (.int p3), .val (.int pn)] [(.ref b36)])) _
          refine XS.dup X36.here hx rfl (hb hby d2_62) rfl rfl ?_
          show Steps p.tables e below (T36.setTop (mkF m 63 #[.val (.int p1), .val (.int p2), .val (.int p3), .val (.int pn)] [(.ref b36), (.ref b36)])) _
          refine XS.iconst X36.here hx rfl (hb hby d2_63) ?_
          show Steps p.tables e below (T36.setTop (mkF m 64 #[.val (.int p1), .val (.int p2), .val (.int p3), .val (.int pn)] [(.int (3 : Int32)), (.ref b36), (.ref b36)])) _
          refine st37 _ ?_
          show Steps p.tables e below (T37.setTop (mkF m 66 #[.val (.int p1), .val (.int p2), .val (.int p3), .val (.int pn)] [(.ref b37), (.ref b36), (.ref b36)])) _
          refine XS.dup X37.here hx rfl (hb hby d2_66) rfl rfl ?_
          show Steps p.tables e below (T37.setTop (mkF m 67 #[.val (.int p1), .val (.int p2), .val (.int p3), .val (.int pn)] [(.ref b37), (.ref b37), (.ref b36), (.ref b36)])) _
          refine XS.iconst X37.here hx rfl (hb hby d2_67) ?_
          show Steps p.tables e below (T37.setTop (mkF m 68 #[.val (.int p1), .val (.int p2), .val (.int p3), .val (.int pn)] [(.int (0 : Int32)), (.ref b37), (.ref b37), (.ref b36), (.ref b36)])) _
          refine XS.iloadN X37.here hx rfl (hb hby d2_68) rfl ?_
          show Steps p.tables e below (T37.setTop (mkF m 69 #[.val (.int p1), .val (.int p2), .val (.int p3), .val (.int pn)] [(.int p1), (.int (0 : Int32)), (.ref b37), (.ref b37), (.ref b36), (.ref b36)])) _
          refine st39 _ ?_
          show Steps p.tables e below (T39.setTop (mkF m 70 #[.val (.int p1), .val (.int p2), .val (.int p3), .val (.int pn)] [(.ref b37), (.ref b36), (.ref b36)])) _
          refine XS.dup X39.here hx rfl (hb hby d2_70) rfl rfl ?_
          show Steps p.tables e below (T39.setTop (mkF m 71 #[.val (.int p1), .val (.int p2), .val (.int p3), .val (.int pn)] [(.ref b37), (.ref b37), (.ref b36), (.ref b36)])) _
          refine XS.iconst X39.here hx rfl (hb hby d2_71) ?_
          show Steps p.tables e below (T39.setTop (mkF m 72 #[.val (.int p1), .val (.int p2), .val (.int p3), .val (.int pn)] [(.int (1 : Int32)), (.ref b37), (.ref b37), (.ref b36), (.ref b36)])) _
          refine XS.iloadN X39.here hx rfl (hb hby d2_72) rfl ?_
          show Steps p.tables e below (T39.setTop (mkF m 73 #[.val (.int p1), .val (.int p2), .val (.int p3), .val (.int pn)] [(.int p2), (.int (1 : Int32)), (.ref b37), (.ref b37), (.ref b36), (.ref b36)])) _
          refine st41 _ ?_
          show Steps p.tables e below (T41.setTop (mkF m 74 #[.val (.int p1), .val (.int p2), .val (.int p3), .val (.int pn)] [(.ref b37), (.ref b36), (.ref b36)])) _
          refine XS.dup X41.here hx rfl (hb hby d2_74) rfl rfl ?_
          show Steps p.tables e below (T41.setTop (mkF m 75 #[.val (.int p1), .val (.int p2), .val (.int p3), .val (.int pn)] [(.ref b37), (.ref b37), (.ref b36), (.ref b36)])) _
          refine XS.iconst X41.here hx rfl (hb hby d2_75) ?_
          show Steps p.tables e below (T41.setTop (mkF m 76 #[.val (.int p1), .val (.int p2), .val (.int p3), .val (.int pn)] [(.int (2 : Int32)), (.ref b37), (.ref b37), (.ref b36), (.ref b36)])) _
          refine XS.iloadN X41.here hx rfl (hb hby d2_76) rfl ?_
          show Steps p.tables e below (T41.setTop (mkF m 77 #[.val (.int p1), .val (.int p2), .val (.int p3), .val (.int pn)] [(.int p3), (.int (2 : Int32)), (.ref b37), (.ref b37), (.ref b36), (.ref b36)])) _
          refine st43 _ ?_
          show Steps p.tables e below (T43.setTop (mkF m 78 #[.val (.int p1), .val (.int p2), .val (.int p3), .val (.int pn)] [(.ref b37), (.ref b36), (.ref b36)])) _
          exact kt
        by_cases hs78_45 : (255 : Int32) < p1
        · have hbl : ∀ c ∈ ([p1, p2, p3] : List Int32), ¬ c < 0 ∧ ¬ (65535 : Int32) < c := by
            intro c hc
            simp only [List.mem_cons, List.not_mem_nil, or_false] at hc
            rcases hc with rfl | rfl | rfl
            · exact ⟨p1a, p1b⟩
            · exact ⟨p2a, p2b⟩
            · exact ⟨p3a, p3b⟩
          obtain ⟨_, _, ⟨T46, L46, k46, n46⟩, -, X46, ⟨Lc46, hQ46, l46, y46, z46⟩, st46⟩ := X43.specialBack hx (y := (⟨"java/lang/String", "<init>", "([C)V"⟩ : MethodName)) rfl hown (mvT hZ (hw _ (List.mem_of_getElem? (i := 16) rfl))) (mvT hZ (hw _ (List.mem_of_getElem? (i := 17) rfl))) (mvT hZ (hw _ (List.mem_of_getElem? (i := 18) rfl))) (by decide) (backOf (W := 1) (rm3 l Z a0 hw [] b36 b37 (3 : Int32) k37 (fun i => ([p1, p2, p3] : List Int32).getD i 0) zc h43 n0 (Nat.le_trans Z0 Kc43.1) Oc43 ((((A36.ext E37).wr W39).wr W41).wr W43) g_b36 ((((F_value_b36.ext E37).other W39 (Or.inl ne_b36_b37)).other W41 (Or.inl ne_b36_b37)).other W43 (Or.inl ne_b36_b37)) ((((F_coder_b36.ext E37).other W39 (Or.inl ne_b36_b37)).other W41 (Or.inl ne_b36_b37)).other W43 (Or.inl ne_b36_b37)) (PA.of V43 (fun j _ => own_map ([p1, p2, p3] : List Int32) j)) S_ad S_hi S_lo S_c hzc (by decide) (by decide) (own_bnd hbl rfl) ⟨0, by decide, hs78_45⟩) hZ (hw _ (List.mem_of_getElem? (i := 18) rfl)) (hw _ (List.mem_of_getElem? (i := 14) rfl)) (by decide) (by decide)) (g := (mkF m 78 #[.val (.int p1), .val (.int p2), .val (.int p3), .val (.int pn)] [(.ref b37), (.ref b36), (.ref b36)])) rfl (by rw [hml]; rfl) (Steps.refl _) (a := b36) (argsL := [(.ref b37)]) (rest := [(.ref b36)]) (lenOf pd_8 rfl) rfl (by show 2 * 0 + _ ≤ _; exact Nat.le_of_eq rfl) (hb hby d2_78) (fun _ _ => ⟨rfl, e43, (by decide : 2 + 2 ≤ _), (by decide : 7 + 9 ≤ _)⟩)
          dsimp only [Pt.U, Pt.locs, Pt.cells, Pt.slots] at X46 l46 y46 z46 st46 hQ46
          subst l46 y46 z46
          obtain ⟨t46, kb46, zb46, gb46, rfl, N46q, K46, A46c, Fv46, Fc46, Vp46, hz46, hg46⟩ := hQ46
          have Vt46 := Vp46.arv (own_wide ([p1, p2, p3] : List Int32) gb46 hz46 rfl hg46)
          have N46 := Fr.app N43 N46q
          have cq46 := CHr.keep K46 (sfS sf43_b36 sf0) CH43.1
          have CH46 := CH43.trans cq46
          have sf46_b36 := cq46.safe ((((A36.ext E37).wr W39).wr W41).wr W43).lt sf43_b36
          have sf46_b37 := cq46.safe V43.lt sf43_b37
          have Kc46 : Keep h0 T46.heap [] := Kc43.trans K46 (allS (Or.inr sz_b36) all0)
          have Oc46 := Oc43.keep K46 (allS g_b36 all0)
          obtain ⟨fs, hr, hrun, hended, hend⟩ := Stand.leaveW (s := s) (vm₁ := s.vm) X46 hS0 (Nat.le_trans (Nat.le_trans (Nat.le_trans (Nat.le_trans (Nat.le_trans (Nat.le_trans (Nat.zero_le _) E36.1) E37.1) (Keep.of_wr W39).1) (Keep.of_wr W41).1) (Keep.of_wr W43).1) K46.1) (v := some (.ref b36)) (fun h => by rw [Bd.returns] at h; cases h)
          have hCfin : CHr Z EL0 s.vm s.heap (T46.setFrames fs).vm (T46.setFrames fs).heap := by
            show CHr Z EL0 s.vm s.heap T46.vm T46.heap
            rw [hh]
            exact CH46.trans (CHv.at X46 hZ hEL CH46.1)
          refine ⟨_, _, pre44 _ ?_, hrun, hended, _, _, rfl, ?_, hCfin, hend.1, hend.2.1, hend.2.2.1, hend.2.2.2.mono (by decide) (by decide)⟩
          · show Steps p.tables e below (T43.setTop (mkF m 78 #[.val (.int p1), .val (.int p2), .val (.int p3), .val (.int pn)] [(.ref b37), (.ref b36), (.ref b36)])) _
            refine st46.trans ?_
            show Steps p.tables e below (T46.setTop (mkF m 81 #[.val (.int p1), .val (.int p2), .val (.int p3), .val (.int pn)] [(.ref b36)])) _
            exact retOut X46 hx Bd.returns rfl (Or.inr (Or.inr (Or.inr (Or.inr ⟨rfl, rfl, rfl⟩)))) (hb hby d2_81) hr
          · show Q2 Z p1 p2 p3 pn zc h0 n0 _ T46.heap _
            refine ⟨_, rfl, N46, g_b36, sz_b36, Kc46, ?_⟩
            rw [show csF pn p1 p2 p3 = [p1, p2, p3] from by unfold csF; rw [if_neg hc1_2, if_neg hc17_8, if_neg hc37_20]]
            exact ⟨t46, kb46, _, _, _, A46c, Fv46, Fc46, Vt46, (Or.inr ⟨rfl, own_z2 ([p1, p2, p3] : List Int32) hz46 rfl, rfl, p1, by simp, hs78_45⟩)⟩
        · by_cases hs78_48 : (255 : Int32) < p2
          · have hbl : ∀ c ∈ ([p1, p2, p3] : List Int32), ¬ c < 0 ∧ ¬ (65535 : Int32) < c := by
              intro c hc
              simp only [List.mem_cons, List.not_mem_nil, or_false] at hc
              rcases hc with rfl | rfl | rfl
              · exact ⟨p1a, p1b⟩
              · exact ⟨p2a, p2b⟩
              · exact ⟨p3a, p3b⟩
            obtain ⟨_, _, ⟨T49, L49, k49, n49⟩, -, X49, ⟨Lc49, hQ49, l49, y49, z49⟩, st49⟩ := X43.specialBack hx (y := (⟨"java/lang/String", "<init>", "([C)V"⟩ : MethodName)) rfl hown (mvT hZ (hw _ (List.mem_of_getElem? (i := 16) rfl))) (mvT hZ (hw _ (List.mem_of_getElem? (i := 17) rfl))) (mvT hZ (hw _ (List.mem_of_getElem? (i := 18) rfl))) (by decide) (backOf (W := 1) (rm3 l Z a0 hw [] b36 b37 (3 : Int32) k37 (fun i => ([p1, p2, p3] : List Int32).getD i 0) zc h43 n0 (Nat.le_trans Z0 Kc43.1) Oc43 ((((A36.ext E37).wr W39).wr W41).wr W43) g_b36 ((((F_value_b36.ext E37).other W39 (Or.inl ne_b36_b37)).other W41 (Or.inl ne_b36_b37)).other W43 (Or.inl ne_b36_b37)) ((((F_coder_b36.ext E37).other W39 (Or.inl ne_b36_b37)).other W41 (Or.inl ne_b36_b37)).other W43 (Or.inl ne_b36_b37)) (PA.of V43 (fun j _ => own_map ([p1, p2, p3] : List Int32) j)) S_ad S_hi S_lo S_c hzc (by decide) (by decide) (own_bnd hbl rfl) ⟨1, by decide, hs78_48⟩) hZ (hw _ (List.mem_of_getElem? (i := 18) rfl)) (hw _ (List.mem_of_getElem? (i := 14) rfl)) (by decide) (by decide)) (g := (mkF m 78 #[.val (.int p1), .val (.int p2), .val (.int p3), .val (.int pn)] [(.ref b37), (.ref b36), (.ref b36)])) rfl (by rw [hml]; rfl) (Steps.refl _) (a := b36) (argsL := [(.ref b37)]) (rest := [(.ref b36)]) (lenOf pd_8 rfl) rfl (by show 2 * 0 + _ ≤ _; exact Nat.le_of_eq rfl) (hb hby d2_78) (fun _ _ => ⟨rfl, e43, (by decide : 2 + 2 ≤ _), (by decide : 7 + 9 ≤ _)⟩)
            dsimp only [Pt.U, Pt.locs, Pt.cells, Pt.slots] at X49 l49 y49 z49 st49 hQ49
            subst l49 y49 z49
            obtain ⟨t49, kb49, zb49, gb49, rfl, N49q, K49, A49c, Fv49, Fc49, Vp49, hz49, hg49⟩ := hQ49
            have Vt49 := Vp49.arv (own_wide ([p1, p2, p3] : List Int32) gb49 hz49 rfl hg49)
            have N49 := Fr.app N43 N49q
            have cq49 := CHr.keep K49 (sfS sf43_b36 sf0) CH43.1
            have CH49 := CH43.trans cq49
            have sf49_b36 := cq49.safe ((((A36.ext E37).wr W39).wr W41).wr W43).lt sf43_b36
            have sf49_b37 := cq49.safe V43.lt sf43_b37
            have Kc49 : Keep h0 T49.heap [] := Kc43.trans K49 (allS (Or.inr sz_b36) all0)
            have Oc49 := Oc43.keep K49 (allS g_b36 all0)
            obtain ⟨fs, hr, hrun, hended, hend⟩ := Stand.leaveW (s := s) (vm₁ := s.vm) X49 hS0 (Nat.le_trans (Nat.le_trans (Nat.le_trans (Nat.le_trans (Nat.le_trans (Nat.le_trans (Nat.zero_le _) E36.1) E37.1) (Keep.of_wr W39).1) (Keep.of_wr W41).1) (Keep.of_wr W43).1) K49.1) (v := some (.ref b36)) (fun h => by rw [Bd.returns] at h; cases h)
            have hCfin : CHr Z EL0 s.vm s.heap (T49.setFrames fs).vm (T49.setFrames fs).heap := by
              show CHr Z EL0 s.vm s.heap T49.vm T49.heap
              rw [hh]
              exact CH49.trans (CHv.at X49 hZ hEL CH49.1)
            refine ⟨_, _, pre44 _ ?_, hrun, hended, _, _, rfl, ?_, hCfin, hend.1, hend.2.1, hend.2.2.1, hend.2.2.2.mono (by decide) (by decide)⟩
            · show Steps p.tables e below (T43.setTop (mkF m 78 #[.val (.int p1), .val (.int p2), .val (.int p3), .val (.int pn)] [(.ref b37), (.ref b36), (.ref b36)])) _
              refine st49.trans ?_
              show Steps p.tables e below (T49.setTop (mkF m 81 #[.val (.int p1), .val (.int p2), .val (.int p3), .val (.int pn)] [(.ref b36)])) _
              exact retOut X49 hx Bd.returns rfl (Or.inr (Or.inr (Or.inr (Or.inr ⟨rfl, rfl, rfl⟩)))) (hb hby d2_81) hr
            · show Q2 Z p1 p2 p3 pn zc h0 n0 _ T49.heap _
              refine ⟨_, rfl, N49, g_b36, sz_b36, Kc49, ?_⟩
              rw [show csF pn p1 p2 p3 = [p1, p2, p3] from by unfold csF; rw [if_neg hc1_2, if_neg hc17_8, if_neg hc37_20]]
              exact ⟨t49, kb49, _, _, _, A49c, Fv49, Fc49, Vt49, (Or.inr ⟨rfl, own_z2 ([p1, p2, p3] : List Int32) hz49 rfl, rfl, p2, by simp, hs78_48⟩)⟩
          · by_cases hs78_51 : (255 : Int32) < p3
            · have hbl : ∀ c ∈ ([p1, p2, p3] : List Int32), ¬ c < 0 ∧ ¬ (65535 : Int32) < c := by
                intro c hc
                simp only [List.mem_cons, List.not_mem_nil, or_false] at hc
                rcases hc with rfl | rfl | rfl
                · exact ⟨p1a, p1b⟩
                · exact ⟨p2a, p2b⟩
                · exact ⟨p3a, p3b⟩
              obtain ⟨_, _, ⟨T52, L52, k52, n52⟩, -, X52, ⟨Lc52, hQ52, l52, y52, z52⟩, st52⟩ := X43.specialBack hx (y := (⟨"java/lang/String", "<init>", "([C)V"⟩ : MethodName)) rfl hown (mvT hZ (hw _ (List.mem_of_getElem? (i := 16) rfl))) (mvT hZ (hw _ (List.mem_of_getElem? (i := 17) rfl))) (mvT hZ (hw _ (List.mem_of_getElem? (i := 18) rfl))) (by decide) (backOf (W := 1) (rm3 l Z a0 hw [] b36 b37 (3 : Int32) k37 (fun i => ([p1, p2, p3] : List Int32).getD i 0) zc h43 n0 (Nat.le_trans Z0 Kc43.1) Oc43 ((((A36.ext E37).wr W39).wr W41).wr W43) g_b36 ((((F_value_b36.ext E37).other W39 (Or.inl ne_b36_b37)).other W41 (Or.inl ne_b36_b37)).other W43 (Or.inl ne_b36_b37)) ((((F_coder_b36.ext E37).other W39 (Or.inl ne_b36_b37)).other W41 (Or.inl ne_b36_b37)).other W43 (Or.inl ne_b36_b37)) (PA.of V43 (fun j _ => own_map ([p1, p2, p3] : List Int32) j)) S_ad S_hi S_lo S_c hzc (by decide) (by decide) (own_bnd hbl rfl) ⟨2, by decide, hs78_51⟩) hZ (hw _ (List.mem_of_getElem? (i := 18) rfl)) (hw _ (List.mem_of_getElem? (i := 14) rfl)) (by decide) (by decide)) (g := (mkF m 78 #[.val (.int p1), .val (.int p2), .val (.int p3), .val (.int pn)] [(.ref b37), (.ref b36), (.ref b36)])) rfl (by rw [hml]; rfl) (Steps.refl _) (a := b36) (argsL := [(.ref b37)]) (rest := [(.ref b36)]) (lenOf pd_8 rfl) rfl (by show 2 * 0 + _ ≤ _; exact Nat.le_of_eq rfl) (hb hby d2_78) (fun _ _ => ⟨rfl, e43, (by decide : 2 + 2 ≤ _), (by decide : 7 + 9 ≤ _)⟩)
              dsimp only [Pt.U, Pt.locs, Pt.cells, Pt.slots] at X52 l52 y52 z52 st52 hQ52
              subst l52 y52 z52
              obtain ⟨t52, kb52, zb52, gb52, rfl, N52q, K52, A52c, Fv52, Fc52, Vp52, hz52, hg52⟩ := hQ52
              have Vt52 := Vp52.arv (own_wide ([p1, p2, p3] : List Int32) gb52 hz52 rfl hg52)
              have N52 := Fr.app N43 N52q
              have cq52 := CHr.keep K52 (sfS sf43_b36 sf0) CH43.1
              have CH52 := CH43.trans cq52
              have sf52_b36 := cq52.safe ((((A36.ext E37).wr W39).wr W41).wr W43).lt sf43_b36
              have sf52_b37 := cq52.safe V43.lt sf43_b37
              have Kc52 : Keep h0 T52.heap [] := Kc43.trans K52 (allS (Or.inr sz_b36) all0)
              have Oc52 := Oc43.keep K52 (allS g_b36 all0)
              obtain ⟨fs, hr, hrun, hended, hend⟩ := Stand.leaveW (s := s) (vm₁ := s.vm) X52 hS0 (Nat.le_trans (Nat.le_trans (Nat.le_trans (Nat.le_trans (Nat.le_trans (Nat.le_trans (Nat.zero_le _) E36.1) E37.1) (Keep.of_wr W39).1) (Keep.of_wr W41).1) (Keep.of_wr W43).1) K52.1) (v := some (.ref b36)) (fun h => by rw [Bd.returns] at h; cases h)
              have hCfin : CHr Z EL0 s.vm s.heap (T52.setFrames fs).vm (T52.setFrames fs).heap := by
                show CHr Z EL0 s.vm s.heap T52.vm T52.heap
                rw [hh]
                exact CH52.trans (CHv.at X52 hZ hEL CH52.1)
              refine ⟨_, _, pre44 _ ?_, hrun, hended, _, _, rfl, ?_, hCfin, hend.1, hend.2.1, hend.2.2.1, hend.2.2.2.mono (by decide) (by decide)⟩
              · show Steps p.tables e below (T43.setTop (mkF m 78 #[.val (.int p1), .val (.int p2), .val (.int p3), .val (.int pn)] [(.ref b37), (.ref b36), (.ref b36)])) _
                refine st52.trans ?_
                show Steps p.tables e below (T52.setTop (mkF m 81 #[.val (.int p1), .val (.int p2), .val (.int p3), .val (.int pn)] [(.ref b36)])) _
                exact retOut X52 hx Bd.returns rfl (Or.inr (Or.inr (Or.inr (Or.inr ⟨rfl, rfl, rfl⟩)))) (hb hby d2_81) hr
              · show Q2 Z p1 p2 p3 pn zc h0 n0 _ T52.heap _
                refine ⟨_, rfl, N52, g_b36, sz_b36, Kc52, ?_⟩
                rw [show csF pn p1 p2 p3 = [p1, p2, p3] from by unfold csF; rw [if_neg hc1_2, if_neg hc17_8, if_neg hc37_20]]
                exact ⟨t52, kb52, _, _, _, A52c, Fv52, Fc52, Vt52, (Or.inr ⟨rfl, own_z2 ([p1, p2, p3] : List Int32) hz52 rfl, rfl, p3, by simp, hs78_51⟩)⟩
            · have hp : ∀ c ∈ ([p1, p2, p3] : List Int32), ¬ c < 0 ∧ ¬ (255 : Int32) < c := by
                intro c hc
                simp only [List.mem_cons, List.not_mem_nil, or_false] at hc
                rcases hc with rfl | rfl | rfl
                · exact ⟨p1a, hs78_45⟩
                · exact ⟨p2a, hs78_48⟩
                · exact ⟨p3a, hs78_51⟩
              obtain ⟨_, _, ⟨T54, L54, k54, n54⟩, -, X54, ⟨Lc54, hQ54, l54, y54, z54⟩, st54⟩ := X43.specialBack hx (y := (⟨"java/lang/String", "<init>", "([C)V"⟩ : MethodName)) rfl hown (mvT hZ (hw _ (List.mem_of_getElem? (i := 16) rfl))) (mvT hZ (hw _ (List.mem_of_getElem? (i := 17) rfl))) (mvT hZ (hw _ (List.mem_of_getElem? (i := 18) rfl))) (by decide) (StrChars.Road.backV (W := 1) hZ hws (kI := 4) (hw _ (List.mem_of_getElem? (i := 13) rfl)) (cs := ([p1, p2, p3] : List Int32)) (bs := ([p1, p2, p3] : List Int32).map (fun c => c.toInt8.toInt32)) (n := 3) g_b36 (Nat.le_trans Z0 Kc43.1) ((((A36.ext E37).wr W39).wr W41).wr W43) ((((F_value_b36.ext E37).other W39 (Or.inl ne_b36_b37)).other W41 (Or.inl ne_b36_b37)).other W43 (Or.inl ne_b36_b37)) ((((F_coder_b36.ext E37).other W39 (Or.inl ne_b36_b37)).other W41 (Or.inl ne_b36_b37)).other W43 (Or.inl ne_b36_b37)) V43 (S_c.ext Oc43.2) hzc rfl rfl (by decide) (by decide) hp rfl (by decide) (by decide)) (g := (mkF m 78 #[.val (.int p1), .val (.int p2), .val (.int p3), .val (.int pn)] [(.ref b37), (.ref b36), (.ref b36)])) rfl (by rw [hml]; rfl) (Steps.refl _) (a := b36) (argsL := [(.ref b37)]) (rest := [(.ref b36)]) (lenOf pd_8 rfl) rfl (by show 2 * 0 + _ ≤ _; exact Nat.le_of_eq rfl) (hb hby d2_78) (fun _ _ => ⟨rfl, e43, (by decide : 2 + 1 ≤ _), (by decide : 7 + 3 ≤ _)⟩)
              dsimp only [Pt.U, Pt.locs, Pt.cells, Pt.slots] at X54 l54 y54 z54 st54 hQ54
              subst l54 y54 z54
              obtain ⟨rfl, N54q, K54, A54c, Fc54, t54, kb54, -, -, -, Fv54, Vt54⟩ := hQ54
              have N54 := Fr.app N43 N54q
              have cq54 := CHr.keep K54 (sfS sf43_b36 sf0) CH43.1
              have CH54 := CH43.trans cq54
              have sf54_b36 := cq54.safe ((((A36.ext E37).wr W39).wr W41).wr W43).lt sf43_b36
              have sf54_b37 := cq54.safe V43.lt sf43_b37
              have Kc54 : Keep h0 T54.heap [] := Kc43.trans K54 (allS (Or.inr sz_b36) all0)
              have Oc54 := Oc43.keep K54 (allS g_b36 all0)
              obtain ⟨fs, hr, hrun, hended, hend⟩ := Stand.leaveW (s := s) (vm₁ := s.vm) X54 hS0 (Nat.le_trans (Nat.le_trans (Nat.le_trans (Nat.le_trans (Nat.le_trans (Nat.le_trans (Nat.zero_le _) E36.1) E37.1) (Keep.of_wr W39).1) (Keep.of_wr W41).1) (Keep.of_wr W43).1) K54.1) (v := some (.ref b36)) (fun h => by rw [Bd.returns] at h; cases h)
              have hCfin : CHr Z EL0 s.vm s.heap (T54.setFrames fs).vm (T54.setFrames fs).heap := by
                show CHr Z EL0 s.vm s.heap T54.vm T54.heap
                rw [hh]
                exact CH54.trans (CHv.at X54 hZ hEL CH54.1)
              refine ⟨_, _, pre44 _ ?_, hrun, hended, _, _, rfl, ?_, hCfin, hend.1, hend.2.1, hend.2.2.1, hend.2.2.2.mono (by decide) (by decide)⟩
              · show Steps p.tables e below (T43.setTop (mkF m 78 #[.val (.int p1), .val (.int p2), .val (.int p3), .val (.int pn)] [(.ref b37), (.ref b36), (.ref b36)])) _
                refine st54.trans ?_
                show Steps p.tables e below (T54.setTop (mkF m 81 #[.val (.int p1), .val (.int p2), .val (.int p3), .val (.int pn)] [(.ref b36)])) _
                exact retOut X54 hx Bd.returns rfl (Or.inr (Or.inr (Or.inr (Or.inr ⟨rfl, rfl, rfl⟩)))) (hb hby d2_81) hr
              · show Q2 Z p1 p2 p3 pn zc h0 n0 _ T54.heap _
                refine ⟨_, rfl, N54, g_b36, sz_b36, Kc54, ?_⟩
                rw [show csF pn p1 p2 p3 = [p1, p2, p3] from by unfold csF; rw [if_neg hc1_2, if_neg hc17_8, if_neg hc37_20]]
                exact ⟨t54, kb54, _, _, _, A54c, Fv54, Fc54, Vt54, (StrChars.Road.codOf (n := 3) rfl (fun c hc => (hp c hc).2))⟩
theorem d22_0 : decode jdk_41_method_11_code 0 = .ok (.iload_n 0, 1) := by decide +kernel
theorem d22_1 : decode jdk_41_method_11_code 1 = .ok (.ifCond .lt 8, 3) := by decide +kernel
theorem d22_4 : decode jdk_41_method_11_code 4 = .ok (.iload_n 0, 1) := by decide +kernel
theorem d22_5 : decode jdk_41_method_11_code 5 = .ok (.iload_n 1, 1) := by decide +kernel
theorem d22_6 : decode jdk_41_method_11_code 6 = .ok (.if_icmp .lt 10, 3) := by decide +kernel
theorem d22_16 : decode jdk_41_method_11_code 16 = .ok (.iload_n 0, 1) := by decide +kernel
theorem d22_17 : decode jdk_41_method_11_code 17 = .ok (.ireturn, 1) := by decide +kernel
theorem pn_3 : plainName "jdk/internal/util/Preconditions" = true := by first | (simp [plainName, overriddenIn]; done) | decide +kernel
theorem ef_rm22r (m : MethodId) (x0 : Int32) (x1 : Int32) (x2 : Addr) : entryFrame m #[(.int x0), (.int x1), (.ref x2)] 3 = mkF m 0 #[.val (.int x0), .val (.int x1), .val (.ref x2)] [] := by first | (simp [entryFrame, mkF, argsToLocals, Value.category]; done) | rfl
def Q22r (Z : State) (pi : Int32) (pl : Int32) (fm : Addr) (h0 : Heap) (n0 : Nat) (v : Option Value) (h : Heap) (L : List Loc) : Prop := v = some (.int pi) ∧ Fr n0 L ∧ h = h0
set_option maxRecDepth 65536 in
set_option maxHeartbeats 40000000 in
theorem rm22r (l : Launch) (Z : State) (a0 : Array Value) (hw : ∀ d ∈ tables_1, d.before a0 Z = true) (ws : List Jvm.Cond) (pi : Int32) (pl : Int32) (fm : Addr) (h0 : Heap) (n0 : Nat) (Z0 : n0 ≤ h0.size) (q0 : ¬ pi < 0) (q1 : pi < pl) :
    MetFree l (⟨"jdk/internal/util/Preconditions", "checkIndex", "(IILjava/util/function/BiFunction;)I"⟩ : MethodName) (head1 (Jvm.Cond.code (⟨"jdk/internal/util/Preconditions", "checkIndex", "(IILjava/util/function/BiFunction;)I"⟩ : MethodName) jdk_41_method_11_code 3 (some .int) :: ws) ({ frames := 0, cells := 0, slots := 0, locals := 0 } : Room)) (fun a U => a = #[(.int pi), (.int pl), (.ref fm)] ∧ Z.Warmed39 U.vm ∧ U.heap = h0) (fun _ _ _ _ _ => True) (fun _ U o U' => ∃ v L, o = .returned v ∧ Q22r Z pi pl fm h0 n0 v U'.heap L ∧ FrameEnd U o U' L ({ frames := 0, cells := 0, slots := 0, locals := 0 } : Room).cells ({ frames := 0, cells := 0, slots := 0, locals := 0 } : Room).slots) := by
  refine MetFree.of_bodySF (plainFor_of_name pn_3) hisR ?_
  intro p e s m args below meth c s₁ Bd hml0 hP hK
  obtain ⟨rfl, hZ, hh⟩ := hP
  have hx := Bd.exec
  have hby := Bd.bytes
  have hml : c.maxLocals = 3 := hml0
  have hown : s.vm.findClass "jdk/internal/util/Preconditions" = some m.cls := findClass_of_methodNamed Bd.named
  have hnm := (name_of_methodNamed Bd.named Bd.method).1
  have X0 : Stand p l e ({ frames := 0, cells := 0, slots := 0, locals := 0 } : Room) s m #[(.int pi), (.int pl), (.ref fm)] below meth c s₁ [] 0 0 := Stand.of_body Bd
  have e0 : s₁.heap = h0 := by rw [← hh, Bd.state]; rfl
  have N0 := Fr.nil n0
  have pre0 : ∀ t, Steps p.tables e below (s₁.setTop (mkF m 0 #[.val (.int pi), .val (.int pl), .val (.ref fm)] [])) t → Steps p.tables e below (s₁.setTop (entryFrame m #[(.int pi), (.int pl), (.ref fm)] 3)) t := fun t k => castTop (ef_rm22r m pi pl fm) k
  obtain ⟨fs, hr, hrun, hended, hW, hsame⟩ := X0.leave (v := some (.int pi)) (fun h => by rw [Bd.returns] at h; cases h)
  refine ⟨_, _, pre0 _ ?_, hrun, hended, _, _, rfl, ?_, ⟨_, rfl⟩, hW, hsame.mono (by decide) (by decide)⟩
  · show Steps p.tables e below (s₁.setTop (mkF m 0 #[.val (.int pi), .val (.int pl), .val (.ref fm)] [])) _
    refine XS.iloadN X0.here hx rfl (hb hby d22_0) rfl ?_
    show Steps p.tables e below (s₁.setTop (mkF m 1 #[.val (.int pi), .val (.int pl), .val (.ref fm)] [(.int pi)])) _
    refine XS.ifNo X0.here hx rfl (hb hby d22_1) rfl ((if0 _ _).trans (flt q0).1) ?_
    show Steps p.tables e below (s₁.setTop (mkF m 4 #[.val (.int pi), .val (.int pl), .val (.ref fm)] [])) _
    refine XS.iloadN X0.here hx rfl (hb hby d22_4) rfl ?_
    show Steps p.tables e below (s₁.setTop (mkF m 5 #[.val (.int pi), .val (.int pl), .val (.ref fm)] [(.int pi)])) _
    refine XS.iloadN X0.here hx rfl (hb hby d22_5) rfl ?_
    show Steps p.tables e below (s₁.setTop (mkF m 6 #[.val (.int pi), .val (.int pl), .val (.ref fm)] [(.int pl), (.int pi)])) _
    refine XS.icmpYes X0.here hx rfl (pc0 := 6) (pc' := 16) rfl (hb hby d22_6) rfl (tlt q1).1 (by decide) (by decide) ?_
    show Steps p.tables e below (s₁.setTop (mkF m 16 #[.val (.int pi), .val (.int pl), .val (.ref fm)] [])) _
    refine XS.iloadN X0.here hx rfl (hb hby d22_16) rfl ?_
    show Steps p.tables e below (s₁.setTop (mkF m 17 #[.val (.int pi), .val (.int pl), .val (.ref fm)] [(.int pi)])) _
    exact retI X0 hx Bd.returns (hb hby d22_17) hr
  · show Q22r Z pi pl fm h0 n0 _ s₁.heap _
    rw [e0]
    exact ⟨rfl, N0, rfl⟩
theorem ef_rm22n (m : MethodId) (x0 : Int32) (x1 : Int32) : entryFrame m #[(.int x0), (.int x1), .null] 3 = mkF m 0 #[.val (.int x0), .val (.int x1), .val .null] [] := by first | (simp [entryFrame, mkF, argsToLocals, Value.category]; done) | rfl
def Q22n (Z : State) (pi : Int32) (pl : Int32) (h0 : Heap) (n0 : Nat) (v : Option Value) (h : Heap) (L : List Loc) : Prop := v = some (.int pi) ∧ Fr n0 L ∧ h = h0
set_option maxRecDepth 65536 in
set_option maxHeartbeats 40000000 in
theorem rm22n (l : Launch) (Z : State) (a0 : Array Value) (hw : ∀ d ∈ tables_1, d.before a0 Z = true) (ws : List Jvm.Cond) (pi : Int32) (pl : Int32) (h0 : Heap) (n0 : Nat) (Z0 : n0 ≤ h0.size) (q0 : ¬ pi < 0) (q1 : pi < pl) :
    MetFree l (⟨"jdk/internal/util/Preconditions", "checkIndex", "(IILjava/util/function/BiFunction;)I"⟩ : MethodName) (head1 (Jvm.Cond.code (⟨"jdk/internal/util/Preconditions", "checkIndex", "(IILjava/util/function/BiFunction;)I"⟩ : MethodName) jdk_41_method_11_code 3 (some .int) :: ws) ({ frames := 0, cells := 0, slots := 0, locals := 0 } : Room)) (fun a U => a = #[(.int pi), (.int pl), .null] ∧ Z.Warmed39 U.vm ∧ U.heap = h0) (fun _ _ _ _ _ => True) (fun _ U o U' => ∃ v L, o = .returned v ∧ Q22n Z pi pl h0 n0 v U'.heap L ∧ FrameEnd U o U' L ({ frames := 0, cells := 0, slots := 0, locals := 0 } : Room).cells ({ frames := 0, cells := 0, slots := 0, locals := 0 } : Room).slots) := by
  refine MetFree.of_bodySF (plainFor_of_name pn_3) hisR ?_
  intro p e s m args below meth c s₁ Bd hml0 hP hK
  obtain ⟨rfl, hZ, hh⟩ := hP
  have hx := Bd.exec
  have hby := Bd.bytes
  have hml : c.maxLocals = 3 := hml0
  have hown : s.vm.findClass "jdk/internal/util/Preconditions" = some m.cls := findClass_of_methodNamed Bd.named
  have hnm := (name_of_methodNamed Bd.named Bd.method).1
  have X0 : Stand p l e ({ frames := 0, cells := 0, slots := 0, locals := 0 } : Room) s m #[(.int pi), (.int pl), .null] below meth c s₁ [] 0 0 := Stand.of_body Bd
  have e0 : s₁.heap = h0 := by rw [← hh, Bd.state]; rfl
  have N0 := Fr.nil n0
  have pre0 : ∀ t, Steps p.tables e below (s₁.setTop (mkF m 0 #[.val (.int pi), .val (.int pl), .val .null] [])) t → Steps p.tables e below (s₁.setTop (entryFrame m #[(.int pi), (.int pl), .null] 3)) t := fun t k => castTop (ef_rm22n m pi pl) k
  obtain ⟨fs, hr, hrun, hended, hW, hsame⟩ := X0.leave (v := some (.int pi)) (fun h => by rw [Bd.returns] at h; cases h)
  refine ⟨_, _, pre0 _ ?_, hrun, hended, _, _, rfl, ?_, ⟨_, rfl⟩, hW, hsame.mono (by decide) (by decide)⟩
  · show Steps p.tables e below (s₁.setTop (mkF m 0 #[.val (.int pi), .val (.int pl), .val .null] [])) _
    refine XS.iloadN X0.here hx rfl (hb hby d22_0) rfl ?_
    show Steps p.tables e below (s₁.setTop (mkF m 1 #[.val (.int pi), .val (.int pl), .val .null] [(.int pi)])) _
    refine XS.ifNo X0.here hx rfl (hb hby d22_1) rfl ((if0 _ _).trans (flt q0).1) ?_
    show Steps p.tables e below (s₁.setTop (mkF m 4 #[.val (.int pi), .val (.int pl), .val .null] [])) _
    refine XS.iloadN X0.here hx rfl (hb hby d22_4) rfl ?_
    show Steps p.tables e below (s₁.setTop (mkF m 5 #[.val (.int pi), .val (.int pl), .val .null] [(.int pi)])) _
    refine XS.iloadN X0.here hx rfl (hb hby d22_5) rfl ?_
    show Steps p.tables e below (s₁.setTop (mkF m 6 #[.val (.int pi), .val (.int pl), .val .null] [(.int pl), (.int pi)])) _
    refine XS.icmpYes X0.here hx rfl (pc0 := 6) (pc' := 16) rfl (hb hby d22_6) rfl (tlt q1).1 (by decide) (by decide) ?_
    show Steps p.tables e below (s₁.setTop (mkF m 16 #[.val (.int pi), .val (.int pl), .val .null] [])) _
    refine XS.iloadN X0.here hx rfl (hb hby d22_16) rfl ?_
    show Steps p.tables e below (s₁.setTop (mkF m 17 #[.val (.int pi), .val (.int pl), .val .null] [(.int pi)])) _
    exact retI X0 hx Bd.returns (hb hby d22_17) hr
  · show Q22n Z pi pl h0 n0 _ s₁.heap _
    rw [e0]
    exact ⟨rfl, N0, rfl⟩
theorem d21_0 : decode jdk_42_method_155_code 0 = .ok (.iload_n 0, 1) := by decide +kernel
theorem d21_1 : decode jdk_42_method_155_code 1 = .ok (.iload_n 1, 1) := by decide +kernel
theorem d21_2 : decode jdk_42_method_155_code 2 = .ok (.getstatic 1053, 3) := by decide +kernel
theorem d21_5 : decode jdk_42_method_155_code 5 = .ok (.invokestatic 1059, 3) := by decide +kernel
theorem pd_9 : parseMethodDescriptor "(IILjava/util/function/BiFunction;)I" = some ⟨[.int, .int, (.object "java/util/function/BiFunction")], some .int⟩ := by decide +kernel
theorem d21_8 : decode jdk_42_method_155_code 8 = .ok (.pop, 1) := by decide +kernel
theorem d21_9 : decode jdk_42_method_155_code 9 = .ok (.return_, 1) := by decide +kernel
theorem ef_rm21r (m : MethodId) (x0 : Int32) (x1 : Int32) : entryFrame m #[(.int x0), (.int x1)] 2 = mkF m 0 #[.val (.int x0), .val (.int x1)] [] := by first | (simp [entryFrame, mkF, argsToLocals, Value.category]; done) | rfl
def Q21r (Z : State) (pi : Int32) (pl : Int32) (fa : Addr) (h0 : Heap) (n0 : Nat) (v : Option Value) (h : Heap) (L : List Loc) : Prop := v = none ∧ Fr n0 L ∧ h = h0
set_option maxRecDepth 65536 in
set_option maxHeartbeats 40000000 in
theorem rm21r (l : Launch) (Z : State) (a0 : Array Value) (hw : ∀ d ∈ tables_1, d.before a0 Z = true) (ws : List Jvm.Cond) (pi : Int32) (pl : Int32) (fa : Addr) (h0 : Heap) (n0 : Nat) (Z0 : n0 ≤ h0.size) (S_f : Sta Z h0 "jdk/internal/util/Preconditions" "SIOOBE_FORMATTER" "Ljava/util/function/BiFunction;" (.ref fa)) (q0 : ¬ pi < 0) (q1 : pi < pl) :
    MetFree l (⟨"java/lang/String", "checkIndex", "(II)V"⟩ : MethodName) (head1 (Jvm.Cond.code (⟨"java/lang/String", "checkIndex", "(II)V"⟩ : MethodName) jdk_42_method_155_code 2 none :: ws) ({ frames := 1, cells := 0, slots := 0, locals := 14 } : Room)) (fun a U => a = #[(.int pi), (.int pl)] ∧ Z.Warmed39 U.vm ∧ U.heap = h0) (fun _ _ _ _ _ => True) (fun _ U o U' => ∃ v L, o = .returned v ∧ Q21r Z pi pl fa h0 n0 v U'.heap L ∧ FrameEnd U o U' L ({ frames := 1, cells := 0, slots := 0, locals := 14 } : Room).cells ({ frames := 1, cells := 0, slots := 0, locals := 14 } : Room).slots) := by
  refine MetFree.of_bodySF (plainFor_of_name pn_1) hisR ?_
  intro p e s m args below meth c s₁ Bd hml0 hP hK
  obtain ⟨rfl, hZ, hh⟩ := hP
  have hx := Bd.exec
  have hby := Bd.bytes
  have hml : c.maxLocals = 2 := hml0
  have hown : s.vm.findClass "java/lang/String" = some m.cls := findClass_of_methodNamed Bd.named
  have hnm := (name_of_methodNamed Bd.named Bd.method).1
  have X0 : Stand p l e ({ frames := 1, cells := 0, slots := 0, locals := 14 } : Room) s m #[(.int pi), (.int pl)] below meth c s₁ [] 0 0 := Stand.of_body Bd
  have e0 : s₁.heap = h0 := by rw [← hh, Bd.state]; rfl
  have N0 := Fr.nil n0
  have pre0 : ∀ t, Steps p.tables e below (s₁.setTop (mkF m 0 #[.val (.int pi), .val (.int pl)] [])) t → Steps p.tables e below (s₁.setTop (entryFrame m #[(.int pi), (.int pl)] 2)) t := fun t k => castTop (ef_rm21r m pi pl) k
  obtain ⟨T1, X1, e1, st1⟩ := getS2 X0 hx hZ hown (host := "") (Or.inl (hw _ (List.mem_of_getElem? (i := 105) rfl))) Via.refl e0 S_f (g := (mkF m 2 #[.val (.int pi), .val (.int pl)] [(.int pl), (.int pi)])) rfl (hb hby d21_2)
  obtain ⟨_, _, ⟨T2, L2, k2, n2⟩, -, X2, ⟨Lc2, hQ2, l2, y2, z2⟩, st2⟩ := Jvm.LawKit.callS X1 hx (y := (⟨"jdk/internal/util/Preconditions", "checkIndex", "(IILjava/util/function/BiFunction;)I"⟩ : MethodName)) hown (mvT hZ (hw _ (List.mem_of_getElem? (i := 107) rfl))) (mvT hZ (hw _ (List.mem_of_getElem? (i := 108) rfl))) (mvT hZ (hw _ (List.mem_of_getElem? (i := 106) rfl))) (mvT hZ (hw _ (List.mem_of_getElem? (i := 109) rfl))) (by decide) (backOf (W := 0) (rm22r l Z a0 hw [] pi pl fa h0 n0 Z0 q0 q1) hZ (hw _ (List.mem_of_getElem? (i := 109) rfl)) (hw _ (List.mem_of_getElem? (i := 106) rfl)) (by decide) (by decide)) (g := (mkF m 5 #[.val (.int pi), .val (.int pl)] [(.ref fa), (.int pl), (.int pi)])) rfl (by rw [hml]; rfl) (argsL := [(.int pi), (.int pl), (.ref fa)]) (rest := []) (lenOf pd_9 rfl) rfl (by show 2 * 0 + _ ≤ _; exact Nat.le_of_eq rfl) (hb hby d21_5) (fun _ _ => ⟨rfl, e1, (by decide : 0 + 0 ≤ _), (by decide : 0 + 0 ≤ _)⟩)
  dsimp only [Pt.U, Pt.locs, Pt.cells, Pt.slots] at X2 l2 y2 z2 st2 hQ2
  subst l2 y2 z2
  obtain ⟨rfl, N2q, e2⟩ := hQ2
  have N2 := Fr.app N0 N2q
  obtain ⟨fs, hr, hrun, hended, hW, hsame⟩ := X2.leave (v := none) (fun _ => rfl)
  refine ⟨_, _, pre0 _ ?_, hrun, hended, _, _, rfl, ?_, ⟨_, rfl⟩, hW, hsame.mono (by decide) (by decide)⟩
  · show Steps p.tables e below (s₁.setTop (mkF m 0 #[.val (.int pi), .val (.int pl)] [])) _
    refine XS.iloadN X0.here hx rfl (hb hby d21_0) rfl ?_
    show Steps p.tables e below (s₁.setTop (mkF m 1 #[.val (.int pi), .val (.int pl)] [(.int pi)])) _
    refine XS.iloadN X0.here hx rfl (hb hby d21_1) rfl ?_
    show Steps p.tables e below (s₁.setTop (mkF m 2 #[.val (.int pi), .val (.int pl)] [(.int pl), (.int pi)])) _
    refine st1 _ ?_
    show Steps p.tables e below (T1.setTop (mkF m 5 #[.val (.int pi), .val (.int pl)] [(.ref fa), (.int pl), (.int pi)])) _
    refine st2 _ ?_
    show Steps p.tables e below (T2.setTop (mkF m 8 #[.val (.int pi), .val (.int pl)] [(.int pi)])) _
    refine XS.pop X2.here hx rfl (hb hby d21_8) rfl rfl ?_
    show Steps p.tables e below (T2.setTop (mkF m 9 #[.val (.int pi), .val (.int pl)] [])) _
    exact X2.returnOut hx Bd.returns (hb hby d21_9) hr
  · show Q21r Z pi pl fa h0 n0 _ T2.heap _
    rw [e2]
    exact ⟨rfl, N2, rfl⟩
theorem ef_rm21n (m : MethodId) (x0 : Int32) (x1 : Int32) : entryFrame m #[(.int x0), (.int x1)] 2 = mkF m 0 #[.val (.int x0), .val (.int x1)] [] := by first | (simp [entryFrame, mkF, argsToLocals, Value.category]; done) | rfl
def Q21n (Z : State) (pi : Int32) (pl : Int32) (h0 : Heap) (n0 : Nat) (v : Option Value) (h : Heap) (L : List Loc) : Prop := v = none ∧ Fr n0 L ∧ h = h0
set_option maxRecDepth 65536 in
set_option maxHeartbeats 40000000 in
theorem rm21n (l : Launch) (Z : State) (a0 : Array Value) (hw : ∀ d ∈ tables_1, d.before a0 Z = true) (ws : List Jvm.Cond) (pi : Int32) (pl : Int32) (h0 : Heap) (n0 : Nat) (Z0 : n0 ≤ h0.size) (S_f : Sta Z h0 "jdk/internal/util/Preconditions" "SIOOBE_FORMATTER" "Ljava/util/function/BiFunction;" .null) (q0 : ¬ pi < 0) (q1 : pi < pl) :
    MetFree l (⟨"java/lang/String", "checkIndex", "(II)V"⟩ : MethodName) (head1 (Jvm.Cond.code (⟨"java/lang/String", "checkIndex", "(II)V"⟩ : MethodName) jdk_42_method_155_code 2 none :: ws) ({ frames := 1, cells := 0, slots := 0, locals := 14 } : Room)) (fun a U => a = #[(.int pi), (.int pl)] ∧ Z.Warmed39 U.vm ∧ U.heap = h0) (fun _ _ _ _ _ => True) (fun _ U o U' => ∃ v L, o = .returned v ∧ Q21n Z pi pl h0 n0 v U'.heap L ∧ FrameEnd U o U' L ({ frames := 1, cells := 0, slots := 0, locals := 14 } : Room).cells ({ frames := 1, cells := 0, slots := 0, locals := 14 } : Room).slots) := by
  refine MetFree.of_bodySF (plainFor_of_name pn_1) hisR ?_
  intro p e s m args below meth c s₁ Bd hml0 hP hK
  obtain ⟨rfl, hZ, hh⟩ := hP
  have hx := Bd.exec
  have hby := Bd.bytes
  have hml : c.maxLocals = 2 := hml0
  have hown : s.vm.findClass "java/lang/String" = some m.cls := findClass_of_methodNamed Bd.named
  have hnm := (name_of_methodNamed Bd.named Bd.method).1
  have X0 : Stand p l e ({ frames := 1, cells := 0, slots := 0, locals := 14 } : Room) s m #[(.int pi), (.int pl)] below meth c s₁ [] 0 0 := Stand.of_body Bd
  have e0 : s₁.heap = h0 := by rw [← hh, Bd.state]; rfl
  have N0 := Fr.nil n0
  have pre0 : ∀ t, Steps p.tables e below (s₁.setTop (mkF m 0 #[.val (.int pi), .val (.int pl)] [])) t → Steps p.tables e below (s₁.setTop (entryFrame m #[(.int pi), (.int pl)] 2)) t := fun t k => castTop (ef_rm21n m pi pl) k
  obtain ⟨T1, X1, e1, st1⟩ := getS2 X0 hx hZ hown (host := "") (Or.inl (hw _ (List.mem_of_getElem? (i := 105) rfl))) Via.refl e0 S_f (g := (mkF m 2 #[.val (.int pi), .val (.int pl)] [(.int pl), (.int pi)])) rfl (hb hby d21_2)
  obtain ⟨_, _, ⟨T2, L2, k2, n2⟩, -, X2, ⟨Lc2, hQ2, l2, y2, z2⟩, st2⟩ := Jvm.LawKit.callS X1 hx (y := (⟨"jdk/internal/util/Preconditions", "checkIndex", "(IILjava/util/function/BiFunction;)I"⟩ : MethodName)) hown (mvT hZ (hw _ (List.mem_of_getElem? (i := 107) rfl))) (mvT hZ (hw _ (List.mem_of_getElem? (i := 108) rfl))) (mvT hZ (hw _ (List.mem_of_getElem? (i := 106) rfl))) (mvT hZ (hw _ (List.mem_of_getElem? (i := 109) rfl))) (by decide) (backOf (W := 0) (rm22n l Z a0 hw [] pi pl h0 n0 Z0 q0 q1) hZ (hw _ (List.mem_of_getElem? (i := 109) rfl)) (hw _ (List.mem_of_getElem? (i := 106) rfl)) (by decide) (by decide)) (g := (mkF m 5 #[.val (.int pi), .val (.int pl)] [.null, (.int pl), (.int pi)])) rfl (by rw [hml]; rfl) (argsL := [(.int pi), (.int pl), .null]) (rest := []) (lenOf pd_9 rfl) rfl (by show 2 * 0 + _ ≤ _; exact Nat.le_of_eq rfl) (hb hby d21_5) (fun _ _ => ⟨rfl, e1, (by decide : 0 + 0 ≤ _), (by decide : 0 + 0 ≤ _)⟩)
  dsimp only [Pt.U, Pt.locs, Pt.cells, Pt.slots] at X2 l2 y2 z2 st2 hQ2
  subst l2 y2 z2
  obtain ⟨rfl, N2q, e2⟩ := hQ2
  have N2 := Fr.app N0 N2q
  obtain ⟨fs, hr, hrun, hended, hW, hsame⟩ := X2.leave (v := none) (fun _ => rfl)
  refine ⟨_, _, pre0 _ ?_, hrun, hended, _, _, rfl, ?_, ⟨_, rfl⟩, hW, hsame.mono (by decide) (by decide)⟩
  · show Steps p.tables e below (s₁.setTop (mkF m 0 #[.val (.int pi), .val (.int pl)] [])) _
    refine XS.iloadN X0.here hx rfl (hb hby d21_0) rfl ?_
    show Steps p.tables e below (s₁.setTop (mkF m 1 #[.val (.int pi), .val (.int pl)] [(.int pi)])) _
    refine XS.iloadN X0.here hx rfl (hb hby d21_1) rfl ?_
    show Steps p.tables e below (s₁.setTop (mkF m 2 #[.val (.int pi), .val (.int pl)] [(.int pl), (.int pi)])) _
    refine st1 _ ?_
    show Steps p.tables e below (T1.setTop (mkF m 5 #[.val (.int pi), .val (.int pl)] [.null, (.int pl), (.int pi)])) _
    refine st2 _ ?_
    show Steps p.tables e below (T2.setTop (mkF m 8 #[.val (.int pi), .val (.int pl)] [(.int pi)])) _
    refine XS.pop X2.here hx rfl (hb hby d21_8) rfl rfl ?_
    show Steps p.tables e below (T2.setTop (mkF m 9 #[.val (.int pi), .val (.int pl)] [])) _
    exact X2.returnOut hx Bd.returns (hb hby d21_9) hr
  · show Q21n Z pi pl h0 n0 _ T2.heap _
    rw [e2]
    exact ⟨rfl, N2, rfl⟩
def Q21 (Z : State) (pi pl : Int32) (fm : Value) (h0 : Heap) (n0 : Nat) (v : Option Value) (h : Heap) (L : List Loc) : Prop := v = none ∧ Fr n0 L ∧ h = h0
theorem rm21 (l : Launch) (Z : State) (a0 : Array Value) (hw : ∀ d ∈ tables_1, d.before a0 Z = true) (ws : List Jvm.Cond) (pi pl : Int32) (fm : Value) (h0 : Heap) (n0 : Nat) (Z0 : n0 ≤ h0.size) (S_f : Sta Z h0 "jdk/internal/util/Preconditions" "SIOOBE_FORMATTER" "Ljava/util/function/BiFunction;" fm) (rfm : fm.isRef = true) (q0 : ¬ pi < 0) (q1 : pi < pl) :
    MetFree l (⟨"java/lang/String", "checkIndex", "(II)V"⟩ : MethodName) (head1 (Jvm.Cond.code (⟨"java/lang/String", "checkIndex", "(II)V"⟩ : MethodName) jdk_42_method_155_code 2 none :: ws) ({ frames := 1, cells := 0, slots := 0, locals := 14 } : Room)) (fun a U => a = #[(.int pi), (.int pl)] ∧ Z.Warmed39 U.vm ∧ U.heap = h0) (fun _ _ _ _ _ => True) (fun _ U o U' => ∃ v L, o = .returned v ∧ Q21 Z pi pl fm h0 n0 v U'.heap L ∧ FrameEnd U o U' L ({ frames := 1, cells := 0, slots := 0, locals := 14 } : Room).cells ({ frames := 1, cells := 0, slots := 0, locals := 14 } : Room).slots) := by
  rcases ref_cases rfm with rfl | ⟨fa, rfl⟩
  · exact rm21n l Z a0 hw ws pi pl h0 n0 Z0 S_f q0 q1
  · exact rm21r l Z a0 hw ws pi pl fa h0 n0 Z0 S_f q0 q1
theorem d31_0 : decode jdk_52_method_91_code 0 = .ok (.iload_n 0, 1) := by decide +kernel
theorem d31_1 : decode jdk_52_method_91_code 1 = .ok (.aload_n 1, 1) := by decide +kernel
theorem d31_2 : decode jdk_52_method_91_code 2 = .ok (.invokestatic 48, 3) := by decide +kernel
theorem pd_10 : parseMethodDescriptor "([B)I" = some ⟨[(.array .byte)], some .int⟩ := by decide +kernel
theorem d31_5 : decode jdk_52_method_91_code 5 = .ok (.invokestatic 414, 3) := by decide +kernel
theorem pd_11 : parseMethodDescriptor "(II)V" = some ⟨[.int, .int], none⟩ := by decide +kernel
theorem d31_8 : decode jdk_52_method_91_code 8 = .ok (.return_, 1) := by decide +kernel
theorem ef_rm31 (m : MethodId) (x0 : Int32) (x1 : Addr) : entryFrame m #[(.int x0), (.ref x1)] 2 = mkF m 0 #[.val (.int x0), .val (.ref x1)] [] := by first | (simp [entryFrame, mkF, argsToLocals, Value.category]; done) | rfl
def Q31 (Z : State) (pi : Int32) (ar : Addr) (len : Int32) (kb : ClassId) (z : Int32) (g : Nat → Int32) (fm : Value) (h0 : Heap) (n0 : Nat) (v : Option Value) (h : Heap) (L : List Loc) : Prop := v = none ∧ Fr n0 L ∧ h = h0
set_option maxRecDepth 65536 in
set_option maxHeartbeats 40000000 in
theorem rm31 (l : Launch) (Z : State) (a0 : Array Value) (hw : ∀ d ∈ tables_1, d.before a0 Z = true) (ws : List Jvm.Cond) (pi : Int32) (ar : Addr) (len : Int32) (kb : ClassId) (z : Int32) (g : Nat → Int32) (fm : Value) (h0 : Heap) (n0 : Nat) (Z0 : n0 ≤ h0.size) (V0 : PA Z h0 ar kb .byte z g) (hz : z.toInt = 2 * len.toInt) (S_f : Sta Z h0 "jdk/internal/util/Preconditions" "SIOOBE_FORMATTER" "Ljava/util/function/BiFunction;" fm) (rfm : fm.isRef = true) (q0 : ¬ pi < 0) (q1 : pi < len) :
    MetFree l (⟨"java/lang/StringUTF16", "checkIndex", "(I[B)V"⟩ : MethodName) (head1 (Jvm.Cond.code (⟨"java/lang/StringUTF16", "checkIndex", "(I[B)V"⟩ : MethodName) jdk_52_method_91_code 2 none :: ws) ({ frames := 2, cells := 0, slots := 0, locals := 27 } : Room)) (fun a U => a = #[(.int pi), (.ref ar)] ∧ Z.Warmed39 U.vm ∧ U.heap = h0) (fun _ _ _ _ _ => True) (fun _ U o U' => ∃ v L, o = .returned v ∧ Q31 Z pi ar len kb z g fm h0 n0 v U'.heap L ∧ FrameEnd U o U' L ({ frames := 2, cells := 0, slots := 0, locals := 27 } : Room).cells ({ frames := 2, cells := 0, slots := 0, locals := 27 } : Room).slots) := by
  refine MetFree.of_bodySF (plainFor_of_name pn_0) hisR ?_
  intro p e s m args below meth c s₁ Bd hml0 hP hK
  obtain ⟨rfl, hZ, hh⟩ := hP
  have hx := Bd.exec
  have hby := Bd.bytes
  have hml : c.maxLocals = 2 := hml0
  have hown : s.vm.findClass "java/lang/StringUTF16" = some m.cls := findClass_of_methodNamed Bd.named
  have hnm := (name_of_methodNamed Bd.named Bd.method).1
  have X0 : Stand p l e ({ frames := 2, cells := 0, slots := 0, locals := 27 } : Room) s m #[(.int pi), (.ref ar)] below meth c s₁ [] 0 0 := Stand.of_body Bd
  have e0 : s₁.heap = h0 := by rw [← hh, Bd.state]; rfl
  have N0 := Fr.nil n0
  have pre0 : ∀ t, Steps p.tables e below (s₁.setTop (mkF m 0 #[.val (.int pi), .val (.ref ar)] [])) t → Steps p.tables e below (s₁.setTop (entryFrame m #[(.int pi), (.ref ar)] 2)) t := fun t k => castTop (ef_rm31 m pi ar) k
  obtain ⟨_, _, ⟨T1, L1, k1, n1⟩, -, X1, ⟨Lc1, hQ1, l1, y1, z1⟩, st1⟩ := Jvm.LawKit.callS X0 hx (y := (⟨"java/lang/StringUTF16", "length", "([B)I"⟩ : MethodName)) hown (mvT hZ (hw _ (List.mem_of_getElem? (i := 145) rfl))) (mvT hZ (hw _ (List.mem_of_getElem? (i := 146) rfl))) (mvT hZ (hw _ (List.mem_of_getElem? (i := 81) rfl))) (mvT hZ (hw _ (List.mem_of_getElem? (i := 147) rfl))) (by decide) (backOf (W := 1) (rm32 l Z a0 hw [] ar len kb z g h0 n0 Z0 V0 hz) hZ (hw _ (List.mem_of_getElem? (i := 147) rfl)) (hw _ (List.mem_of_getElem? (i := 81) rfl)) (by decide) (by decide)) (g := (mkF m 2 #[.val (.int pi), .val (.ref ar)] [(.ref ar), (.int pi)])) rfl (by rw [hml]; rfl) (argsL := [(.ref ar)]) (rest := [(.int pi)]) (lenOf pd_10 rfl) rfl (by show 2 * 0 + _ ≤ _; exact Nat.le_of_eq rfl) (hb hby d31_2) (fun _ _ => ⟨rfl, e0, (by decide : 0 + 0 ≤ _), (by decide : 0 + 0 ≤ _)⟩)
  dsimp only [Pt.U, Pt.locs, Pt.cells, Pt.slots] at X1 l1 y1 z1 st1 hQ1
  subst l1 y1 z1
  obtain ⟨rfl, N1q, e1⟩ := hQ1
  have N1 := Fr.app N0 N1q
  obtain ⟨_, _, ⟨T2, L2, k2, n2⟩, -, X2, ⟨Lc2, hQ2, l2, y2, z2⟩, st2⟩ := Jvm.LawKit.callS X1 hx (y := (⟨"java/lang/String", "checkIndex", "(II)V"⟩ : MethodName)) hown (mvT hZ (hw _ (List.mem_of_getElem? (i := 148) rfl))) (mvT hZ (hw _ (List.mem_of_getElem? (i := 103) rfl))) (mvT hZ (hw _ (List.mem_of_getElem? (i := 14) rfl))) (mvT hZ (hw _ (List.mem_of_getElem? (i := 104) rfl))) (by decide) (backOf (W := 0) (rm21 l Z a0 hw [] pi len fm h0 n0 Z0 S_f rfm q0 q1) hZ (hw _ (List.mem_of_getElem? (i := 104) rfl)) (hw _ (List.mem_of_getElem? (i := 14) rfl)) (by decide) (by decide)) (g := (mkF m 5 #[.val (.int pi), .val (.ref ar)] [(.int len), (.int pi)])) rfl (by rw [hml]; rfl) (argsL := [(.int pi), (.int len)]) (rest := []) (lenOf pd_11 rfl) rfl (by show 2 * 0 + _ ≤ _; exact Nat.le_of_eq rfl) (hb hby d31_5) (fun _ _ => ⟨rfl, e1, (by decide : 0 + 0 ≤ _), (by decide : 0 + 0 ≤ _)⟩)
  dsimp only [Pt.U, Pt.locs, Pt.cells, Pt.slots] at X2 l2 y2 z2 st2 hQ2
  subst l2 y2 z2
  obtain ⟨rfl, N2q, e2⟩ := hQ2
  have N2 := Fr.app N1 N2q
  obtain ⟨fs, hr, hrun, hended, hW, hsame⟩ := X2.leave (v := none) (fun _ => rfl)
  refine ⟨_, _, pre0 _ ?_, hrun, hended, _, _, rfl, ?_, ⟨_, rfl⟩, hW, hsame.mono (by decide) (by decide)⟩
  · show Steps p.tables e below (s₁.setTop (mkF m 0 #[.val (.int pi), .val (.ref ar)] [])) _
    refine XS.iloadN X0.here hx rfl (hb hby d31_0) rfl ?_
    show Steps p.tables e below (s₁.setTop (mkF m 1 #[.val (.int pi), .val (.ref ar)] [(.int pi)])) _
    refine XS.aloadN X0.here hx rfl (hb hby d31_1) rfl rfl ?_
    show Steps p.tables e below (s₁.setTop (mkF m 2 #[.val (.int pi), .val (.ref ar)] [(.ref ar), (.int pi)])) _
    refine st1 _ ?_
    show Steps p.tables e below (T1.setTop (mkF m 5 #[.val (.int pi), .val (.ref ar)] [(.int len), (.int pi)])) _
    refine st2 _ ?_
    show Steps p.tables e below (T2.setTop (mkF m 8 #[.val (.int pi), .val (.ref ar)] [])) _
    exact X2.returnOut hx Bd.returns (hb hby d31_8) hr
  · show Q31 Z pi ar len kb z g fm h0 n0 _ T2.heap _
    rw [e2]
    exact ⟨rfl, N2, rfl⟩
theorem d30_0 : decode jdk_52_method_83_code 0 = .ok (.iload_n 1, 1) := by decide +kernel
theorem d30_1 : decode jdk_52_method_83_code 1 = .ok (.aload_n 0, 1) := by decide +kernel
theorem d30_2 : decode jdk_52_method_83_code 2 = .ok (.invokestatic 67, 3) := by decide +kernel
theorem pd_12 : parseMethodDescriptor "(I[B)V" = some ⟨[.int, (.array .byte)], none⟩ := by decide +kernel
theorem d30_5 : decode jdk_52_method_83_code 5 = .ok (.aload_n 0, 1) := by decide +kernel
theorem d30_6 : decode jdk_52_method_83_code 6 = .ok (.iload_n 1, 1) := by decide +kernel
theorem d30_7 : decode jdk_52_method_83_code 7 = .ok (.invokestatic 71, 3) := by decide +kernel
theorem d30_10 : decode jdk_52_method_83_code 10 = .ok (.ireturn, 1) := by decide +kernel
theorem ef_rm30 (m : MethodId) (x0 : Addr) (x1 : Int32) : entryFrame m #[(.ref x0), (.int x1)] 2 = mkF m 0 #[.val (.ref x0), .val (.int x1)] [] := by first | (simp [entryFrame, mkF, argsToLocals, Value.category]; done) | rfl
def Q30 (Z : State) (ar : Addr) (pi : Int32) (len : Int32) (kb : ClassId) (z : Int32) (g : Nat → Int32) (fm : Value) (ch : Int32) (h0 : Heap) (n0 : Nat) (v : Option Value) (h : Heap) (L : List Loc) : Prop := v = some (.int ch) ∧ Fr n0 L ∧ h = h0
set_option maxRecDepth 65536 in
set_option maxHeartbeats 40000000 in
theorem rm30 (l : Launch) (Z : State) (a0 : Array Value) (hw : ∀ d ∈ tables_1, d.before a0 Z = true) (ws : List Jvm.Cond) (ar : Addr) (pi : Int32) (len : Int32) (kb : ClassId) (z : Int32) (g : Nat → Int32) (fm : Value) (ch : Int32) (h0 : Heap) (n0 : Nat) (Z0 : n0 ≤ h0.size) (V0 : PA Z h0 ar kb .byte z g) (hz : z.toInt = 2 * len.toInt) (S_f : Sta Z h0 "jdk/internal/util/Preconditions" "SIOOBE_FORMATTER" "Ljava/util/function/BiFunction;" fm) (rfm : fm.isRef = true) (S_ad : Sta Z h0 "java/lang/StringUTF16" "$assertionsDisabled" "Z" (.int (1 : Int32))) (S_hi : Sta Z h0 "java/lang/StringUTF16" "HI_BYTE_SHIFT" "I" (.int (0 : Int32))) (S_lo : Sta Z h0 "java/lang/StringUTF16" "LO_BYTE_SHIFT" "I" (.int (8 : Int32))) (q0 : ¬ pi < 0) (q1 : pi < len) (jb : len.toInt < 100000) (cha : ¬ ch < 0) (chb : ¬ (65535 : Int32) < ch) (hl : ∀ i : Nat, (i : Int) = 2 * pi.toInt → g i = (StrChars.lo8 ch)) (hh2 : ∀ i : Nat, (i : Int) = 2 * pi.toInt + 1 → g i = (StrChars.hi8 ch)) :
    MetFree l (⟨"java/lang/StringUTF16", "charAt", "([BI)C"⟩ : MethodName) (head1 (Jvm.Cond.code (⟨"java/lang/StringUTF16", "charAt", "([BI)C"⟩ : MethodName) jdk_52_method_83_code 2 (some .char) :: ws) ({ frames := 3, cells := 0, slots := 0, locals := 40 } : Room)) (fun a U => a = #[(.ref ar), (.int pi)] ∧ Z.Warmed39 U.vm ∧ U.heap = h0) (fun _ _ _ _ _ => True) (fun _ U o U' => ∃ v L, o = .returned v ∧ Q30 Z ar pi len kb z g fm ch h0 n0 v U'.heap L ∧ FrameEnd U o U' L ({ frames := 3, cells := 0, slots := 0, locals := 40 } : Room).cells ({ frames := 3, cells := 0, slots := 0, locals := 40 } : Room).slots) := by
  refine MetFree.of_bodySF (plainFor_of_name pn_0) hisR ?_
  intro p e s m args below meth c s₁ Bd hml0 hP hK
  obtain ⟨rfl, hZ, hh⟩ := hP
  have hx := Bd.exec
  have hby := Bd.bytes
  have hml : c.maxLocals = 2 := hml0
  have hown : s.vm.findClass "java/lang/StringUTF16" = some m.cls := findClass_of_methodNamed Bd.named
  have hnm := (name_of_methodNamed Bd.named Bd.method).1
  have X0 : Stand p l e ({ frames := 3, cells := 0, slots := 0, locals := 40 } : Room) s m #[(.ref ar), (.int pi)] below meth c s₁ [] 0 0 := Stand.of_body Bd
  have e0 : s₁.heap = h0 := by rw [← hh, Bd.state]; rfl
  have N0 := Fr.nil n0
  have pre0 : ∀ t, Steps p.tables e below (s₁.setTop (mkF m 0 #[.val (.ref ar), .val (.int pi)] [])) t → Steps p.tables e below (s₁.setTop (entryFrame m #[(.ref ar), (.int pi)] 2)) t := fun t k => castTop (ef_rm30 m ar pi) k
  have z0 : (0 : Int32).toInt = 0 := rfl
  have ia : 0 ≤ pi.toInt := by rw [Int32.lt_iff_toInt_lt, z0] at q0; omega
  have ib : pi.toInt < len.toInt := by rw [Int32.lt_iff_toInt_lt] at q1; exact q1
  obtain ⟨_, _, ⟨T1, L1, k1, n1⟩, -, X1, ⟨Lc1, hQ1, l1, y1, z1⟩, st1⟩ := Jvm.LawKit.callS X0 hx (y := (⟨"java/lang/StringUTF16", "checkIndex", "(I[B)V"⟩ : MethodName)) hown (mvT hZ (hw _ (List.mem_of_getElem? (i := 142) rfl))) (mvT hZ (hw _ (List.mem_of_getElem? (i := 143) rfl))) (mvT hZ (hw _ (List.mem_of_getElem? (i := 81) rfl))) (mvT hZ (hw _ (List.mem_of_getElem? (i := 144) rfl))) (by decide) (backOf (W := 0) (rm31 l Z a0 hw [] pi ar len kb z g fm h0 n0 Z0 V0 hz S_f rfm q0 q1) hZ (hw _ (List.mem_of_getElem? (i := 144) rfl)) (hw _ (List.mem_of_getElem? (i := 81) rfl)) (by decide) (by decide)) (g := (mkF m 2 #[.val (.ref ar), .val (.int pi)] [(.ref ar), (.int pi)])) rfl (by rw [hml]; rfl) (argsL := [(.int pi), (.ref ar)]) (rest := []) (lenOf pd_12 rfl) rfl (by show 2 * 0 + _ ≤ _; exact Nat.le_of_eq rfl) (hb hby d30_2) (fun _ _ => ⟨rfl, e0, (by decide : 0 + 0 ≤ _), (by decide : 0 + 0 ≤ _)⟩)
  dsimp only [Pt.U, Pt.locs, Pt.cells, Pt.slots] at X1 l1 y1 z1 st1 hQ1
  subst l1 y1 z1
  obtain ⟨rfl, N1q, e1⟩ := hQ1
  have N1 := Fr.app N0 N1q
  obtain ⟨_, _, ⟨T2, L2, k2, n2⟩, -, X2, ⟨Lc2, hQ2, l2, y2, z2⟩, st2⟩ := Jvm.LawKit.callS X1 hx (y := (⟨"java/lang/StringUTF16", "getChar", "([BI)C"⟩ : MethodName)) hown (mvT hZ (hw _ (List.mem_of_getElem? (i := 136) rfl))) (mvT hZ (hw _ (List.mem_of_getElem? (i := 137) rfl))) (mvT hZ (hw _ (List.mem_of_getElem? (i := 81) rfl))) (mvT hZ (hw _ (List.mem_of_getElem? (i := 138) rfl))) (by decide) (backOf (W := 0) (rm29 l Z a0 hw [] ar pi kb z g ch h0 n0 Z0 V0 S_ad S_hi S_lo ia (by omega) (by omega) cha chb hl hh2) hZ (hw _ (List.mem_of_getElem? (i := 138) rfl)) (hw _ (List.mem_of_getElem? (i := 81) rfl)) (by decide) (by decide)) (g := (mkF m 7 #[.val (.ref ar), .val (.int pi)] [(.int pi), (.ref ar)])) rfl (by rw [hml]; rfl) (argsL := [(.ref ar), (.int pi)]) (rest := []) (lenOf pd_5 rfl) rfl (by show 2 * 0 + _ ≤ _; exact Nat.le_of_eq rfl) (hb hby d30_7) (fun _ _ => ⟨rfl, e1, (by decide : 0 + 0 ≤ _), (by decide : 0 + 0 ≤ _)⟩)
  dsimp only [Pt.U, Pt.locs, Pt.cells, Pt.slots] at X2 l2 y2 z2 st2 hQ2
  subst l2 y2 z2
  obtain ⟨rfl, N2q, e2⟩ := hQ2
  have N2 := Fr.app N1 N2q
  obtain ⟨fs, hr, hrun, hended, hW, hsame⟩ := X2.leave (v := some (.int (nar .char ch))) (fun h => by rw [Bd.returns] at h; cases h)
  refine ⟨_, _, pre0 _ ?_, hrun, hended, _, _, rfl, ?_, ⟨_, rfl⟩, hW, hsame.mono (by decide) (by decide)⟩
  · show Steps p.tables e below (s₁.setTop (mkF m 0 #[.val (.ref ar), .val (.int pi)] [])) _
    refine XS.iloadN X0.here hx rfl (hb hby d30_0) rfl ?_
    show Steps p.tables e below (s₁.setTop (mkF m 1 #[.val (.ref ar), .val (.int pi)] [(.int pi)])) _
    refine XS.aloadN X0.here hx rfl (hb hby d30_1) rfl rfl ?_
    show Steps p.tables e below (s₁.setTop (mkF m 2 #[.val (.ref ar), .val (.int pi)] [(.ref ar), (.int pi)])) _
    refine st1 _ ?_
    show Steps p.tables e below (T1.setTop (mkF m 5 #[.val (.ref ar), .val (.int pi)] [])) _
    refine XS.aloadN X1.here hx rfl (hb hby d30_5) rfl rfl ?_
    show Steps p.tables e below (T1.setTop (mkF m 6 #[.val (.ref ar), .val (.int pi)] [(.ref ar)])) _
    refine XS.iloadN X1.here hx rfl (hb hby d30_6) rfl ?_
    show Steps p.tables e below (T1.setTop (mkF m 7 #[.val (.ref ar), .val (.int pi)] [(.int pi), (.ref ar)])) _
    refine st2 _ ?_
    show Steps p.tables e below (T2.setTop (mkF m 10 #[.val (.ref ar), .val (.int pi)] [(.int ch)])) _
    exact retN X2 hx (t := .char) Bd.returns (by simp) (hb hby d30_10) hr
  · show Q30 Z ar pi len kb z g fm ch h0 n0 _ T2.heap _
    rw [e2]
    refine ⟨?_, N2, rfl⟩
    show (some (.int (nar .char ch)) : Option Value) = some (.int ch)
    rw [own_narc cha chb]
theorem d19_0 : decode jdk_42_method_154_code 0 = .ok (.getstatic 38, 3) := by decide +kernel
theorem d19_3 : decode jdk_42_method_154_code 3 = .ok (.ifCond .eq 14, 3) := by decide +kernel
theorem d19_6 : decode jdk_42_method_154_code 6 = .ok (.aload_n 0, 1) := by decide +kernel
theorem d19_7 : decode jdk_42_method_154_code 7 = .ok (.getfield 15, 3) := by decide +kernel
theorem d19_10 : decode jdk_42_method_154_code 10 = .ok (.ifCond .ne 7, 3) := by decide +kernel
theorem d19_17 : decode jdk_42_method_154_code 17 = .ok (.iconst 0, 1) := by decide +kernel
theorem d19_18 : decode jdk_42_method_154_code 18 = .ok (.ireturn, 1) := by decide +kernel
theorem ef_rm19 (m : MethodId) (x0 : Addr) : entryFrame m #[(.ref x0)] 1 = mkF m 0 #[.val (.ref x0)] [] := by first | (simp [entryFrame, mkF, argsToLocals, Value.category]; done) | rfl
def Q19 (Z : State) (ob : Addr) (zc : Int32) (h0 : Heap) (n0 : Nat) (v : Option Value) (h : Heap) (L : List Loc) : Prop := v = some (.int (0 : Int32)) ∧ Fr n0 L ∧ h = h0
set_option maxRecDepth 65536 in
set_option maxHeartbeats 40000000 in
theorem rm19 (l : Launch) (Z : State) (a0 : Array Value) (hw : ∀ d ∈ tables_1, d.before a0 Z = true) (ws : List Jvm.Cond) (ob : Addr) (zc : Int32) (h0 : Heap) (n0 : Nat) (Z0 : n0 ≤ h0.size) (S_c : Sta Z h0 "java/lang/String" "COMPACT_STRINGS" "Z" (.int zc)) (hzc : ¬ zc = (0 : Int32)) (F_coder : Fld Z h0 ob "java/lang/String" "coder" "B" (.int (1 : Int32))) :
    MetFree l (⟨"java/lang/String", "isLatin1", "()Z"⟩ : MethodName) (head1 (Jvm.Cond.code (⟨"java/lang/String", "isLatin1", "()Z"⟩ : MethodName) jdk_42_method_154_code 1 (some .boolean) :: ws) ({ frames := 0, cells := 0, slots := 0, locals := 0 } : Room)) (fun a U => a = #[(.ref ob)] ∧ Z.Warmed39 U.vm ∧ U.heap = h0) (fun _ _ _ _ _ => True) (fun _ U o U' => ∃ v L, o = .returned v ∧ Q19 Z ob zc h0 n0 v U'.heap L ∧ FrameEnd U o U' L ({ frames := 0, cells := 0, slots := 0, locals := 0 } : Room).cells ({ frames := 0, cells := 0, slots := 0, locals := 0 } : Room).slots) := by
  refine MetFree.of_bodySF (plainFor_of_name pn_1) hisR ?_
  intro p e s m args below meth c s₁ Bd hml0 hP hK
  obtain ⟨rfl, hZ, hh⟩ := hP
  have hx := Bd.exec
  have hby := Bd.bytes
  have hml : c.maxLocals = 1 := hml0
  have hown : s.vm.findClass "java/lang/String" = some m.cls := findClass_of_methodNamed Bd.named
  have hnm := (name_of_methodNamed Bd.named Bd.method).1
  have X0 : Stand p l e ({ frames := 0, cells := 0, slots := 0, locals := 0 } : Room) s m #[(.ref ob)] below meth c s₁ [] 0 0 := Stand.of_body Bd
  have e0 : s₁.heap = h0 := by rw [← hh, Bd.state]; rfl
  have N0 := Fr.nil n0
  have pre0 : ∀ t, Steps p.tables e below (s₁.setTop (mkF m 0 #[.val (.ref ob)] [])) t → Steps p.tables e below (s₁.setTop (entryFrame m #[(.ref ob)] 1)) t := fun t k => castTop (ef_rm19 m ob) k
  obtain ⟨T1, X1, e1, st1⟩ := getS2 X0 hx hZ hown (host := "") (Or.inl (hw _ (List.mem_of_getElem? (i := 59) rfl))) Via.refl e0 S_c (g := (mkF m 0 #[.val (.ref ob)] [])) rfl (hb hby d19_0)
  obtain ⟨T2, X2, e2, st2⟩ := getF X1 hx hZ hown (host := "") (Or.inl (hw _ (List.mem_of_getElem? (i := 33) rfl))) Via.refl e1 F_coder (g := (mkF m 7 #[.val (.ref ob)] [(.ref ob)])) rfl rfl (hb hby d19_7)
  obtain ⟨fs, hr, hrun, hended, hW, hsame⟩ := X2.leave (v := some (.int (0 : Int32))) (fun h => by rw [Bd.returns] at h; cases h)
  refine ⟨_, _, pre0 _ ?_, hrun, hended, _, _, rfl, ?_, ⟨_, rfl⟩, hW, hsame.mono (by decide) (by decide)⟩
  · show Steps p.tables e below (s₁.setTop (mkF m 0 #[.val (.ref ob)] [])) _
    refine st1 _ ?_
    show Steps p.tables e below (T1.setTop (mkF m 3 #[.val (.ref ob)] [(.int zc)])) _
    refine XS.ifNo X1.here hx rfl (hb hby d19_3) rfl ((if0 _ _).trans (feq hzc).1) ?_
    show Steps p.tables e below (T1.setTop (mkF m 6 #[.val (.ref ob)] [])) _
    refine XS.aloadN X1.here hx rfl (hb hby d19_6) rfl rfl ?_
    show Steps p.tables e below (T1.setTop (mkF m 7 #[.val (.ref ob)] [(.ref ob)])) _
    refine st2 _ ?_
    show Steps p.tables e below (T2.setTop (mkF m 10 #[.val (.ref ob)] [(.int (1 : Int32))])) _
    refine XS.ifYes X2.here hx rfl (pc0 := 10) (pc' := 17) rfl (hb hby d19_10) rfl ((if0 _ _).trans (feq (by decide : ¬ ((1 : Int32) = (0 : Int32)))).2) (by decide) (by decide) ?_
    show Steps p.tables e below (T2.setTop (mkF m 17 #[.val (.ref ob)] [])) _
    refine XS.iconst X2.here hx rfl (hb hby d19_17) ?_
    show Steps p.tables e below (T2.setTop (mkF m 18 #[.val (.ref ob)] [(.int (0 : Int32))])) _
    exact retN X2 hx (t := .boolean) Bd.returns (by simp) (hb hby d19_18) hr
  · show Q19 Z ob zc h0 n0 _ T2.heap _
    rw [e2]
    exact ⟨rfl, N0, rfl⟩
theorem d18_0 : decode jdk_42_method_56_code 0 = .ok (.aload_n 0, 1) := by decide +kernel
theorem d18_1 : decode jdk_42_method_56_code 1 = .ok (.invokevirtual 492, 3) := by decide +kernel
theorem pd_13 : parseMethodDescriptor "()Z" = some ⟨[], some .boolean⟩ := by decide +kernel
theorem d18_4 : decode jdk_42_method_56_code 4 = .ok (.ifCond .eq 12, 3) := by decide +kernel
theorem d18_16 : decode jdk_42_method_56_code 16 = .ok (.aload_n 0, 1) := by decide +kernel
theorem d18_17 : decode jdk_42_method_56_code 17 = .ok (.getfield 9, 3) := by decide +kernel
theorem d18_20 : decode jdk_42_method_56_code 20 = .ok (.iload_n 1, 1) := by decide +kernel
theorem d18_21 : decode jdk_42_method_56_code 21 = .ok (.invokestatic 498, 3) := by decide +kernel
theorem d18_24 : decode jdk_42_method_56_code 24 = .ok (.ireturn, 1) := by decide +kernel
theorem ef_rm18 (m : MethodId) (x0 : Addr) (x1 : Int32) : entryFrame m #[(.ref x0), (.int x1)] 2 = mkF m 0 #[.val (.ref x0), .val (.int x1)] [] := by first | (simp [entryFrame, mkF, argsToLocals, Value.category]; done) | rfl
def Q18 (Z : State) (ob : Addr) (pi : Int32) (ar : Addr) (len : Int32) (kb : ClassId) (z : Int32) (g : Nat → Int32) (fm : Value) (ch : Int32) (zc : Int32) (h0 : Heap) (n0 : Nat) (v : Option Value) (h : Heap) (L : List Loc) : Prop := v = some (.int ch) ∧ Fr n0 L ∧ h = h0
set_option maxRecDepth 65536 in
set_option maxHeartbeats 40000000 in
theorem rm18 (l : Launch) (Z : State) (a0 : Array Value) (hw : ∀ d ∈ tables_1, d.before a0 Z = true) (ws : List Jvm.Cond) (ob : Addr) (pi : Int32) (ar : Addr) (len : Int32) (kb : ClassId) (z : Int32) (g : Nat → Int32) (fm : Value) (ch : Int32) (zc : Int32) (h0 : Heap) (n0 : Nat) (Z0 : n0 ≤ h0.size) (E_ob : Exa Z h0 ob "java/lang/String") (F_value : Fld Z h0 ob "java/lang/String" "value" "[B" (.ref ar)) (F_coder : Fld Z h0 ob "java/lang/String" "coder" "B" (.int (1 : Int32))) (S_c : Sta Z h0 "java/lang/String" "COMPACT_STRINGS" "Z" (.int zc)) (hzc : ¬ zc = (0 : Int32)) (V0 : PA Z h0 ar kb .byte z g) (hz : z.toInt = 2 * len.toInt) (S_f : Sta Z h0 "jdk/internal/util/Preconditions" "SIOOBE_FORMATTER" "Ljava/util/function/BiFunction;" fm) (rfm : fm.isRef = true) (S_ad : Sta Z h0 "java/lang/StringUTF16" "$assertionsDisabled" "Z" (.int (1 : Int32))) (S_hi : Sta Z h0 "java/lang/StringUTF16" "HI_BYTE_SHIFT" "I" (.int (0 : Int32))) (S_lo : Sta Z h0 "java/lang/StringUTF16" "LO_BYTE_SHIFT" "I" (.int (8 : Int32))) (q0 : ¬ pi < 0) (q1 : pi < len) (jb : len.toInt < 100000) (cha : ¬ ch < 0) (chb : ¬ (65535 : Int32) < ch) (hl : ∀ i : Nat, (i : Int) = 2 * pi.toInt → g i = (StrChars.lo8 ch)) (hh2 : ∀ i : Nat, (i : Int) = 2 * pi.toInt + 1 → g i = (StrChars.hi8 ch)) :
    MetFree l (⟨"java/lang/String", "charAt", "(I)C"⟩ : MethodName) (head1 (Jvm.Cond.code (⟨"java/lang/String", "charAt", "(I)C"⟩ : MethodName) jdk_42_method_56_code 2 (some .char) :: ws) ({ frames := 4, cells := 0, slots := 0, locals := 53 } : Room)) (fun a U => a = #[(.ref ob), (.int pi)] ∧ Z.Warmed39 U.vm ∧ U.heap = h0) (fun _ _ _ _ _ => True) (fun _ U o U' => ∃ v L, o = .returned v ∧ Q18 Z ob pi ar len kb z g fm ch zc h0 n0 v U'.heap L ∧ FrameEnd U o U' L ({ frames := 4, cells := 0, slots := 0, locals := 53 } : Room).cells ({ frames := 4, cells := 0, slots := 0, locals := 53 } : Room).slots) := by
  refine MetFree.of_bodySF (plainFor_of_name pn_1) hisR ?_
  intro p e s m args below meth c s₁ Bd hml0 hP hK
  obtain ⟨rfl, hZ, hh⟩ := hP
  have hx := Bd.exec
  have hby := Bd.bytes
  have hml : c.maxLocals = 2 := hml0
  have hown : s.vm.findClass "java/lang/String" = some m.cls := findClass_of_methodNamed Bd.named
  have hnm := (name_of_methodNamed Bd.named Bd.method).1
  have X0 : Stand p l e ({ frames := 4, cells := 0, slots := 0, locals := 53 } : Room) s m #[(.ref ob), (.int pi)] below meth c s₁ [] 0 0 := Stand.of_body Bd
  have e0 : s₁.heap = h0 := by rw [← hh, Bd.state]; rfl
  have N0 := Fr.nil n0
  have pre0 : ∀ t, Steps p.tables e below (s₁.setTop (mkF m 0 #[.val (.ref ob), .val (.int pi)] [])) t → Steps p.tables e below (s₁.setTop (entryFrame m #[(.ref ob), (.int pi)] 2)) t := fun t k => castTop (ef_rm18 m ob pi) k
  obtain ⟨cq1, kq1, q1a, q1b, q1c⟩ := isOf hZ e0 E_ob
  obtain ⟨_, _, ⟨T1, L1, k1, n1⟩, -, X1, ⟨Lc1, hQ1, l1, y1, z1⟩, st1⟩ := X0.virtualBack hx (y := (⟨"java/lang/String", "isLatin1", "()Z"⟩ : MethodName)) (z := (⟨"java/lang/String", "isLatin1", "()Z"⟩ : MethodName)) hown (mvT hZ (hw _ (List.mem_of_getElem? (i := 94) rfl))) (mvT hZ (hw _ (List.mem_of_getElem? (i := 95) rfl))) (notFace_of_selects (args := #[]) (mvT hZ (hw _ (List.mem_of_getElem? (i := 97) rfl)))) (mvT hZ (hw _ (List.mem_of_getElem? (i := 97) rfl))) (mvT hZ (hw _ (List.mem_of_getElem? (i := 96) rfl))) (by decide) (backOf (W := 0) (rm19 l Z a0 hw [] ob zc h0 n0 Z0 S_c hzc F_coder) hZ (hw _ (List.mem_of_getElem? (i := 98) rfl)) (hw _ (List.mem_of_getElem? (i := 14) rfl)) (by decide) (by decide)) q1a q1c (g := (mkF m 1 #[.val (.ref ob), .val (.int pi)] [(.ref ob)])) rfl (by rw [hml]; rfl) (Steps.refl _) (argsL := []) (rest := []) (lenOf pd_13 rfl) rfl (by show 2 * 0 + _ ≤ _; exact Nat.le_of_eq rfl) (hb hby d18_1) (fun _ _ => ⟨rfl, e0, (by decide : 0 + 0 ≤ _), (by decide : 0 + 0 ≤ _)⟩)
  dsimp only [Pt.U, Pt.locs, Pt.cells, Pt.slots] at X1 l1 y1 z1 st1 hQ1
  subst l1 y1 z1
  obtain ⟨rfl, N1q, e1⟩ := hQ1
  have N1 := Fr.app N0 N1q
  obtain ⟨T2, X2, e2, st2⟩ := getF X1 hx hZ hown (host := "") (Or.inl (hw _ (List.mem_of_getElem? (i := 32) rfl))) Via.refl e1 F_value (g := (mkF m 17 #[.val (.ref ob), .val (.int pi)] [(.ref ob)])) rfl rfl (hb hby d18_17)
  obtain ⟨_, _, ⟨T3, L3, k3, n3⟩, -, X3, ⟨Lc3, hQ3, l3, y3, z3⟩, st3⟩ := Jvm.LawKit.callS X2 hx (y := (⟨"java/lang/StringUTF16", "charAt", "([BI)C"⟩ : MethodName)) hown (mvT hZ (hw _ (List.mem_of_getElem? (i := 139) rfl))) (mvT hZ (hw _ (List.mem_of_getElem? (i := 140) rfl))) (mvT hZ (hw _ (List.mem_of_getElem? (i := 81) rfl))) (mvT hZ (hw _ (List.mem_of_getElem? (i := 141) rfl))) (by decide) (backOf (W := 0) (rm30 l Z a0 hw [] ar pi len kb z g fm ch h0 n0 Z0 V0 hz S_f rfm S_ad S_hi S_lo q0 q1 jb cha chb hl hh2) hZ (hw _ (List.mem_of_getElem? (i := 141) rfl)) (hw _ (List.mem_of_getElem? (i := 81) rfl)) (by decide) (by decide)) (g := (mkF m 21 #[.val (.ref ob), .val (.int pi)] [(.int pi), (.ref ar)])) rfl (by rw [hml]; rfl) (argsL := [(.ref ar), (.int pi)]) (rest := []) (lenOf pd_5 rfl) rfl (by show 2 * 0 + _ ≤ _; exact Nat.le_of_eq rfl) (hb hby d18_21) (fun _ _ => ⟨rfl, e2, (by decide : 0 + 0 ≤ _), (by decide : 0 + 0 ≤ _)⟩)
  dsimp only [Pt.U, Pt.locs, Pt.cells, Pt.slots] at X3 l3 y3 z3 st3 hQ3
  subst l3 y3 z3
  obtain ⟨rfl, N3q, e3⟩ := hQ3
  have N3 := Fr.app N1 N3q
  obtain ⟨fs, hr, hrun, hended, hW, hsame⟩ := X3.leave (v := some (.int (nar .char ch))) (fun h => by rw [Bd.returns] at h; cases h)
  refine ⟨_, _, pre0 _ ?_, hrun, hended, _, _, rfl, ?_, ⟨_, rfl⟩, hW, hsame.mono (by decide) (by decide)⟩
  · show Steps p.tables e below (s₁.setTop (mkF m 0 #[.val (.ref ob), .val (.int pi)] [])) _
    refine XS.aloadN X0.here hx rfl (hb hby d18_0) rfl rfl ?_
    show Steps p.tables e below (s₁.setTop (mkF m 1 #[.val (.ref ob), .val (.int pi)] [(.ref ob)])) _
    refine st1.trans ?_
    show Steps p.tables e below (T1.setTop (mkF m 4 #[.val (.ref ob), .val (.int pi)] [(.int (0 : Int32))])) _
    refine XS.ifYes X1.here hx rfl (pc0 := 4) (pc' := 16) rfl (hb hby d18_4) rfl ((if0 _ _).trans (teq (rfl : (0 : Int32) = (0 : Int32))).1) (by decide) (by decide) ?_
    show Steps p.tables e below (T1.setTop (mkF m 16 #[.val (.ref ob), .val (.int pi)] [])) _
    refine XS.aloadN X1.here hx rfl (hb hby d18_16) rfl rfl ?_
    show Steps p.tables e below (T1.setTop (mkF m 17 #[.val (.ref ob), .val (.int pi)] [(.ref ob)])) _
    refine st2 _ ?_
    show Steps p.tables e below (T2.setTop (mkF m 20 #[.val (.ref ob), .val (.int pi)] [(.ref ar)])) _
    refine XS.iloadN X2.here hx rfl (hb hby d18_20) rfl ?_
    show Steps p.tables e below (T2.setTop (mkF m 21 #[.val (.ref ob), .val (.int pi)] [(.int pi), (.ref ar)])) _
    refine st3 _ ?_
    show Steps p.tables e below (T3.setTop (mkF m 24 #[.val (.ref ob), .val (.int pi)] [(.int ch)])) _
    exact retN X3 hx (t := .char) Bd.returns (by simp) (hb hby d18_24) hr
  · show Q18 Z ob pi ar len kb z g fm ch zc h0 n0 _ T3.heap _
    rw [e3]
    refine ⟨?_, N3, rfl⟩
    show (some (.int (nar .char ch)) : Option Value) = some (.int ch)
    rw [own_narc cha chb]
theorem d9_0 : decode jdk_31_method_11_code 0 = .ok (.aload_n 0, 1) := by decide +kernel
theorem d9_1 : decode jdk_31_method_11_code 1 = .ok (.ifnonnull 12, 3) := by decide +kernel
theorem d9_13 : decode jdk_31_method_11_code 13 = .ok (.aload_n 0, 1) := by decide +kernel
theorem d9_14 : decode jdk_31_method_11_code 14 = .ok (.areturn, 1) := by decide +kernel
theorem pn_4 : plainName "java/util/Objects" = true := by first | (simp [plainName, overriddenIn]; done) | decide +kernel
theorem ef_rm9 (m : MethodId) (x0 : Addr) (x1 : Addr) : entryFrame m #[(.ref x0), (.ref x1)] 2 = mkF m 0 #[.val (.ref x0), .val (.ref x1)] [] := by first | (simp [entryFrame, mkF, argsToLocals, Value.category]; done) | rfl
def Q9 (Z : State) (pa : Addr) (pb : Addr) (h0 : Heap) (n0 : Nat) (v : Option Value) (h : Heap) (L : List Loc) : Prop := v = some (.ref pa) ∧ Fr n0 L ∧ h = h0
set_option maxRecDepth 65536 in
set_option maxHeartbeats 40000000 in
theorem rm9 (l : Launch) (Z : State) (a0 : Array Value) (hw : ∀ d ∈ tables_1, d.before a0 Z = true) (ws : List Jvm.Cond) (pa : Addr) (pb : Addr) (h0 : Heap) (n0 : Nat) (Z0 : n0 ≤ h0.size) :
    MetFree l (⟨"java/util/Objects", "requireNonNull", "(Ljava/lang/Object;Ljava/lang/String;)Ljava/lang/Object;"⟩ : MethodName) (head1 (Jvm.Cond.code (⟨"java/util/Objects", "requireNonNull", "(Ljava/lang/Object;Ljava/lang/String;)Ljava/lang/Object;"⟩ : MethodName) jdk_31_method_11_code 2 (some (.object "java/lang/Object")) :: ws) ({ frames := 0, cells := 0, slots := 0, locals := 0 } : Room)) (fun a U => a = #[(.ref pa), (.ref pb)] ∧ Z.Warmed39 U.vm ∧ U.heap = h0) (fun _ _ _ _ _ => True) (fun _ U o U' => ∃ v L, o = .returned v ∧ Q9 Z pa pb h0 n0 v U'.heap L ∧ FrameEnd U o U' L ({ frames := 0, cells := 0, slots := 0, locals := 0 } : Room).cells ({ frames := 0, cells := 0, slots := 0, locals := 0 } : Room).slots) := by
  refine MetFree.of_bodySF (plainFor_of_name pn_4) hisR ?_
  intro p e s m args below meth c s₁ Bd hml0 hP hK
  obtain ⟨rfl, hZ, hh⟩ := hP
  have hx := Bd.exec
  have hby := Bd.bytes
  have hml : c.maxLocals = 2 := hml0
  have hown : s.vm.findClass "java/util/Objects" = some m.cls := findClass_of_methodNamed Bd.named
  have hnm := (name_of_methodNamed Bd.named Bd.method).1
  have X0 : Stand p l e ({ frames := 0, cells := 0, slots := 0, locals := 0 } : Room) s m #[(.ref pa), (.ref pb)] below meth c s₁ [] 0 0 := Stand.of_body Bd
  have e0 : s₁.heap = h0 := by rw [← hh, Bd.state]; rfl
  have N0 := Fr.nil n0
  have pre0 : ∀ t, Steps p.tables e below (s₁.setTop (mkF m 0 #[.val (.ref pa), .val (.ref pb)] [])) t → Steps p.tables e below (s₁.setTop (entryFrame m #[(.ref pa), (.ref pb)] 2)) t := fun t k => castTop (ef_rm9 m pa pb) k
  obtain ⟨fs, hr, hrun, hended, hW, hsame⟩ := X0.leave (v := some (.ref pa)) (fun h => by rw [Bd.returns] at h; cases h)
  refine ⟨_, _, pre0 _ ?_, hrun, hended, _, _, rfl, ?_, ⟨_, rfl⟩, hW, hsame.mono (by decide) (by decide)⟩
  · show Steps p.tables e below (s₁.setTop (mkF m 0 #[.val (.ref pa), .val (.ref pb)] [])) _
    refine XS.aloadN X0.here hx rfl (hb hby d9_0) rfl rfl ?_
    show Steps p.tables e below (s₁.setTop (mkF m 1 #[.val (.ref pa), .val (.ref pb)] [(.ref pa)])) _
    refine XS.ifnonnullYes X0.here hx rfl (pc0 := 1) (pc' := 13) rfl (hb hby d9_1) rfl (by decide) (by decide) ?_
    show Steps p.tables e below (s₁.setTop (mkF m 13 #[.val (.ref pa), .val (.ref pb)] [])) _
    refine XS.aloadN X0.here hx rfl (hb hby d9_13) rfl rfl ?_
    show Steps p.tables e below (s₁.setTop (mkF m 14 #[.val (.ref pa), .val (.ref pb)] [(.ref pa)])) _
    exact retOut X0 hx Bd.returns rfl (Or.inr (Or.inr (Or.inr (Or.inr ⟨rfl, rfl, rfl⟩)))) (hb hby d9_14) hr
  · show Q9 Z pa pb h0 n0 _ s₁.heap _
    rw [e0]
    exact ⟨rfl, N0, rfl⟩
theorem d23_0 : decode jdk_89_method_14_code 0 = .ok (.iload_n 0, 1) := by decide +kernel
theorem d23_1 : decode jdk_89_method_14_code 1 = .ok (.ldc 75, 2) := by decide +kernel
theorem d23_3 : decode jdk_89_method_14_code 3 = .ok (.if_icmp .lt 13, 3) := by decide +kernel
theorem d23_16 : decode jdk_89_method_14_code 16 = .ok (.iconst 0, 1) := by decide +kernel
theorem d23_17 : decode jdk_89_method_14_code 17 = .ok (.ireturn, 1) := by decide +kernel
theorem pn_5 : plainName "java/lang/Character" = true := by first | (simp [plainName, overriddenIn]; done) | decide +kernel
theorem ef_rm23 (m : MethodId) (x0 : Int32) : entryFrame m #[(.int x0)] 1 = mkF m 0 #[.val (.int x0)] [] := by first | (simp [entryFrame, mkF, argsToLocals, Value.category]; done) | rfl
def Q23 (Z : State) (p1 : Int32) (h0 : Heap) (n0 : Nat) (v : Option Value) (h : Heap) (L : List Loc) : Prop := v = some (.int (0 : Int32)) ∧ Fr n0 L ∧ h = h0
set_option maxRecDepth 65536 in
set_option maxHeartbeats 40000000 in
theorem rm23 (l : Launch) (Z : State) (a0 : Array Value) (hw : ∀ d ∈ tables_1, d.before a0 Z = true) (ws : List Jvm.Cond) (p1 : Int32) (h0 : Heap) (n0 : Nat) (Z0 : n0 ≤ h0.size) (hs : p1 < (55296 : Int32)) :
    MetFree l (⟨"java/lang/Character", "isHighSurrogate", "(C)Z"⟩ : MethodName) (head1 (Jvm.Cond.code (⟨"java/lang/Character", "isHighSurrogate", "(C)Z"⟩ : MethodName) jdk_89_method_14_code 1 (some .boolean) :: ws) ({ frames := 0, cells := 0, slots := 0, locals := 0 } : Room)) (fun a U => a = #[(.int p1)] ∧ Z.Warmed39 U.vm ∧ U.heap = h0) (fun _ _ _ _ _ => True) (fun _ U o U' => ∃ v L, o = .returned v ∧ Q23 Z p1 h0 n0 v U'.heap L ∧ FrameEnd U o U' L ({ frames := 0, cells := 0, slots := 0, locals := 0 } : Room).cells ({ frames := 0, cells := 0, slots := 0, locals := 0 } : Room).slots) := by
  refine MetFree.of_bodySF (plainFor_of_name pn_5) hisR ?_
  intro p e s m args below meth c s₁ Bd hml0 hP hK
  obtain ⟨rfl, hZ, hh⟩ := hP
  have hx := Bd.exec
  have hby := Bd.bytes
  have hml : c.maxLocals = 1 := hml0
  have hown : s.vm.findClass "java/lang/Character" = some m.cls := findClass_of_methodNamed Bd.named
  have hnm := (name_of_methodNamed Bd.named Bd.method).1
  have X0 : Stand p l e ({ frames := 0, cells := 0, slots := 0, locals := 0 } : Room) s m #[(.int p1)] below meth c s₁ [] 0 0 := Stand.of_body Bd
  have e0 : s₁.heap = h0 := by rw [← hh, Bd.state]; rfl
  have N0 := Fr.nil n0
  have pre0 : ∀ t, Steps p.tables e below (s₁.setTop (mkF m 0 #[.val (.int p1)] [])) t → Steps p.tables e below (s₁.setTop (entryFrame m #[(.int p1)] 1)) t := fun t k => castTop (ef_rm23 m p1) k
  obtain ⟨fs, hr, hrun, hended, hW, hsame⟩ := X0.leave (v := some (.int (0 : Int32))) (fun h => by rw [Bd.returns] at h; cases h)
  refine ⟨_, _, pre0 _ ?_, hrun, hended, _, _, rfl, ?_, ⟨_, rfl⟩, hW, hsame.mono (by decide) (by decide)⟩
  · show Steps p.tables e below (s₁.setTop (mkF m 0 #[.val (.int p1)] [])) _
    refine XS.iloadN X0.here hx rfl (hb hby d23_0) rfl ?_
    show Steps p.tables e below (s₁.setTop (mkF m 1 #[.val (.int p1)] [(.int p1)])) _
    refine X0.ldcInt hx hown (mvT hZ (hw _ (List.mem_of_getElem? (i := 114) rfl))) (g := (mkF m 1 #[.val (.int p1)] [(.int p1)])) rfl (hb hby d23_1) _ ?_
    show Steps p.tables e below (s₁.setTop (mkF m 3 #[.val (.int p1)] [(.int (55296 : Int32)), (.int p1)])) _
    refine XS.icmpYes X0.here hx rfl (pc0 := 3) (pc' := 16) rfl (hb hby d23_3) rfl (tlt hs).1 (by decide) (by decide) ?_
    show Steps p.tables e below (s₁.setTop (mkF m 16 #[.val (.int p1)] [])) _
    refine XS.iconst X0.here hx rfl (hb hby d23_16) ?_
    show Steps p.tables e below (s₁.setTop (mkF m 17 #[.val (.int p1)] [(.int (0 : Int32))])) _
    exact retN X0 hx (t := .boolean) Bd.returns (by simp) (hb hby d23_17) hr
  · show Q23 Z p1 h0 n0 _ s₁.heap _
    rw [e0]
    exact ⟨rfl, N0, rfl⟩
theorem d24_0 : decode jdk_89_method_16_code 0 = .ok (.iload_n 0, 1) := by decide +kernel
theorem d24_1 : decode jdk_89_method_16_code 1 = .ok (.ldc 75, 2) := by decide +kernel
theorem d24_3 : decode jdk_89_method_16_code 3 = .ok (.if_icmp .lt 13, 3) := by decide +kernel
theorem d24_16 : decode jdk_89_method_16_code 16 = .ok (.iconst 0, 1) := by decide +kernel
theorem d24_17 : decode jdk_89_method_16_code 17 = .ok (.ireturn, 1) := by decide +kernel
theorem ef_rm24 (m : MethodId) (x0 : Int32) : entryFrame m #[(.int x0)] 1 = mkF m 0 #[.val (.int x0)] [] := by first | (simp [entryFrame, mkF, argsToLocals, Value.category]; done) | rfl
def Q24 (Z : State) (p1 : Int32) (h0 : Heap) (n0 : Nat) (v : Option Value) (h : Heap) (L : List Loc) : Prop := v = some (.int (0 : Int32)) ∧ Fr n0 L ∧ h = h0
set_option maxRecDepth 65536 in
set_option maxHeartbeats 40000000 in
theorem rm24 (l : Launch) (Z : State) (a0 : Array Value) (hw : ∀ d ∈ tables_1, d.before a0 Z = true) (ws : List Jvm.Cond) (p1 : Int32) (h0 : Heap) (n0 : Nat) (Z0 : n0 ≤ h0.size) (hs : p1 < (55296 : Int32)) :
    MetFree l (⟨"java/lang/Character", "isSurrogate", "(C)Z"⟩ : MethodName) (head1 (Jvm.Cond.code (⟨"java/lang/Character", "isSurrogate", "(C)Z"⟩ : MethodName) jdk_89_method_16_code 1 (some .boolean) :: ws) ({ frames := 0, cells := 0, slots := 0, locals := 0 } : Room)) (fun a U => a = #[(.int p1)] ∧ Z.Warmed39 U.vm ∧ U.heap = h0) (fun _ _ _ _ _ => True) (fun _ U o U' => ∃ v L, o = .returned v ∧ Q24 Z p1 h0 n0 v U'.heap L ∧ FrameEnd U o U' L ({ frames := 0, cells := 0, slots := 0, locals := 0 } : Room).cells ({ frames := 0, cells := 0, slots := 0, locals := 0 } : Room).slots) := by
  refine MetFree.of_bodySF (plainFor_of_name pn_5) hisR ?_
  intro p e s m args below meth c s₁ Bd hml0 hP hK
  obtain ⟨rfl, hZ, hh⟩ := hP
  have hx := Bd.exec
  have hby := Bd.bytes
  have hml : c.maxLocals = 1 := hml0
  have hown : s.vm.findClass "java/lang/Character" = some m.cls := findClass_of_methodNamed Bd.named
  have hnm := (name_of_methodNamed Bd.named Bd.method).1
  have X0 : Stand p l e ({ frames := 0, cells := 0, slots := 0, locals := 0 } : Room) s m #[(.int p1)] below meth c s₁ [] 0 0 := Stand.of_body Bd
  have e0 : s₁.heap = h0 := by rw [← hh, Bd.state]; rfl
  have N0 := Fr.nil n0
  have pre0 : ∀ t, Steps p.tables e below (s₁.setTop (mkF m 0 #[.val (.int p1)] [])) t → Steps p.tables e below (s₁.setTop (entryFrame m #[(.int p1)] 1)) t := fun t k => castTop (ef_rm24 m p1) k
  obtain ⟨fs, hr, hrun, hended, hW, hsame⟩ := X0.leave (v := some (.int (0 : Int32))) (fun h => by rw [Bd.returns] at h; cases h)
  refine ⟨_, _, pre0 _ ?_, hrun, hended, _, _, rfl, ?_, ⟨_, rfl⟩, hW, hsame.mono (by decide) (by decide)⟩
  · show Steps p.tables e below (s₁.setTop (mkF m 0 #[.val (.int p1)] [])) _
    refine XS.iloadN X0.here hx rfl (hb hby d24_0) rfl ?_
    show Steps p.tables e below (s₁.setTop (mkF m 1 #[.val (.int p1)] [(.int p1)])) _
    refine X0.ldcInt hx hown (mvT hZ (hw _ (List.mem_of_getElem? (i := 114) rfl))) (g := (mkF m 1 #[.val (.int p1)] [(.int p1)])) rfl (hb hby d24_1) _ ?_
    show Steps p.tables e below (s₁.setTop (mkF m 3 #[.val (.int p1)] [(.int (55296 : Int32)), (.int p1)])) _
    refine XS.icmpYes X0.here hx rfl (pc0 := 3) (pc' := 16) rfl (hb hby d24_3) rfl (tlt hs).1 (by decide) (by decide) ?_
    show Steps p.tables e below (s₁.setTop (mkF m 16 #[.val (.int p1)] [])) _
    refine XS.iconst X0.here hx rfl (hb hby d24_16) ?_
    show Steps p.tables e below (s₁.setTop (mkF m 17 #[.val (.int p1)] [(.int (0 : Int32))])) _
    exact retN X0 hx (t := .boolean) Bd.returns (by simp) (hb hby d24_17) hr
  · show Q24 Z p1 h0 n0 _ s₁.heap _
    rw [e0]
    exact ⟨rfl, N0, rfl⟩
theorem own_well {c : Int32} (h : ¬ c < 0 ∧ c < (55296 : Int32)) : ¬ c < 0 ∧ ¬ (65535 : Int32) < c := by
  refine ⟨h.1, fun q => ?_⟩
  have h2 := h.2
  rw [Int32.lt_iff_toInt_lt] at h2 q
  rw [show (55296 : Int32).toInt = 55296 from rfl] at h2
  rw [show (65535 : Int32).toInt = 65535 from rfl] at q
  omega
theorem own_at {cs : List Int32} (h : ∀ c ∈ cs, ¬ c < 0 ∧ c < (55296 : Int32)) {i : Nat} (hi : i < cs.length) : ¬ cs.getD i 0 < 0 ∧ cs.getD i 0 < (55296 : Int32) := by
  rw [List.getD_eq_getElem?_getD, List.getElem?_eq_getElem hi]
  exact h _ (List.getElem_mem hi)
theorem own_ofn {n : Nat} (h : n ≤ 1000) : (Int32.ofNat n).toInt = n := Int32.toInt_ofNat_of_lt (by omega)
theorem d8_0 : decode prog_134_method_8_code 0 = .ok (.aload_n 0, 1) := by decide +kernel
theorem d8_1 : decode prog_134_method_8_code 1 = .ok (.ldc 36, 2) := by decide +kernel
theorem d8_3 : decode prog_134_method_8_code 3 = .ok (.invokestatic 37, 3) := by decide +kernel
theorem pd_14 : parseMethodDescriptor "(Ljava/lang/Object;Ljava/lang/String;)Ljava/lang/Object;" = some ⟨[(.object "java/lang/Object"), (.object "java/lang/String")], some (.object "java/lang/Object")⟩ := by decide +kernel
theorem d8_6 : decode prog_134_method_8_code 6 = .ok (.pop, 1) := by decide +kernel
theorem d8_7 : decode prog_134_method_8_code 7 = .ok (.iconst 0, 1) := by decide +kernel
theorem d8_8 : decode prog_134_method_8_code 8 = .ok (.istore_n 1, 1) := by decide +kernel
theorem d8_9 : decode prog_134_method_8_code 9 = .ok (.iload_n 1, 1) := by decide +kernel
theorem d8_10 : decode prog_134_method_8_code 10 = .ok (.aload_n 0, 1) := by decide +kernel
theorem d8_11 : decode prog_134_method_8_code 11 = .ok (.invokevirtual 43, 3) := by decide +kernel
theorem pd_15 : parseMethodDescriptor "()I" = some ⟨[], some .int⟩ := by decide +kernel
theorem d8_14 : decode prog_134_method_8_code 14 = .ok (.if_icmp .ge 72, 3) := by decide +kernel
theorem d8_17 : decode prog_134_method_8_code 17 = .ok (.aload_n 0, 1) := by decide +kernel
theorem d8_18 : decode prog_134_method_8_code 18 = .ok (.iload_n 1, 1) := by decide +kernel
theorem d8_19 : decode prog_134_method_8_code 19 = .ok (.invokevirtual 46, 3) := by decide +kernel
theorem pd_16 : parseMethodDescriptor "(I)C" = some ⟨[.int], some .char⟩ := by decide +kernel
theorem d8_22 : decode prog_134_method_8_code 22 = .ok (.istore_n 2, 1) := by decide +kernel
theorem d8_23 : decode prog_134_method_8_code 23 = .ok (.iload_n 2, 1) := by decide +kernel
theorem d8_24 : decode prog_134_method_8_code 24 = .ok (.invokestatic 50, 3) := by decide +kernel
theorem pd_17 : parseMethodDescriptor "(C)Z" = some ⟨[.char], some .boolean⟩ := by decide +kernel
theorem d8_27 : decode prog_134_method_8_code 27 = .ok (.ifCond .eq 32, 3) := by decide +kernel
theorem d8_59 : decode prog_134_method_8_code 59 = .ok (.iload_n 2, 1) := by decide +kernel
theorem d8_60 : decode prog_134_method_8_code 60 = .ok (.invokestatic 59, 3) := by decide +kernel
theorem d8_63 : decode prog_134_method_8_code 63 = .ok (.ifCond .eq 17, 3) := by decide +kernel
theorem d8_80 : decode prog_134_method_8_code 80 = .ok (.iinc 1 1, 3) := by decide +kernel
theorem d8_83 : decode prog_134_method_8_code 83 = .ok (.goto (-74), 3) := by decide +kernel
theorem d8_86 : decode prog_134_method_8_code 86 = .ok (.aload_n 0, 1) := by decide +kernel
theorem d8_87 : decode prog_134_method_8_code 87 = .ok (.areturn, 1) := by decide +kernel
theorem pn_6 : plainName "com/example/attestrail/attestrail/json/JsonString" = true := by first | (simp [plainName, overriddenIn]; done) | decide +kernel
theorem ef_rm8 (m : MethodId) (x0 : Addr) : entryFrame m #[(.ref x0)] 3 = mkF m 0 #[.val (.ref x0), .unset, .unset] [] := by first | (simp [entryFrame, mkF, argsToLocals, Value.category]; done) | rfl
def Q8 (Z : State) (tx : Addr) (tv : Addr) (kb : ClassId) (cd : Int32) (NB2 : Int32) (vs : List Value) (cs : List Int32) (zc : Int32) (fm : Value) (h0 : Heap) (n0 : Nat) (v : Option Value) (h : Heap) (L : List Loc) : Prop := v = some (.ref tx) ∧ Fr n0 L ∧ Keep h0 h []
set_option maxRecDepth 65536 in
set_option maxHeartbeats 40000000 in
theorem rm8 (l : Launch) (Z : State) (a0 : Array Value) (hw : ∀ d ∈ tables_1, d.before a0 Z = true) (ws : List Jvm.Cond) (tx : Addr) (tv : Addr) (kb : ClassId) (cd : Int32) (NB2 : Int32) (vs : List Value) (cs : List Int32) (zc : Int32) (fm : Value) (h0 : Heap) (n0 : Nat) (Z0 : n0 ≤ h0.size) (O : Old Z n0 h0) (E_s : Exa Z h0 tx "java/lang/String") (V_s : Fld Z h0 tx "java/lang/String" "value" "[B" (.ref tv)) (C_s : Fld Z h0 tx "java/lang/String" "coder" "B" (.int cd)) (K_s : Arv Z h0 tv kb .byte NB2 vs (.int 0)) (hcd : StrChars.Road.CodA cs cd NB2 vs) (hcl : cs.length ≤ 3) (hwl : ∀ c ∈ cs, ¬ c < 0 ∧ c < (55296 : Int32)) (S_ad : Sta Z Z.heap "java/lang/StringUTF16" "$assertionsDisabled" "Z" (.int (1 : Int32))) (S_hi : Sta Z Z.heap "java/lang/StringUTF16" "HI_BYTE_SHIFT" "I" (.int (0 : Int32))) (S_lo : Sta Z Z.heap "java/lang/StringUTF16" "LO_BYTE_SHIFT" "I" (.int (8 : Int32))) (S_c : Sta Z Z.heap "java/lang/String" "COMPACT_STRINGS" "Z" (.int zc)) (hzc : ¬ zc = (0 : Int32)) (S_f : Sta Z Z.heap "jdk/internal/util/Preconditions" "SIOOBE_FORMATTER" "Ljava/util/function/BiFunction;" fm) (rfm : fm.isRef = true) :
    MetFree l (⟨"com/example/attestrail/attestrail/json/JsonString", "requireWellFormed", "(Ljava/lang/String;)Ljava/lang/String;"⟩ : MethodName) (head1 (Jvm.Cond.code (⟨"com/example/attestrail/attestrail/json/JsonString", "requireWellFormed", "(Ljava/lang/String;)Ljava/lang/String;"⟩ : MethodName) prog_134_method_8_code 3 (some (.object "java/lang/String")) :: ws) ({ frames := 5, cells := 2, slots := 20, locals := 66 } : Room)) (fun a U => a = #[(.ref tx)] ∧ Z.Warmed39 U.vm ∧ U.heap = h0 ∧ CHv Z EL0 U.vm h0) (fun _ _ _ _ _ => True) (fun _ U o U' => ∃ v L, o = .returned v ∧ Q8 Z tx tv kb cd NB2 vs cs zc fm h0 n0 v U'.heap L ∧ CHr Z EL0 U.vm U.heap U'.vm U'.heap ∧ ReturnedEndW U o U' L ({ frames := 5, cells := 2, slots := 20, locals := 66 } : Room).cells ({ frames := 5, cells := 2, slots := 20, locals := 66 } : Room).slots) := by
  refine MetFree.of_bodySF (plainFor_of_name pn_6) hisR ?_
  intro p e s m args below meth c s₁ Bd hml0 hP hK
  obtain ⟨rfl, hZ, hh, hCH⟩ := hP
  have hx := Bd.exec
  have hby := Bd.bytes
  have hml : c.maxLocals = 3 := hml0
  have hown : s.vm.findClass "com/example/attestrail/attestrail/json/JsonString" = some m.cls := findClass_of_methodNamed Bd.named
  have hnm := (name_of_methodNamed Bd.named Bd.method).1
  have X0 : Stand p l e ({ frames := 5, cells := 2, slots := 20, locals := 66 } : Room) (s.setVm s.vm) m #[(.ref tx)] below meth c s₁ [] 0 0 := Stand.of_body Bd
  have e0 : s₁.heap = h0 := by rw [← hh, Bd.state]; rfl
  have N0 := Fr.nil n0
  have pre0 : ∀ t, Steps p.tables e below (s₁.setTop (mkF m 0 #[.val (.ref tx), .unset, .unset] [])) t → Steps p.tables e below (s₁.setTop (entryFrame m #[(.ref tx)] 3)) t := fun t k => castTop (ef_rm8 m tx) k
  have hEL : EW Z a0 EL0 := own_EW hw
  have CH0 : CHr Z EL0 s.vm h0 s.vm h0 := CHr.refl hCH
  have hS0 : s.Since s.vm 0 := (State.WarmedH.refl s).since 0
  have hwS : ∀ a ∈ Bundle.stringAtoms, a.before a0 Z = true := fun d hd => hw d ((by decide +kernel : ∀ d ∈ Bundle.stringAtoms, d ∈ tables_1) d hd)
  have hln : ∀ d ∈ StrChars.Road.wordsLen, d.before a0 Z = true := fun d hd => hw d ((by decide +kernel : ∀ d ∈ StrChars.Road.wordsLen, d ∈ tables_1) d hd)
  have hchw : ∀ d ∈ StrChars.Road.wordsChN, d.before a0 Z = true := fun d hd => hw d ((by decide +kernel : ∀ d ∈ StrChars.Road.wordsChN, d ∈ tables_1) d hd)
  have hbd : ∀ c ∈ cs, ¬ c < 0 ∧ ¬ (65535 : Int32) < c := fun c hc => own_well (hwl c hc)
  have hlen := own_ofn (n := cs.length) (by omega)
  have e0_ : (0 : Int32).toInt = 0 := rfl
  obtain ⟨b1, T1, h1, k1, X1, e1, E1, hS1, hk1, hZ1, hown1, hC1, -, st1⟩ := ldcOH (s := s) (vm0 := s.vm) X0 hx hZ hown (hw _ (List.mem_of_getElem? (i := 44) rfl)) hwS e0 hS0 (Nat.zero_le _) hEL CH0.1 (g := (mkF m 1 #[.val (.ref tx), .unset, .unset] [(.ref tx)])) rfl (hb hby d8_1) (n := 16) (by decide) (by decide) (by decide) (by decide)
  have cq1 := hC1
  have CH1 := CH0.trans cq1
  have Kc1 : Keep h0 h1 [] := (Keep.refl h0 []).ext E1
  have Oc1 := O.ext E1
  obtain ⟨_, _, ⟨T2, L2, k2, n2⟩, -, X2, ⟨Lc2, hQ2, l2, y2, z2⟩, st2⟩ := Jvm.LawKit.callS X1 hx (y := (⟨"java/util/Objects", "requireNonNull", "(Ljava/lang/Object;Ljava/lang/String;)Ljava/lang/Object;"⟩ : MethodName)) hown1 (mvT hZ1 (hw _ (List.mem_of_getElem? (i := 45) rfl))) (mvT hZ1 (hw _ (List.mem_of_getElem? (i := 46) rfl))) (mvT hZ1 (hw _ (List.mem_of_getElem? (i := 47) rfl))) (mvT hZ1 (hw _ (List.mem_of_getElem? (i := 48) rfl))) (by decide) (backOf (W := 0) (rm9 l Z a0 hw [] tx b1 h1 n0 (Nat.le_trans Z0 Kc1.1) ) hZ1 (hw _ (List.mem_of_getElem? (i := 48) rfl)) (hw _ (List.mem_of_getElem? (i := 47) rfl)) (by decide) (by decide)) (g := (mkF m 3 #[.val (.ref tx), .unset, .unset] [(.ref b1), (.ref tx)])) rfl (by rw [hml]; rfl) (argsL := [(.ref tx), (.ref b1)]) (rest := []) (lenOf pd_14 rfl) rfl (by show 2 * 0 + _ ≤ _; exact Nat.le_of_eq rfl) (hb hby d8_3) (fun _ _ => ⟨rfl, e1, (by decide : 2 + 0 ≤ _), (by decide : 20 + 0 ≤ _)⟩)
  dsimp only [Pt.U, Pt.locs, Pt.cells, Pt.slots] at X2 l2 y2 z2 st2 hQ2
  subst l2 y2 z2
  obtain ⟨rfl, N2q, e2⟩ := hQ2
  have N2 := Fr.app N0 N2q
  have pre3 : ∀ tq, Steps p.tables e below (T2.setTop (mkF m 9 #[.val (.ref tx), .val (.int (0 : Int32)), .unset] [])) tq → Steps p.tables e below (s₁.setTop (entryFrame m #[(.ref tx)] 3)) tq := by
    intro tq kt
    refine pre0 tq ?_
    show Steps p.tables e below (s₁.setTop (mkF m 0 #[.val (.ref tx), .unset, .unset] [])) _
    refine XS.aloadN X0.here hx rfl (hb hby d8_0) rfl rfl ?_
    show Steps p.tables e below (s₁.setTop (mkF m 1 #[.val (.ref tx), .unset, .unset] [(.ref tx)])) _
    refine st1 _ ?_
    show Steps p.tables e below (T1.setTop (mkF m 3 #[.val (.ref tx), .unset, .unset] [(.ref b1), (.ref tx)])) _
    refine st2 _ ?_
    show Steps p.tables e below (T2.setTop (mkF m 6 #[.val (.ref tx), .unset, .unset] [(.ref tx)])) _
    refine XS.pop X2.here hx rfl (hb hby d8_6) rfl rfl ?_
    show Steps p.tables e below (T2.setTop (mkF m 7 #[.val (.ref tx), .unset, .unset] [])) _
    refine XS.iconst X2.here hx rfl (hb hby d8_7) ?_
    show Steps p.tables e below (T2.setTop (mkF m 8 #[.val (.ref tx), .unset, .unset] [(.int (0 : Int32))])) _
    refine XS.istoreN X2.here hx rfl (hb hby d8_8) rfl (l' := #[.val (.ref tx), .val (.int (0 : Int32)), .unset]) rfl ?_
    show Steps p.tables e below (T2.setTop (mkF m 9 #[.val (.ref tx), .val (.int (0 : Int32)), .unset] [])) _
    exact kt
  have E_ := (E_s.ext E1)
  have V_ := (V_s.ext E1)
  have C_ := (C_s.ext E1)
  have K_ := (K_s.ext E1)
  have Oz := Oc1
  have Zz := (Nat.le_trans Z0 Kc1.1)
  have loop : ∀ (n : Nat) (T0 : State) (lc : List Loc) (t : Int32) (s2 : Slot), Stand p l e ({ frames := 5, cells := 2, slots := 20, locals := 66 } : Room) (s.setVm T1.vm) m #[(.ref tx)] below meth c T0 lc 2 20 → T0.heap = h1 → Fr n0 lc → 0 ≤ t.toInt → t.toInt + n = cs.length → (∀ y : Int32, storeLocals #[.val (.ref tx), .val (.int t), s2] 2 (.int y) = some #[.val (.ref tx), .val (.int t), .val (.int y)]) →
      ∃ (Tz : State) (lc1 : List Loc) (t1 : Int32) (s2' : Slot), Stand p l e ({ frames := 5, cells := 2, slots := 20, locals := 66 } : Room) (s.setVm T1.vm) m #[(.ref tx)] below meth c Tz lc1 2 20 ∧ Tz.heap = h1 ∧ Fr n0 lc1 ∧ ∀ tg, Steps p.tables e below (Tz.setTop (mkF m 86 #[.val (.ref tx), .val (.int t1), s2'] [])) tg → Steps p.tables e below (T0.setTop (mkF m 9 #[.val (.ref tx), .val (.int t), s2] [])) tg := by
    intro n
    induction n with
    | zero =>
      intro T0 lc t s2 Xa ea Na q0 q1 hs
      have preL : ∀ tg, Steps p.tables e below (T0.setTop (mkF m 9 #[.val (.ref tx), .val (.int t), s2] [])) tg → Steps p.tables e below (T0.setTop (mkF m 9 #[.val (.ref tx), .val (.int t), s2] [])) tg := fun _ k => k
      obtain ⟨cq4, kq4, q4a, q4b, q4c⟩ := isOf hZ1 ea E_
      obtain ⟨_, _, ⟨T4, L4, k4, n4⟩, -, X4, ⟨Lc4, hQ4, l4, y4, z4⟩, st4⟩ := Xa.virtualBack hx (y := (⟨"java/lang/String", "length", "()I"⟩ : MethodName)) (z := (⟨"java/lang/String", "length", "()I"⟩ : MethodName)) hown1 (mvT hZ1 (hw _ (List.mem_of_getElem? (i := 49) rfl))) (mvT hZ1 (hw _ (List.mem_of_getElem? (i := 50) rfl))) (notFace_of_selects (args := #[]) (mvT hZ1 (hw _ (List.mem_of_getElem? (i := 52) rfl)))) (mvT hZ1 (hw _ (List.mem_of_getElem? (i := 52) rfl))) (mvT hZ1 (hw _ (List.mem_of_getElem? (i := 51) rfl))) (by decide) (StrChars.Road.lenW (W := 1) hZ1 hln (kI := 4) (hw _ (List.mem_of_getElem? (i := 13) rfl)) E_ V_ C_ K_ hcd hbd (S_c.ext Oz.2) hzc (by omega) (by decide) (by decide)) q4a q4c (g := (mkF m 11 #[.val (.ref tx), .val (.int t), s2] [(.ref tx), (.int t)])) rfl (by rw [hml]; rfl) (Steps.refl _) (argsL := []) (rest := [(.int t)]) (lenOf pd_15 rfl) rfl (by show 2 * 0 + _ ≤ _; exact Nat.le_of_eq rfl) (hb hby d8_11) (fun _ _ => ⟨rfl, ea, (by decide : 2 + 0 ≤ _), (by decide : 20 + 0 ≤ _)⟩)
      dsimp only [Pt.U, Pt.locs, Pt.cells, Pt.slots] at X4 l4 y4 z4 st4 hQ4
      subst l4 y4 z4
      obtain ⟨rfl, rfl, e4⟩ := hQ4
      have N4q : Fr n0 ([] : List Loc) := Fr.nil n0
      have N4 := Fr.app Na N4q
      have pre5 : ∀ tq, Steps p.tables e below (T4.setTop (mkF m 86 #[.val (.ref tx), .val (.int t), s2] [])) tq → Steps p.tables e below (T0.setTop (mkF m 9 #[.val (.ref tx), .val (.int t), s2] [])) tq := by
        intro tq kt
        refine preL tq ?_
        show Steps p.tables e below (T0.setTop (mkF m 9 #[.val (.ref tx), .val (.int t), s2] [])) _
        refine XS.iloadN Xa.here hx rfl (hb hby d8_9) rfl ?_
        show Steps p.tables e below (T0.setTop (mkF m 10 #[.val (.ref tx), .val (.int t), s2] [(.int t)])) _
        refine XS.aloadN Xa.here hx rfl (hb hby d8_10) rfl rfl ?_
        show Steps p.tables e below (T0.setTop (mkF m 11 #[.val (.ref tx), .val (.int t), s2] [(.ref tx), (.int t)])) _
        refine st4.trans ?_
        show Steps p.tables e below (T4.setTop (mkF m 14 #[.val (.ref tx), .val (.int t), s2] [(.int (Int32.ofNat cs.length)), (.int t)])) _
        refine XS.icmpYes X4.here hx rfl (pc0 := 14) (pc' := 86) rfl (hb hby d8_14) rfl (flt (by rw [Int32.lt_iff_toInt_lt, hlen]; omega : ¬ (t < (Int32.ofNat cs.length)))).2.1 (by decide) (by decide) ?_
        show Steps p.tables e below (T4.setTop (mkF m 86 #[.val (.ref tx), .val (.int t), s2] [])) _
        exact kt
      exact ⟨T4, _, t, s2, X4, e4, N4, pre5⟩
    | succ n ih =>
      intro T0 lc t s2 Xa ea Na q0 q1 hs
      have tn := own_nat (j := t) q0
      have tltn : t.toNatClampNeg < cs.length := by omega
      have hat_ := own_at hwl tltn
      have tneg : ¬ t < 0 := by rw [Int32.lt_iff_toInt_lt, e0_]; omega
      have tlt2 : t < Int32.ofNat cs.length := by rw [Int32.lt_iff_toInt_lt, hlen]; omega
      have tj : t = Int32.ofNat t.toNatClampNeg := Int32.toInt_inj.mp (by rw [own_ofn (by omega)]; omega)
      rcases hcd with hl_ | hw_
      · have preL : ∀ tg, Steps p.tables e below (T0.setTop (mkF m 9 #[.val (.ref tx), .val (.int t), s2] [])) tg → Steps p.tables e below (T0.setTop (mkF m 9 #[.val (.ref tx), .val (.int t), s2] [])) tg := fun _ k => k
        have hcd : StrChars.Road.CodA cs cd NB2 vs := Or.inl hl_
        have C_l : Fld Z h1 tx "java/lang/String" "coder" "B" (.int (0 : Int32)) := by rw [← hl_.1]; exact C_
        have hcd_l : StrChars.Road.CodA cs 0 NB2 vs := by rw [← hl_.1]; exact hcd
        obtain ⟨cq6, kq6, q6a, q6b, q6c⟩ := isOf hZ1 ea E_
        obtain ⟨_, _, ⟨T6, L6, k6, n6⟩, -, X6, ⟨Lc6, hQ6, l6, y6, z6⟩, st6⟩ := Xa.virtualBack hx (y := (⟨"java/lang/String", "length", "()I"⟩ : MethodName)) (z := (⟨"java/lang/String", "length", "()I"⟩ : MethodName)) hown1 (mvT hZ1 (hw _ (List.mem_of_getElem? (i := 49) rfl))) (mvT hZ1 (hw _ (List.mem_of_getElem? (i := 50) rfl))) (notFace_of_selects (args := #[]) (mvT hZ1 (hw _ (List.mem_of_getElem? (i := 52) rfl)))) (mvT hZ1 (hw _ (List.mem_of_getElem? (i := 52) rfl))) (mvT hZ1 (hw _ (List.mem_of_getElem? (i := 51) rfl))) (by decide) (StrChars.Road.lenW (W := 1) hZ1 hln (kI := 4) (hw _ (List.mem_of_getElem? (i := 13) rfl)) E_ V_ C_ K_ hcd hbd (S_c.ext Oz.2) hzc (by omega) (by decide) (by decide)) q6a q6c (g := (mkF m 11 #[.val (.ref tx), .val (.int t), s2] [(.ref tx), (.int t)])) rfl (by rw [hml]; rfl) (Steps.refl _) (argsL := []) (rest := [(.int t)]) (lenOf pd_15 rfl) rfl (by show 2 * 0 + _ ≤ _; exact Nat.le_of_eq rfl) (hb hby d8_11) (fun _ _ => ⟨rfl, ea, (by decide : 2 + 0 ≤ _), (by decide : 20 + 0 ≤ _)⟩)
        dsimp only [Pt.U, Pt.locs, Pt.cells, Pt.slots] at X6 l6 y6 z6 st6 hQ6
        subst l6 y6 z6
        obtain ⟨rfl, rfl, e6⟩ := hQ6
        have N6q : Fr n0 ([] : List Loc) := Fr.nil n0
        have N6 := Fr.app Na N6q
        obtain ⟨cq7, kq7, q7a, q7b, q7c⟩ := isOf hZ1 e6 E_
        obtain ⟨_, _, ⟨T7, L7, k7, n7⟩, -, X7, ⟨Lc7, hQ7, l7, y7, z7⟩, st7⟩ := X6.virtualBack hx (y := (⟨"java/lang/String", "charAt", "(I)C"⟩ : MethodName)) (z := (⟨"java/lang/String", "charAt", "(I)C"⟩ : MethodName)) hown1 (mvT hZ1 (hw _ (List.mem_of_getElem? (i := 89) rfl))) (mvT hZ1 (hw _ (List.mem_of_getElem? (i := 90) rfl))) (notFace_of_selects (args := #[]) (mvT hZ1 (hw _ (List.mem_of_getElem? (i := 92) rfl)))) (mvT hZ1 (hw _ (List.mem_of_getElem? (i := 92) rfl))) (mvT hZ1 (hw _ (List.mem_of_getElem? (i := 91) rfl))) (by decide) (StrChars.Road.chN (W := 0) hZ1 hchw (kI := 4) (hw _ (List.mem_of_getElem? (i := 13) rfl)) E_ V_ C_l K_ hcd_l hbd (S_c.ext Oz.2) hzc (S_f.ext Oz.2) rfm (by omega) (i := t.toNatClampNeg) tltn (j := t) tj (by decide) (by decide)) q7a q7c (g := (mkF m 19 #[.val (.ref tx), .val (.int t), s2] [(.int t), (.ref tx)])) rfl (by rw [hml]; rfl) (Steps.refl _) (argsL := [(.int t)]) (rest := []) (lenOf pd_16 rfl) rfl (by show 2 * 0 + _ ≤ _; exact Nat.le_of_eq rfl) (hb hby d8_19) (fun _ _ => ⟨rfl, e6, (by decide : 2 + 0 ≤ _), (by decide : 20 + 0 ≤ _)⟩)
        dsimp only [Pt.U, Pt.locs, Pt.cells, Pt.slots] at X7 l7 y7 z7 st7 hQ7
        subst l7 y7 z7
        obtain ⟨rfl, rfl, e7⟩ := hQ7
        have N7q : Fr n0 ([] : List Loc) := Fr.nil n0
        have N7 := Fr.app N6 N7q
        obtain ⟨_, _, ⟨T8, L8, k8, n8⟩, -, X8, ⟨Lc8, hQ8, l8, y8, z8⟩, st8⟩ := Jvm.LawKit.callS X7 hx (y := (⟨"java/lang/Character", "isHighSurrogate", "(C)Z"⟩ : MethodName)) hown1 (mvT hZ1 (hw _ (List.mem_of_getElem? (i := 110) rfl))) (mvT hZ1 (hw _ (List.mem_of_getElem? (i := 111) rfl))) (mvT hZ1 (hw _ (List.mem_of_getElem? (i := 112) rfl))) (mvT hZ1 (hw _ (List.mem_of_getElem? (i := 113) rfl))) (by decide) (backOf (W := 0) (rm23 l Z a0 hw [] (cs.getD t.toNatClampNeg 0) h1 n0 Zz hat_.2) hZ1 (hw _ (List.mem_of_getElem? (i := 113) rfl)) (hw _ (List.mem_of_getElem? (i := 112) rfl)) (by decide) (by decide)) (g := (mkF m 24 #[.val (.ref tx), .val (.int t), .val (.int (cs.getD t.toNatClampNeg 0))] [(.int (cs.getD t.toNatClampNeg 0))])) rfl (by rw [hml]; rfl) (argsL := [(.int (cs.getD t.toNatClampNeg 0))]) (rest := []) (lenOf pd_17 rfl) rfl (by show 2 * 0 + _ ≤ _; exact Nat.le_of_eq rfl) (hb hby d8_24) (fun _ _ => ⟨rfl, e7, (by decide : 2 + 0 ≤ _), (by decide : 20 + 0 ≤ _)⟩)
        dsimp only [Pt.U, Pt.locs, Pt.cells, Pt.slots] at X8 l8 y8 z8 st8 hQ8
        subst l8 y8 z8
        obtain ⟨rfl, N8q, e8⟩ := hQ8
        have N8 := Fr.app N7 N8q
        obtain ⟨_, _, ⟨T9, L9, k9, n9⟩, -, X9, ⟨Lc9, hQ9, l9, y9, z9⟩, st9⟩ := Jvm.LawKit.callS X8 hx (y := (⟨"java/lang/Character", "isSurrogate", "(C)Z"⟩ : MethodName)) hown1 (mvT hZ1 (hw _ (List.mem_of_getElem? (i := 115) rfl))) (mvT hZ1 (hw _ (List.mem_of_getElem? (i := 116) rfl))) (mvT hZ1 (hw _ (List.mem_of_getElem? (i := 112) rfl))) (mvT hZ1 (hw _ (List.mem_of_getElem? (i := 117) rfl))) (by decide) (backOf (W := 0) (rm24 l Z a0 hw [] (cs.getD t.toNatClampNeg 0) h1 n0 Zz hat_.2) hZ1 (hw _ (List.mem_of_getElem? (i := 117) rfl)) (hw _ (List.mem_of_getElem? (i := 112) rfl)) (by decide) (by decide)) (g := (mkF m 60 #[.val (.ref tx), .val (.int t), .val (.int (cs.getD t.toNatClampNeg 0))] [(.int (cs.getD t.toNatClampNeg 0))])) rfl (by rw [hml]; rfl) (argsL := [(.int (cs.getD t.toNatClampNeg 0))]) (rest := []) (lenOf pd_17 rfl) rfl (by show 2 * 0 + _ ≤ _; exact Nat.le_of_eq rfl) (hb hby d8_60) (fun _ _ => ⟨rfl, e8, (by decide : 2 + 0 ≤ _), (by decide : 20 + 0 ≤ _)⟩)
        dsimp only [Pt.U, Pt.locs, Pt.cells, Pt.slots] at X9 l9 y9 z9 st9 hQ9
        subst l9 y9 z9
        obtain ⟨rfl, N9q, e9⟩ := hQ9
        have N9 := Fr.app N8 N9q
        have pre10 : ∀ tq, Steps p.tables e below (T9.setTop (mkF m 9 #[.val (.ref tx), .val (.int (t + (1 : Int32))), .val (.int (cs.getD t.toNatClampNeg 0))] [])) tq → Steps p.tables e below (T0.setTop (mkF m 9 #[.val (.ref tx), .val (.int t), s2] [])) tq := by
          intro tq kt
          refine preL tq ?_
          show Steps p.tables e below (T0.setTop (mkF m 9 #[.val (.ref tx), .val (.int t), s2] [])) _
          refine XS.iloadN Xa.here hx rfl (hb hby d8_9) rfl ?_
          show Steps p.tables e below (T0.setTop (mkF m 10 #[.val (.ref tx), .val (.int t), s2] [(.int t)])) _
          refine XS.aloadN Xa.here hx rfl (hb hby d8_10) rfl rfl ?_
          show Steps p.tables e below (T0.setTop (mkF m 11 #[.val (.ref tx), .val (.int t), s2] [(.ref tx), (.int t)])) _
          refine st6.trans ?_
          show Steps p.tables e below (T6.setTop (mkF m 14 #[.val (.ref tx), .val (.int t), s2] [(.int (Int32.ofNat cs.length)), (.int t)])) _
          refine XS.icmpNo X6.here hx rfl (hb hby d8_14) rfl (tlt (tlt2 : t < (Int32.ofNat cs.length))).2.1 ?_
          show Steps p.tables e below (T6.setTop (mkF m 17 #[.val (.ref tx), .val (.int t), s2] [])) _
          refine XS.aloadN X6.here hx rfl (hb hby d8_17) rfl rfl ?_
          show Steps p.tables e below (T6.setTop (mkF m 18 #[.val (.ref tx), .val (.int t), s2] [(.ref tx)])) _
          refine XS.iloadN X6.here hx rfl (hb hby d8_18) rfl ?_
          show Steps p.tables e below (T6.setTop (mkF m 19 #[.val (.ref tx), .val (.int t), s2] [(.int t), (.ref tx)])) _
          refine st7.trans ?_
          show Steps p.tables e below (T7.setTop (mkF m 22 #[.val (.ref tx), .val (.int t), s2] [(.int (cs.getD t.toNatClampNeg 0))])) _
          refine XS.istoreN X7.here hx rfl (hb hby d8_22) rfl (l' := #[.val (.ref tx), .val (.int t), .val (.int (cs.getD t.toNatClampNeg 0))]) (hs _) ?_
          show Steps p.tables e below (T7.setTop (mkF m 23 #[.val (.ref tx), .val (.int t), .val (.int (cs.getD t.toNatClampNeg 0))] [])) _
          refine XS.iloadN X7.here hx rfl (hb hby d8_23) rfl ?_
          show Steps p.tables e below (T7.setTop (mkF m 24 #[.val (.ref tx), .val (.int t), .val (.int (cs.getD t.toNatClampNeg 0))] [(.int (cs.getD t.toNatClampNeg 0))])) _
          refine st8 _ ?_
          show Steps p.tables e below (T8.setTop (mkF m 27 #[.val (.ref tx), .val (.int t), .val (.int (cs.getD t.toNatClampNeg 0))] [(.int (0 : Int32))])) _
          refine XS.ifYes X8.here hx rfl (pc0 := 27) (pc' := 59) rfl (hb hby d8_27) rfl ((if0 _ _).trans (teq (rfl : (0 : Int32) = (0 : Int32))).1) (by decide) (by decide) ?_
          show Steps p.tables e below (T8.setTop (mkF m 59 #[.val (.ref tx), .val (.int t), .val (.int (cs.getD t.toNatClampNeg 0))] [])) _
          refine XS.iloadN X8.here hx rfl (hb hby d8_59) rfl ?_
          show Steps p.tables e below (T8.setTop (mkF m 60 #[.val (.ref tx), .val (.int t), .val (.int (cs.getD t.toNatClampNeg 0))] [(.int (cs.getD t.toNatClampNeg 0))])) _
          refine st9 _ ?_
          show Steps p.tables e below (T9.setTop (mkF m 63 #[.val (.ref tx), .val (.int t), .val (.int (cs.getD t.toNatClampNeg 0))] [(.int (0 : Int32))])) _
          refine XS.ifYes X9.here hx rfl (pc0 := 63) (pc' := 80) rfl (hb hby d8_63) rfl ((if0 _ _).trans (teq (rfl : (0 : Int32) = (0 : Int32))).1) (by decide) (by decide) ?_
          show Steps p.tables e below (T9.setTop (mkF m 80 #[.val (.ref tx), .val (.int t), .val (.int (cs.getD t.toNatClampNeg 0))] [])) _
          refine XS.iinc X9.here hx rfl (hb hby d8_80) rfl (l' := #[.val (.ref tx), .val (.int (t + (1 : Int32))), .val (.int (cs.getD t.toNatClampNeg 0))]) rfl ?_
          show Steps p.tables e below (T9.setTop (mkF m 83 #[.val (.ref tx), .val (.int (t + (1 : Int32))), .val (.int (cs.getD t.toNatClampNeg 0))] [])) _
          refine XS.goto X9.here hx rfl (pc0 := 83) (pc' := 9) rfl (hb hby d8_83) (by decide) (by decide) ?_
          show Steps p.tables e below (T9.setTop (mkF m 9 #[.val (.ref tx), .val (.int (t + (1 : Int32))), .val (.int (cs.getD t.toNatClampNeg 0))] [])) _
          exact kt
        have ht := own_inc (j := t) q0 (by omega)
        obtain ⟨Tz, lc1, t1, s2', y1, y2, y3, y4⟩ := ih _ _ (t + (1 : Int32)) (.val (.int (cs.getD t.toNatClampNeg 0))) X9 e9 N9 (by rw [ht]; omega) (by rw [ht]; omega) (fun _ => rfl)
        exact ⟨Tz, lc1, t1, s2', y1, y2, y3, fun tg k => pre10 _ (y4 tg k)⟩
      · have preL : ∀ tg, Steps p.tables e below (T0.setTop (mkF m 9 #[.val (.ref tx), .val (.int t), s2] [])) tg → Steps p.tables e below (T0.setTop (mkF m 9 #[.val (.ref tx), .val (.int t), s2] [])) tg := fun _ k => k
        have hcd : StrChars.Road.CodA cs cd NB2 vs := Or.inr hw_
        obtain ⟨w1, w2, w3, -⟩ := hw_
        have C_w : Fld Z h1 tx "java/lang/String" "coder" "B" (.int (1 : Int32)) := by rw [← w1]; exact C_
        have hN2 : NB2.toInt = 2 * (Int32.ofNat cs.length).toInt := by rw [w2, own_ofn (by omega), own_ofn (by omega)]; omega
        obtain ⟨gw, hgw⟩ : ∃ gq : Nat → Int32, gq = fun i => if i % 2 = 0 then StrChars.lo8 (cs.getD (i / 2) 0) else StrChars.hi8 (cs.getD (i / 2) 0) := ⟨_, rfl⟩
        have hgl : ∀ i : Nat, i < cs.length → gw (2 * i) = StrChars.lo8 (cs.getD i 0) := fun i _ => by rw [hgw]; show (if 2 * i % 2 = 0 then StrChars.lo8 (cs.getD (2 * i / 2) 0) else _) = _; rw [if_pos (by omega), show 2 * i / 2 = i from by omega]
        have hgh : ∀ i : Nat, i < cs.length → gw (2 * i + 1) = StrChars.hi8 (cs.getD i 0) := fun i _ => by rw [hgw]; show (if (2 * i + 1) % 2 = 0 then _ else StrChars.hi8 (cs.getD ((2 * i + 1) / 2) 0)) = _; rw [if_neg (by omega), show (2 * i + 1) / 2 = i from by omega]
        have Pw : PA Z h1 tv kb .byte NB2 gw := PA.of K_ (fun j hj => by rw [w3]; exact own_wide cs gw hN2 hlen (fun i hi => ⟨hgl i (by omega), hgh i (by omega)⟩) j hj)
        obtain ⟨cq11, kq11, q11a, q11b, q11c⟩ := isOf hZ1 ea E_
        obtain ⟨_, _, ⟨T11, L11, k11, n11⟩, -, X11, ⟨Lc11, hQ11, l11, y11, z11⟩, st11⟩ := Xa.virtualBack hx (y := (⟨"java/lang/String", "length", "()I"⟩ : MethodName)) (z := (⟨"java/lang/String", "length", "()I"⟩ : MethodName)) hown1 (mvT hZ1 (hw _ (List.mem_of_getElem? (i := 49) rfl))) (mvT hZ1 (hw _ (List.mem_of_getElem? (i := 50) rfl))) (notFace_of_selects (args := #[]) (mvT hZ1 (hw _ (List.mem_of_getElem? (i := 52) rfl)))) (mvT hZ1 (hw _ (List.mem_of_getElem? (i := 52) rfl))) (mvT hZ1 (hw _ (List.mem_of_getElem? (i := 51) rfl))) (by decide) (StrChars.Road.lenW (W := 1) hZ1 hln (kI := 4) (hw _ (List.mem_of_getElem? (i := 13) rfl)) E_ V_ C_ K_ hcd hbd (S_c.ext Oz.2) hzc (by omega) (by decide) (by decide)) q11a q11c (g := (mkF m 11 #[.val (.ref tx), .val (.int t), s2] [(.ref tx), (.int t)])) rfl (by rw [hml]; rfl) (Steps.refl _) (argsL := []) (rest := [(.int t)]) (lenOf pd_15 rfl) rfl (by show 2 * 0 + _ ≤ _; exact Nat.le_of_eq rfl) (hb hby d8_11) (fun _ _ => ⟨rfl, ea, (by decide : 2 + 0 ≤ _), (by decide : 20 + 0 ≤ _)⟩)
        dsimp only [Pt.U, Pt.locs, Pt.cells, Pt.slots] at X11 l11 y11 z11 st11 hQ11
        subst l11 y11 z11
        obtain ⟨rfl, rfl, e11⟩ := hQ11
        have N11q : Fr n0 ([] : List Loc) := Fr.nil n0
        have N11 := Fr.app Na N11q
        obtain ⟨cq12, kq12, q12a, q12b, q12c⟩ := isOf hZ1 e11 E_
        obtain ⟨_, _, ⟨T12, L12, k12, n12⟩, -, X12, ⟨Lc12, hQ12, l12, y12, z12⟩, st12⟩ := X11.virtualBack hx (y := (⟨"java/lang/String", "charAt", "(I)C"⟩ : MethodName)) (z := (⟨"java/lang/String", "charAt", "(I)C"⟩ : MethodName)) hown1 (mvT hZ1 (hw _ (List.mem_of_getElem? (i := 89) rfl))) (mvT hZ1 (hw _ (List.mem_of_getElem? (i := 90) rfl))) (notFace_of_selects (args := #[]) (mvT hZ1 (hw _ (List.mem_of_getElem? (i := 92) rfl)))) (mvT hZ1 (hw _ (List.mem_of_getElem? (i := 92) rfl))) (mvT hZ1 (hw _ (List.mem_of_getElem? (i := 91) rfl))) (by decide) (backOf (W := 0) (rm18 l Z a0 hw [] tx t tv (Int32.ofNat cs.length) kb NB2 gw fm (cs.getD t.toNatClampNeg 0) zc h1 n0 Zz E_ V_ C_w (S_c.ext Oz.2) hzc Pw hN2 (S_f.ext Oz.2) rfm (S_ad.ext Oz.2) (S_hi.ext Oz.2) (S_lo.ext Oz.2) tneg tlt2 (by rw [hlen]; omega) (own_well hat_).1 (own_well hat_).2 (fun i hi => by rw [show i = 2 * t.toNatClampNeg from by omega]; exact hgl _ tltn) (fun i hi => by rw [show i = 2 * t.toNatClampNeg + 1 from by omega]; exact hgh _ tltn)) hZ1 (hw _ (List.mem_of_getElem? (i := 93) rfl)) (hw _ (List.mem_of_getElem? (i := 14) rfl)) (by decide) (by decide)) q12a q12c (g := (mkF m 19 #[.val (.ref tx), .val (.int t), s2] [(.int t), (.ref tx)])) rfl (by rw [hml]; rfl) (Steps.refl _) (argsL := [(.int t)]) (rest := []) (lenOf pd_16 rfl) rfl (by show 2 * 0 + _ ≤ _; exact Nat.le_of_eq rfl) (hb hby d8_19) (fun _ _ => ⟨rfl, e11, (by decide : 2 + 0 ≤ _), (by decide : 20 + 0 ≤ _)⟩)
        dsimp only [Pt.U, Pt.locs, Pt.cells, Pt.slots] at X12 l12 y12 z12 st12 hQ12
        subst l12 y12 z12
        obtain ⟨rfl, N12q, e12⟩ := hQ12
        have N12 := Fr.app N11 N12q
        obtain ⟨_, _, ⟨T13, L13, k13, n13⟩, -, X13, ⟨Lc13, hQ13, l13, y13, z13⟩, st13⟩ := Jvm.LawKit.callS X12 hx (y := (⟨"java/lang/Character", "isHighSurrogate", "(C)Z"⟩ : MethodName)) hown1 (mvT hZ1 (hw _ (List.mem_of_getElem? (i := 110) rfl))) (mvT hZ1 (hw _ (List.mem_of_getElem? (i := 111) rfl))) (mvT hZ1 (hw _ (List.mem_of_getElem? (i := 112) rfl))) (mvT hZ1 (hw _ (List.mem_of_getElem? (i := 113) rfl))) (by decide) (backOf (W := 0) (rm23 l Z a0 hw [] (cs.getD t.toNatClampNeg 0) h1 n0 Zz hat_.2) hZ1 (hw _ (List.mem_of_getElem? (i := 113) rfl)) (hw _ (List.mem_of_getElem? (i := 112) rfl)) (by decide) (by decide)) (g := (mkF m 24 #[.val (.ref tx), .val (.int t), .val (.int (cs.getD t.toNatClampNeg 0))] [(.int (cs.getD t.toNatClampNeg 0))])) rfl (by rw [hml]; rfl) (argsL := [(.int (cs.getD t.toNatClampNeg 0))]) (rest := []) (lenOf pd_17 rfl) rfl (by show 2 * 0 + _ ≤ _; exact Nat.le_of_eq rfl) (hb hby d8_24) (fun _ _ => ⟨rfl, e12, (by decide : 2 + 0 ≤ _), (by decide : 20 + 0 ≤ _)⟩)
        dsimp only [Pt.U, Pt.locs, Pt.cells, Pt.slots] at X13 l13 y13 z13 st13 hQ13
        subst l13 y13 z13
        obtain ⟨rfl, N13q, e13⟩ := hQ13
        have N13 := Fr.app N12 N13q
        obtain ⟨_, _, ⟨T14, L14, k14, n14⟩, -, X14, ⟨Lc14, hQ14, l14, y14, z14⟩, st14⟩ := Jvm.LawKit.callS X13 hx (y := (⟨"java/lang/Character", "isSurrogate", "(C)Z"⟩ : MethodName)) hown1 (mvT hZ1 (hw _ (List.mem_of_getElem? (i := 115) rfl))) (mvT hZ1 (hw _ (List.mem_of_getElem? (i := 116) rfl))) (mvT hZ1 (hw _ (List.mem_of_getElem? (i := 112) rfl))) (mvT hZ1 (hw _ (List.mem_of_getElem? (i := 117) rfl))) (by decide) (backOf (W := 0) (rm24 l Z a0 hw [] (cs.getD t.toNatClampNeg 0) h1 n0 Zz hat_.2) hZ1 (hw _ (List.mem_of_getElem? (i := 117) rfl)) (hw _ (List.mem_of_getElem? (i := 112) rfl)) (by decide) (by decide)) (g := (mkF m 60 #[.val (.ref tx), .val (.int t), .val (.int (cs.getD t.toNatClampNeg 0))] [(.int (cs.getD t.toNatClampNeg 0))])) rfl (by rw [hml]; rfl) (argsL := [(.int (cs.getD t.toNatClampNeg 0))]) (rest := []) (lenOf pd_17 rfl) rfl (by show 2 * 0 + _ ≤ _; exact Nat.le_of_eq rfl) (hb hby d8_60) (fun _ _ => ⟨rfl, e13, (by decide : 2 + 0 ≤ _), (by decide : 20 + 0 ≤ _)⟩)
        dsimp only [Pt.U, Pt.locs, Pt.cells, Pt.slots] at X14 l14 y14 z14 st14 hQ14
        subst l14 y14 z14
        obtain ⟨rfl, N14q, e14⟩ := hQ14
        have N14 := Fr.app N13 N14q
        have pre15 : ∀ tq, Steps p.tables e below (T14.setTop (mkF m 9 #[.val (.ref tx), .val (.int (t + (1 : Int32))), .val (.int (cs.getD t.toNatClampNeg 0))] [])) tq → Steps p.tables e below (T0.setTop (mkF m 9 #[.val (.ref tx), .val (.int t), s2] [])) tq := by
          intro tq kt
          refine preL tq ?_
          show Steps p.tables e below (T0.setTop (mkF m 9 #[.val (.ref tx), .val (.int t), s2] [])) _
          refine XS.iloadN Xa.here hx rfl (hb hby d8_9) rfl ?_
          show Steps p.tables e below (T0.setTop (mkF m 10 #[.val (.ref tx), .val (.int t), s2] [(.int t)])) _
          refine XS.aloadN Xa.here hx rfl (hb hby d8_10) rfl rfl ?_
          show Steps p.tables e below (T0.setTop (mkF m 11 #[.val (.ref tx), .val (.int t), s2] [(.ref tx), (.int t)])) _
          refine st11.trans ?_
          show Steps p.tables e below (T11.setTop (mkF m 14 #[.val (.ref tx), .val (.int t), s2] [(.int (Int32.ofNat cs.length)), (.int t)])) _
          refine XS.icmpNo X11.here hx rfl (hb hby d8_14) rfl (tlt (tlt2 : t < (Int32.ofNat cs.length))).2.1 ?_
          show Steps p.tables e below (T11.setTop (mkF m 17 #[.val (.ref tx), .val (.int t), s2] [])) _
          refine XS.aloadN X11.here hx rfl (hb hby d8_17) rfl rfl ?_
          show Steps p.tables e below (T11.setTop (mkF m 18 #[.val (.ref tx), .val (.int t), s2] [(.ref tx)])) _
          refine XS.iloadN X11.here hx rfl (hb hby d8_18) rfl ?_
          show Steps p.tables e below (T11.setTop (mkF m 19 #[.val (.ref tx), .val (.int t), s2] [(.int t), (.ref tx)])) _
          refine st12.trans ?_
          show Steps p.tables e below (T12.setTop (mkF m 22 #[.val (.ref tx), .val (.int t), s2] [(.int (cs.getD t.toNatClampNeg 0))])) _
          refine XS.istoreN X12.here hx rfl (hb hby d8_22) rfl (l' := #[.val (.ref tx), .val (.int t), .val (.int (cs.getD t.toNatClampNeg 0))]) (hs _) ?_
          show Steps p.tables e below (T12.setTop (mkF m 23 #[.val (.ref tx), .val (.int t), .val (.int (cs.getD t.toNatClampNeg 0))] [])) _
          refine XS.iloadN X12.here hx rfl (hb hby d8_23) rfl ?_
          show Steps p.tables e below (T12.setTop (mkF m 24 #[.val (.ref tx), .val (.int t), .val (.int (cs.getD t.toNatClampNeg 0))] [(.int (cs.getD t.toNatClampNeg 0))])) _
          refine st13 _ ?_
          show Steps p.tables e below (T13.setTop (mkF m 27 #[.val (.ref tx), .val (.int t), .val (.int (cs.getD t.toNatClampNeg 0))] [(.int (0 : Int32))])) _
          refine XS.ifYes X13.here hx rfl (pc0 := 27) (pc' := 59) rfl (hb hby d8_27) rfl ((if0 _ _).trans (teq (rfl : (0 : Int32) = (0 : Int32))).1) (by decide) (by decide) ?_
          show Steps p.tables e below (T13.setTop (mkF m 59 #[.val (.ref tx), .val (.int t), .val (.int (cs.getD t.toNatClampNeg 0))] [])) _
          refine XS.iloadN X13.here hx rfl (hb hby d8_59) rfl ?_
          show Steps p.tables e below (T13.setTop (mkF m 60 #[.val (.ref tx), .val (.int t), .val (.int (cs.getD t.toNatClampNeg 0))] [(.int (cs.getD t.toNatClampNeg 0))])) _
          refine st14 _ ?_
          show Steps p.tables e below (T14.setTop (mkF m 63 #[.val (.ref tx), .val (.int t), .val (.int (cs.getD t.toNatClampNeg 0))] [(.int (0 : Int32))])) _
          refine XS.ifYes X14.here hx rfl (pc0 := 63) (pc' := 80) rfl (hb hby d8_63) rfl ((if0 _ _).trans (teq (rfl : (0 : Int32) = (0 : Int32))).1) (by decide) (by decide) ?_
          show Steps p.tables e below (T14.setTop (mkF m 80 #[.val (.ref tx), .val (.int t), .val (.int (cs.getD t.toNatClampNeg 0))] [])) _
          refine XS.iinc X14.here hx rfl (hb hby d8_80) rfl (l' := #[.val (.ref tx), .val (.int (t + (1 : Int32))), .val (.int (cs.getD t.toNatClampNeg 0))]) rfl ?_
          show Steps p.tables e below (T14.setTop (mkF m 83 #[.val (.ref tx), .val (.int (t + (1 : Int32))), .val (.int (cs.getD t.toNatClampNeg 0))] [])) _
          refine XS.goto X14.here hx rfl (pc0 := 83) (pc' := 9) rfl (hb hby d8_83) (by decide) (by decide) ?_
          show Steps p.tables e below (T14.setTop (mkF m 9 #[.val (.ref tx), .val (.int (t + (1 : Int32))), .val (.int (cs.getD t.toNatClampNeg 0))] [])) _
          exact kt
        have ht := own_inc (j := t) q0 (by omega)
        obtain ⟨Tz, lc1, t1, s2', y1, y2, y3, y4⟩ := ih _ _ (t + (1 : Int32)) (.val (.int (cs.getD t.toNatClampNeg 0))) X14 e14 N14 (by rw [ht]; omega) (by rw [ht]; omega) (fun _ => rfl)
        exact ⟨Tz, lc1, t1, s2', y1, y2, y3, fun tg k => pre15 _ (y4 tg k)⟩
  obtain ⟨T16, lc16, t16, s2x, X16, e16, N16, st16⟩ := loop cs.length _ _ (0 : Int32) .unset X2 e2 N2 (by decide) (by rw [e0_]; omega) (fun _ => rfl)
  obtain ⟨fs, hr, hrun, hended, hend⟩ := Stand.leaveW (s := s) (vm₁ := T1.vm) X16 hS1 (by rw [e16]; exact hk1) (v := some (.ref tx)) (fun h => by rw [Bd.returns] at h; cases h)
  have hCfin : CHr Z EL0 s.vm s.heap (T16.setFrames fs).vm (T16.setFrames fs).heap := by
    show CHr Z EL0 s.vm s.heap T16.vm T16.heap
    rw [hh, e16]
    exact CH1.trans (CHv.at X16 hZ1 hEL CH1.1)
  refine ⟨_, _, pre3 _ ?_, hrun, hended, _, _, rfl, ?_, hCfin, hend.1, hend.2.1, hend.2.2.1, hend.2.2.2.mono (by decide) (by decide)⟩
  · refine st16 _ ?_
    show Steps p.tables e below (T16.setTop (mkF m 86 #[.val (.ref tx), .val (.int t16), s2x] [])) _
    refine XS.aloadN X16.here hx rfl (hb hby d8_86) rfl rfl ?_
    show Steps p.tables e below (T16.setTop (mkF m 87 #[.val (.ref tx), .val (.int t16), s2x] [(.ref tx)])) _
    exact retOut X16 hx Bd.returns rfl (Or.inr (Or.inr (Or.inr (Or.inr ⟨rfl, rfl, rfl⟩)))) (hb hby d8_87) hr
  · show Q8 Z tx tv kb cd NB2 vs cs zc fm h0 n0 _ T16.heap _
    rw [e16]
    exact ⟨rfl, N16, Kc1⟩
theorem d7_0 : decode prog_134_method_2_code 0 = .ok (.aload_n 0, 1) := by decide +kernel
theorem d7_1 : decode prog_134_method_2_code 1 = .ok (.invokespecial 7, 3) := by decide +kernel
theorem d7_4 : decode prog_134_method_2_code 4 = .ok (.aload_n 0, 1) := by decide +kernel
theorem d7_5 : decode prog_134_method_2_code 5 = .ok (.iload_n 2, 1) := by decide +kernel
theorem d7_6 : decode prog_134_method_2_code 6 = .ok (.ifCond .eq 10, 3) := by decide +kernel
theorem d7_9 : decode prog_134_method_2_code 9 = .ok (.aload_n 1, 1) := by decide +kernel
theorem d7_10 : decode prog_134_method_2_code 10 = .ok (.invokestatic 12, 3) := by decide +kernel
theorem pd_18 : parseMethodDescriptor "(Ljava/lang/String;)Ljava/lang/String;" = some ⟨[(.object "java/lang/String")], some (.object "java/lang/String")⟩ := by decide +kernel
theorem d7_13 : decode prog_134_method_2_code 13 = .ok (.goto 4, 3) := by decide +kernel
theorem d7_17 : decode prog_134_method_2_code 17 = .ok (.putfield 16, 3) := by decide +kernel
theorem d7_20 : decode prog_134_method_2_code 20 = .ok (.return_, 1) := by decide +kernel
theorem ef_rm7 (m : MethodId) (x0 : Addr) (x1 : Addr) : entryFrame m #[(.ref x0), (.ref x1), (.int (1 : Int32))] 3 = mkF m 0 #[.val (.ref x0), .val (.ref x1), .val (.int (1 : Int32))] [] := by first | (simp [entryFrame, mkF, argsToLocals, Value.category]; done) | rfl
def Q7 (Z : State) (ob : Addr) (tx : Addr) (cs : List Int32) (zc : Int32) (fm : Value) (h0 : Heap) (n0 : Nat) (v : Option Value) (h : Heap) (L : List Loc) : Prop := v = none ∧ Fr n0 L ∧ Keep h0 h [ob] ∧ Exa Z h ob "com/example/attestrail/attestrail/json/JsonString" ∧ Fld Z h ob "com/example/attestrail/attestrail/json/JsonString" "value" "Ljava/lang/String;" (.ref tx) ∧ STR Z h tx cs
set_option maxRecDepth 65536 in
set_option maxHeartbeats 40000000 in
theorem rm7 (l : Launch) (Z : State) (a0 : Array Value) (hw : ∀ d ∈ tables_1, d.before a0 Z = true) (ws : List Jvm.Cond) (ob : Addr) (tx : Addr) (cs : List Int32) (zc : Int32) (fm : Value) (h0 : Heap) (n0 : Nat) (Z0 : n0 ≤ h0.size) (O : Old Z n0 h0) (E_ob : Exa Z h0 ob "com/example/attestrail/attestrail/json/JsonString") (g_ob : n0 ≤ ob) (F_v : Fld Z h0 ob "com/example/attestrail/attestrail/json/JsonString" "value" "Ljava/lang/String;" .null) (S_ : STR Z h0 tx cs) (hcl : cs.length ≤ 3) (hwl : ∀ c ∈ cs, ¬ c < 0 ∧ c < (55296 : Int32)) (S_ad : Sta Z Z.heap "java/lang/StringUTF16" "$assertionsDisabled" "Z" (.int (1 : Int32))) (S_hi : Sta Z Z.heap "java/lang/StringUTF16" "HI_BYTE_SHIFT" "I" (.int (0 : Int32))) (S_lo : Sta Z Z.heap "java/lang/StringUTF16" "LO_BYTE_SHIFT" "I" (.int (8 : Int32))) (S_c : Sta Z Z.heap "java/lang/String" "COMPACT_STRINGS" "Z" (.int zc)) (hzc : ¬ zc = (0 : Int32)) (S_f : Sta Z Z.heap "jdk/internal/util/Preconditions" "SIOOBE_FORMATTER" "Ljava/util/function/BiFunction;" fm) (rfm : fm.isRef = true) :
    MetFree l (⟨"com/example/attestrail/attestrail/json/JsonString", "<init>", "(Ljava/lang/String;Z)V"⟩ : MethodName) (head1 (Jvm.Cond.code (⟨"com/example/attestrail/attestrail/json/JsonString", "<init>", "(Ljava/lang/String;Z)V"⟩ : MethodName) prog_134_method_2_code 3 none :: ws) ({ frames := 6, cells := 2, slots := 20, locals := 81 } : Room)) (fun a U => a = #[(.ref ob), (.ref tx), (.int (1 : Int32))] ∧ Z.Warmed39 U.vm ∧ U.heap = h0 ∧ CHv Z EL0 U.vm h0) (fun _ _ _ _ _ => True) (fun _ U o U' => ∃ v L, o = .returned v ∧ Q7 Z ob tx cs zc fm h0 n0 v U'.heap L ∧ CHr Z EL0 U.vm U.heap U'.vm U'.heap ∧ ReturnedEndW U o U' L ({ frames := 6, cells := 2, slots := 20, locals := 81 } : Room).cells ({ frames := 6, cells := 2, slots := 20, locals := 81 } : Room).slots) := by
  refine MetFree.of_bodySF (plainFor_of_name pn_6) hisR ?_
  intro p e s m args below meth c s₁ Bd hml0 hP hK
  obtain ⟨rfl, hZ, hh, hCH⟩ := hP
  have hx := Bd.exec
  have hby := Bd.bytes
  have hml : c.maxLocals = 3 := hml0
  have hown : s.vm.findClass "com/example/attestrail/attestrail/json/JsonString" = some m.cls := findClass_of_methodNamed Bd.named
  have hnm := (name_of_methodNamed Bd.named Bd.method).1
  have X0 : Stand p l e ({ frames := 6, cells := 2, slots := 20, locals := 81 } : Room) (s.setVm s.vm) m #[(.ref ob), (.ref tx), (.int (1 : Int32))] below meth c s₁ [] 0 0 := Stand.of_body Bd
  have e0 : s₁.heap = h0 := by rw [← hh, Bd.state]; rfl
  have N0 := Fr.nil n0
  have pre0 : ∀ t, Steps p.tables e below (s₁.setTop (mkF m 0 #[.val (.ref ob), .val (.ref tx), .val (.int (1 : Int32))] [])) t → Steps p.tables e below (s₁.setTop (entryFrame m #[(.ref ob), (.ref tx), (.int (1 : Int32))] 3)) t := fun t k => castTop (ef_rm7 m ob tx) k
  have hEL : EW Z a0 EL0 := own_EW hw
  have CH0 : CHr Z EL0 s.vm h0 s.vm h0 := CHr.refl hCH
  have hS0 : s.Since s.vm 0 := (State.WarmedH.refl s).since 0
  have hwS : ∀ a ∈ Bundle.stringAtoms, a.before a0 Z = true := fun d hd => hw d ((by decide +kernel : ∀ d ∈ Bundle.stringAtoms, d ∈ tables_1) d hd)
  obtain ⟨T1, X1, e1, st1⟩ := initO X0 hx hZ hown (hw _ (List.mem_of_getElem? (i := 40) rfl)) (hw _ (List.mem_of_getElem? (i := 24) rfl)) (hw _ (List.mem_of_getElem? (i := 25) rfl)) e0 (g := (mkF m 1 #[.val (.ref ob), .val (.ref tx), .val (.int (1 : Int32))] [(.ref ob)])) rfl (by rw [hml]; rfl) rfl (hb hby d7_1) (by decide) (W := 0) (by show 2 * 0 + _ ≤ _; exact Nat.le_of_eq rfl) (by decide)
  obtain ⟨tv, kb, cd, NB2, vs, se1, se2, se3, se4, se5⟩ := (id S_)
  obtain ⟨_, _, ⟨T2, L2, k2, n2⟩, -, X2, hSc2, hgc2, ⟨Lc2, hQ2, l2, y2, z2, hC2⟩, st2⟩ := callSS X1 hx (y := (⟨"com/example/attestrail/attestrail/json/JsonString", "requireWellFormed", "(Ljava/lang/String;)Ljava/lang/String;"⟩ : MethodName)) hown (mvT hZ (hw _ (List.mem_of_getElem? (i := 41) rfl))) (mvT hZ (hw _ (List.mem_of_getElem? (i := 42) rfl))) (mvT hZ (hw _ (List.mem_of_getElem? (i := 8) rfl))) (mvT hZ (hw _ (List.mem_of_getElem? (i := 43) rfl))) (by decide) (backOfSH (W := 1) (rm8 l Z a0 hw [] tx tv kb cd NB2 vs cs zc fm h0 n0 Z0 O se1 se2 se3 se4 se5 hcl hwl S_ad S_hi S_lo S_c hzc S_f rfm) hZ (hw _ (List.mem_of_getElem? (i := 43) rfl)) (hw _ (List.mem_of_getElem? (i := 8) rfl)) (by decide) (by decide) hEL CH0.1) (g := (mkF m 10 #[.val (.ref ob), .val (.ref tx), .val (.int (1 : Int32))] [(.ref tx), (.ref ob)])) rfl (by rw [hml]; rfl) (argsL := [(.ref tx)]) (rest := [(.ref ob)]) (lenOf pd_18 rfl) rfl (by show 2 * 0 + _ ≤ _; exact Nat.le_of_eq rfl) (hb hby d7_10) (fun _ _ => ⟨rfl, e1, (by decide : 0 + 2 ≤ _), (by decide : 0 + 20 ≤ _)⟩)
  dsimp only [Pt.U, Pt.locs, Pt.cells, Pt.slots] at X2 l2 y2 z2 st2 hQ2 hSc2 hgc2 hC2
  subst l2 y2 z2
  obtain ⟨rfl, N2q, K2⟩ := hQ2
  have N2 := Fr.app N0 N2q
  obtain ⟨Xr2, hS2, hZ2, hown2⟩ := rebS (n1 := T1.heap.size) hS0 (by rw [e1]; exact (Nat.zero_le _)) X2 hSc2 hgc2 hZ hown
  have cq2 := hC2
  have CH2 := CH0.trans cq2
  have Kc2 : Keep h0 T2.heap [ob] := (Keep.refl h0 [ob]).trans K2 all0
  have Oc2 := O.keep K2 all0
  obtain ⟨T3, h3, X3, e3, W3, st3⟩ := putF Xr2 hx hZ2 hown2 (host := "") (Or.inl (hw _ (List.mem_of_getElem? (i := 60) rfl))) Via.refl rfl (F_v.keep K2 nin0) (E_ob.keep K2) (Or.inr ⟨(hw _ (List.mem_of_getElem? (i := 61) rfl)), rfl, hnm⟩) (hw _ (List.mem_of_getElem? (i := 7) rfl)) (ty := (.object "java/lang/String")) (by decide) rfl rfl (g := (mkF m 17 #[.val (.ref ob), .val (.ref tx), .val (.int (1 : Int32))] [(.ref tx), (.ref ob)])) rfl rfl (hb hby d7_17)
  have cq3 := CHr.wr W3 (Safe.exa (hZ2).alike (E_ob.keep K2) (by decide) (by decide)) CH2.1
  have CH3 := CH2.trans cq3
  have Kc3 : Keep h0 h3 [ob] := Kc2.wr W3 (Or.inl (List.mem_of_getElem? (i := 0) rfl))
  have Oc3 := Oc2.wr W3 g_ob
  have N3 := Fr.snoc X3 N2 g_ob
  have Fw3 : Fld Z h3 ob "com/example/attestrail/attestrail/json/JsonString" "value" "Ljava/lang/String;" (.ref tx) := (F_v.keep K2 nin0).same W3
  obtain ⟨fs, hr, hrun, hended, hend⟩ := Stand.leaveW (s := s) (vm₁ := T2.vm) X3 hS2 (by rw [e3]; exact (Nat.le_trans (Nat.le_refl _) (Keep.of_wr W3).1)) (v := none) (fun _ => rfl)
  have hCfin : CHr Z EL0 s.vm s.heap (T3.setFrames fs).vm (T3.setFrames fs).heap := by
    show CHr Z EL0 s.vm s.heap T3.vm T3.heap
    rw [hh, e3]
    exact CH3.trans (CHv.at X3 hZ2 hEL CH3.1)
  refine ⟨_, _, pre0 _ ?_, hrun, hended, _, _, rfl, ?_, hCfin, hend.1, hend.2.1, hend.2.2.1, hend.2.2.2.mono (by decide) (by decide)⟩
  · show Steps p.tables e below (s₁.setTop (mkF m 0 #[.val (.ref ob), .val (.ref tx), .val (.int (1 : Int32))] [])) _
    refine XS.aloadN X0.here hx rfl (hb hby d7_0) rfl rfl ?_
    show Steps p.tables e below (s₁.setTop (mkF m 1 #[.val (.ref ob), .val (.ref tx), .val (.int (1 : Int32))] [(.ref ob)])) _
    refine st1 _ ?_
    show Steps p.tables e below (T1.setTop (mkF m 4 #[.val (.ref ob), .val (.ref tx), .val (.int (1 : Int32))] [])) _
    refine XS.aloadN X1.here hx rfl (hb hby d7_4) rfl rfl ?_
    show Steps p.tables e below (T1.setTop (mkF m 5 #[.val (.ref ob), .val (.ref tx), .val (.int (1 : Int32))] [(.ref ob)])) _
    refine XS.iloadN X1.here hx rfl (hb hby d7_5) rfl ?_
    show Steps p.tables e below (T1.setTop (mkF m 6 #[.val (.ref ob), .val (.ref tx), .val (.int (1 : Int32))] [(.int (1 : Int32)), (.ref ob)])) _
    refine XS.ifNo X1.here hx rfl (hb hby d7_6) rfl ((if0 _ _).trans (feq (by decide : ¬ ((1 : Int32) = (0 : Int32)))).1) ?_
    show Steps p.tables e below (T1.setTop (mkF m 9 #[.val (.ref ob), .val (.ref tx), .val (.int (1 : Int32))] [(.ref ob)])) _
    refine XS.aloadN X1.here hx rfl (hb hby d7_9) rfl rfl ?_
    show Steps p.tables e below (T1.setTop (mkF m 10 #[.val (.ref ob), .val (.ref tx), .val (.int (1 : Int32))] [(.ref tx), (.ref ob)])) _
    refine st2.trans ?_
    show Steps p.tables e below (T2.setTop (mkF m 13 #[.val (.ref ob), .val (.ref tx), .val (.int (1 : Int32))] [(.ref tx), (.ref ob)])) _
    refine XS.goto Xr2.here hx rfl (pc0 := 13) (pc' := 17) rfl (hb hby d7_13) (by decide) (by decide) ?_
    show Steps p.tables e below (T2.setTop (mkF m 17 #[.val (.ref ob), .val (.ref tx), .val (.int (1 : Int32))] [(.ref tx), (.ref ob)])) _
    refine st3 _ ?_
    show Steps p.tables e below (T3.setTop (mkF m 20 #[.val (.ref ob), .val (.ref tx), .val (.int (1 : Int32))] [])) _
    exact X3.returnOut hx Bd.returns (hb hby d7_20) hr
  · show Q7 Z ob tx cs zc fm h0 n0 _ T3.heap _
    rw [e3]
    exact ⟨rfl, N3, Kc3, ((E_ob.keep K2).wr W3), Fw3, ((S_.keep0 K2).wr W3 (E_ob.keep K2) (hw _ (List.mem_of_getElem? (i := 7) rfl)))⟩
theorem d6_0 : decode prog_134_method_1_code 0 = .ok (.aload_n 0, 1) := by decide +kernel
theorem d6_1 : decode prog_134_method_1_code 1 = .ok (.aload_n 1, 1) := by decide +kernel
theorem d6_2 : decode prog_134_method_1_code 2 = .ok (.iconst 1, 1) := by decide +kernel
theorem d6_3 : decode prog_134_method_1_code 3 = .ok (.invokespecial 1, 3) := by decide +kernel
theorem pd_19 : parseMethodDescriptor "(Ljava/lang/String;Z)V" = some ⟨[(.object "java/lang/String"), .boolean], none⟩ := by decide +kernel
theorem d6_6 : decode prog_134_method_1_code 6 = .ok (.return_, 1) := by decide +kernel
theorem ef_rm6 (m : MethodId) (x0 : Addr) (x1 : Addr) : entryFrame m #[(.ref x0), (.ref x1)] 2 = mkF m 0 #[.val (.ref x0), .val (.ref x1)] [] := by first | (simp [entryFrame, mkF, argsToLocals, Value.category]; done) | rfl
def Q6 (Z : State) (ob : Addr) (tx : Addr) (cs : List Int32) (zc : Int32) (fm : Value) (h0 : Heap) (n0 : Nat) (v : Option Value) (h : Heap) (L : List Loc) : Prop := v = none ∧ Fr n0 L ∧ Keep h0 h [ob] ∧ Exa Z h ob "com/example/attestrail/attestrail/json/JsonString" ∧ Fld Z h ob "com/example/attestrail/attestrail/json/JsonString" "value" "Ljava/lang/String;" (.ref tx) ∧ STR Z h tx cs
set_option maxRecDepth 65536 in
set_option maxHeartbeats 40000000 in
theorem rm6 (l : Launch) (Z : State) (a0 : Array Value) (hw : ∀ d ∈ tables_1, d.before a0 Z = true) (ws : List Jvm.Cond) (ob : Addr) (tx : Addr) (cs : List Int32) (zc : Int32) (fm : Value) (h0 : Heap) (n0 : Nat) (Z0 : n0 ≤ h0.size) (O : Old Z n0 h0) (E_ob : Exa Z h0 ob "com/example/attestrail/attestrail/json/JsonString") (g_ob : n0 ≤ ob) (F_v : Fld Z h0 ob "com/example/attestrail/attestrail/json/JsonString" "value" "Ljava/lang/String;" .null) (S_ : STR Z h0 tx cs) (hcl : cs.length ≤ 3) (hwl : ∀ c ∈ cs, ¬ c < 0 ∧ c < (55296 : Int32)) (S_ad : Sta Z Z.heap "java/lang/StringUTF16" "$assertionsDisabled" "Z" (.int (1 : Int32))) (S_hi : Sta Z Z.heap "java/lang/StringUTF16" "HI_BYTE_SHIFT" "I" (.int (0 : Int32))) (S_lo : Sta Z Z.heap "java/lang/StringUTF16" "LO_BYTE_SHIFT" "I" (.int (8 : Int32))) (S_c : Sta Z Z.heap "java/lang/String" "COMPACT_STRINGS" "Z" (.int zc)) (hzc : ¬ zc = (0 : Int32)) (S_f : Sta Z Z.heap "jdk/internal/util/Preconditions" "SIOOBE_FORMATTER" "Ljava/util/function/BiFunction;" fm) (rfm : fm.isRef = true) :
    MetFree l (⟨"com/example/attestrail/attestrail/json/JsonString", "<init>", "(Ljava/lang/String;)V"⟩ : MethodName) (head1 (Jvm.Cond.code (⟨"com/example/attestrail/attestrail/json/JsonString", "<init>", "(Ljava/lang/String;)V"⟩ : MethodName) prog_134_method_1_code 2 none :: ws) ({ frames := 7, cells := 2, slots := 20, locals := 95 } : Room)) (fun a U => a = #[(.ref ob), (.ref tx)] ∧ Z.Warmed39 U.vm ∧ U.heap = h0 ∧ CHv Z EL0 U.vm h0) (fun _ _ _ _ _ => True) (fun _ U o U' => ∃ v L, o = .returned v ∧ Q6 Z ob tx cs zc fm h0 n0 v U'.heap L ∧ CHr Z EL0 U.vm U.heap U'.vm U'.heap ∧ ReturnedEndW U o U' L ({ frames := 7, cells := 2, slots := 20, locals := 95 } : Room).cells ({ frames := 7, cells := 2, slots := 20, locals := 95 } : Room).slots) := by
  refine MetFree.of_bodySF (plainFor_of_name pn_6) hisR ?_
  intro p e s m args below meth c s₁ Bd hml0 hP hK
  obtain ⟨rfl, hZ, hh, hCH⟩ := hP
  have hx := Bd.exec
  have hby := Bd.bytes
  have hml : c.maxLocals = 2 := hml0
  have hown : s.vm.findClass "com/example/attestrail/attestrail/json/JsonString" = some m.cls := findClass_of_methodNamed Bd.named
  have hnm := (name_of_methodNamed Bd.named Bd.method).1
  have X0 : Stand p l e ({ frames := 7, cells := 2, slots := 20, locals := 95 } : Room) (s.setVm s.vm) m #[(.ref ob), (.ref tx)] below meth c s₁ [] 0 0 := Stand.of_body Bd
  have e0 : s₁.heap = h0 := by rw [← hh, Bd.state]; rfl
  have N0 := Fr.nil n0
  have pre0 : ∀ t, Steps p.tables e below (s₁.setTop (mkF m 0 #[.val (.ref ob), .val (.ref tx)] [])) t → Steps p.tables e below (s₁.setTop (entryFrame m #[(.ref ob), (.ref tx)] 2)) t := fun t k => castTop (ef_rm6 m ob tx) k
  have hEL : EW Z a0 EL0 := own_EW hw
  have CH0 : CHr Z EL0 s.vm h0 s.vm h0 := CHr.refl hCH
  have hS0 : s.Since s.vm 0 := (State.WarmedH.refl s).since 0
  have hwS : ∀ a ∈ Bundle.stringAtoms, a.before a0 Z = true := fun d hd => hw d ((by decide +kernel : ∀ d ∈ Bundle.stringAtoms, d ∈ tables_1) d hd)
  obtain ⟨_, _, ⟨T1, L1, k1, n1⟩, -, X1, hSc1, hgc1, ⟨Lc1, hQ1, l1, y1, z1, hC1⟩, st1⟩ := X0.specialBackS hx (y := (⟨"com/example/attestrail/attestrail/json/JsonString", "<init>", "(Ljava/lang/String;Z)V"⟩ : MethodName)) rfl hown (mvT hZ (hw _ (List.mem_of_getElem? (i := 37) rfl))) (mvT hZ (hw _ (List.mem_of_getElem? (i := 38) rfl))) (mvT hZ (hw _ (List.mem_of_getElem? (i := 39) rfl))) (by decide) (backOfSH (W := 0) (rm7 l Z a0 hw [] ob tx cs zc fm h0 n0 Z0 O E_ob g_ob F_v S_ hcl hwl S_ad S_hi S_lo S_c hzc S_f rfm) hZ (hw _ (List.mem_of_getElem? (i := 39) rfl)) (hw _ (List.mem_of_getElem? (i := 8) rfl)) (by decide) (by decide) hEL CH0.1) (g := (mkF m 3 #[.val (.ref ob), .val (.ref tx)] [(.int (1 : Int32)), (.ref tx), (.ref ob)])) rfl (by rw [hml]; rfl) (Steps.refl _) (a := ob) (argsL := [(.ref tx), (.int (1 : Int32))]) (rest := []) (lenOf pd_19 rfl) rfl (by show 2 * 0 + _ ≤ _; exact Nat.le_of_eq rfl) (hb hby d6_3) (fun _ _ => ⟨rfl, e0, (by decide : 0 + 2 ≤ _), (by decide : 0 + 20 ≤ _)⟩)
  dsimp only [Pt.U, Pt.locs, Pt.cells, Pt.slots] at X1 l1 y1 z1 st1 hQ1 hSc1 hgc1 hC1
  subst l1 y1 z1
  obtain ⟨rfl, N1q, K1, A1c, Fv1, Ss1⟩ := hQ1
  have N1 := Fr.app N0 N1q
  obtain ⟨Xr1, hS1, hZ1, hown1⟩ := rebS (n1 := s₁.heap.size) hS0 (by rw [e0]; exact (Nat.zero_le _)) X1 hSc1 hgc1 hZ hown
  have cq1 := hC1
  have CH1 := CH0.trans cq1
  have Kc1 : Keep h0 T1.heap [ob] := (Keep.refl h0 [ob]).trans K1 (allS (Or.inl (List.mem_of_getElem? (i := 0) rfl)) all0)
  have Oc1 := O.keep K1 (allS g_ob all0)
  obtain ⟨fs, hr, hrun, hended, hend⟩ := Stand.leaveW (s := s) (vm₁ := T1.vm) Xr1 hS1 (Nat.le_refl _) (v := none) (fun _ => rfl)
  have hCfin : CHr Z EL0 s.vm s.heap (T1.setFrames fs).vm (T1.setFrames fs).heap := by
    show CHr Z EL0 s.vm s.heap T1.vm T1.heap
    rw [hh]
    exact CH1.trans (CHv.at Xr1 hZ1 hEL CH1.1)
  refine ⟨_, _, pre0 _ ?_, hrun, hended, _, _, rfl, ?_, hCfin, hend.1, hend.2.1, hend.2.2.1, hend.2.2.2.mono (by decide) (by decide)⟩
  · show Steps p.tables e below (s₁.setTop (mkF m 0 #[.val (.ref ob), .val (.ref tx)] [])) _
    refine XS.aloadN X0.here hx rfl (hb hby d6_0) rfl rfl ?_
    show Steps p.tables e below (s₁.setTop (mkF m 1 #[.val (.ref ob), .val (.ref tx)] [(.ref ob)])) _
    refine XS.aloadN X0.here hx rfl (hb hby d6_1) rfl rfl ?_
    show Steps p.tables e below (s₁.setTop (mkF m 2 #[.val (.ref ob), .val (.ref tx)] [(.ref tx), (.ref ob)])) _
    refine XS.iconst X0.here hx rfl (hb hby d6_2) ?_
    show Steps p.tables e below (s₁.setTop (mkF m 3 #[.val (.ref ob), .val (.ref tx)] [(.int (1 : Int32)), (.ref tx), (.ref ob)])) _
    refine st1.trans ?_
    show Steps p.tables e below (T1.setTop (mkF m 6 #[.val (.ref ob), .val (.ref tx)] [])) _
    exact Xr1.returnOut hx Bd.returns (hb hby d6_6) hr
  · show Q6 Z ob tx cs zc fm h0 n0 _ T1.heap _
    exact ⟨rfl, N1, Kc1, A1c, Fv1, Ss1⟩
theorem own_dis {v : Option Value} {cs ds : List Int32} (h : (v = some (.int 1) ∧ cs = ds) ∨ (v = some (.int 0) ∧ ¬ cs = ds)) : v = some (.int (if cs = ds then (1 : Int32) else 0)) := by
  rcases h with ⟨q, r⟩ | ⟨q, r⟩
  · rw [q, if_pos r]
  · rw [q, if_neg r]
theorem d12_0 : decode prog_134_method_5_code 0 = .ok (.aload_n 1, 1) := by decide +kernel
theorem d12_1 : decode prog_134_method_5_code 1 = .ok (.instanceof 2, 3) := by decide +kernel
theorem d12_4 : decode prog_134_method_5_code 4 = .ok (.ifCond .eq 26, 3) := by decide +kernel
theorem d12_7 : decode prog_134_method_5_code 7 = .ok (.aload_n 1, 1) := by decide +kernel
theorem d12_8 : decode prog_134_method_5_code 8 = .ok (.checkcast 2, 3) := by decide +kernel
theorem d12_11 : decode prog_134_method_5_code 11 = .ok (.astore_n 2, 1) := by decide +kernel
theorem d12_12 : decode prog_134_method_5_code 12 = .ok (.aload_n 0, 1) := by decide +kernel
theorem d12_13 : decode prog_134_method_5_code 13 = .ok (.getfield 16, 3) := by decide +kernel
theorem d12_16 : decode prog_134_method_5_code 16 = .ok (.aload_n 2, 1) := by decide +kernel
theorem d12_17 : decode prog_134_method_5_code 17 = .ok (.getfield 16, 3) := by decide +kernel
theorem d12_20 : decode prog_134_method_5_code 20 = .ok (.invokevirtual 20, 3) := by decide +kernel
theorem pd_20 : parseMethodDescriptor "(Ljava/lang/Object;)Z" = some ⟨[(.object "java/lang/Object")], some .boolean⟩ := by decide +kernel
theorem d12_23 : decode prog_134_method_5_code 23 = .ok (.ifCond .eq 7, 3) := by decide +kernel
theorem d12_30 : decode prog_134_method_5_code 30 = .ok (.iconst 0, 1) := by decide +kernel
theorem d12_31 : decode prog_134_method_5_code 31 = .ok (.ireturn, 1) := by decide +kernel
theorem d12_26 : decode prog_134_method_5_code 26 = .ok (.iconst 1, 1) := by decide +kernel
theorem d12_27 : decode prog_134_method_5_code 27 = .ok (.goto 4, 3) := by decide +kernel
theorem ef_rm12 (m : MethodId) (x0 : Addr) (x1 : Addr) : entryFrame m #[(.ref x0), (.ref x1)] 3 = mkF m 0 #[.val (.ref x0), .val (.ref x1), .unset] [] := by first | (simp [entryFrame, mkF, argsToLocals, Value.category]; done) | rfl
def eqJ (cx : List Int32) (cy : List Int32) : Int32 :=
  if (if cx = cy then (1 : Int32) else 0) = (0 : Int32) then (0 : Int32)
  else (1 : Int32)
def Q12 (Z : State) (px : Addr) (py : Addr) (sx : Addr) (sy : Addr) (cx : List Int32) (cy : List Int32) (zc : Int32) (h0 : Heap) (n0 : Nat) (v : Option Value) (h : Heap) (L : List Loc) : Prop := v = some (.int (eqJ cx cy)) ∧ Fr n0 L ∧ h = h0
set_option maxRecDepth 65536 in
set_option maxHeartbeats 40000000 in
theorem rm12 (l : Launch) (Z : State) (a0 : Array Value) (hw : ∀ d ∈ tables_1, d.before a0 Z = true) (ws : List Jvm.Cond) (px : Addr) (py : Addr) (sx : Addr) (sy : Addr) (cx : List Int32) (cy : List Int32) (zc : Int32) (h0 : Heap) (n0 : Nat) (Z0 : n0 ≤ h0.size) (E_x : Exa Z h0 px "com/example/attestrail/attestrail/json/JsonString") (E_y : Exa Z h0 py "com/example/attestrail/attestrail/json/JsonString") (F_x : Fld Z h0 px "com/example/attestrail/attestrail/json/JsonString" "value" "Ljava/lang/String;" (.ref sx)) (F_y : Fld Z h0 py "com/example/attestrail/attestrail/json/JsonString" "value" "Ljava/lang/String;" (.ref sy)) (S_x : STR Z h0 sx cx) (S_y : STR Z h0 sy cy) (hbx : ∀ c ∈ cx, ¬ c < 0 ∧ ¬ (65535 : Int32) < c) (hby_ : ∀ c ∈ cy, ¬ c < 0 ∧ ¬ (65535 : Int32) < c) (hlx : cx.length ≤ 3) (hly : cy.length ≤ 3) (S_c : Sta Z h0 "java/lang/String" "COMPACT_STRINGS" "Z" (.int zc)) (hzc : ¬ zc = (0 : Int32)) :
    MetFree l (⟨"com/example/attestrail/attestrail/json/JsonString", "equals", "(Ljava/lang/Object;)Z"⟩ : MethodName) (head1 (Jvm.Cond.code (⟨"com/example/attestrail/attestrail/json/JsonString", "equals", "(Ljava/lang/Object;)Z"⟩ : MethodName) prog_134_method_5_code 3 (some .boolean) :: ws) ({ frames := 2, cells := 0, slots := 0, locals := 28 } : Room)) (fun a U => a = #[(.ref px), (.ref py)] ∧ Z.Warmed39 U.vm ∧ U.heap = h0) (fun _ _ _ _ _ => True) (fun _ U o U' => ∃ v L, o = .returned v ∧ Q12 Z px py sx sy cx cy zc h0 n0 v U'.heap L ∧ FrameEnd U o U' L ({ frames := 2, cells := 0, slots := 0, locals := 28 } : Room).cells ({ frames := 2, cells := 0, slots := 0, locals := 28 } : Room).slots) := by
  refine MetFree.of_bodySF (plainFor_of_name pn_6) hisR ?_
  intro p e s m args below meth c s₁ Bd hml0 hP hK
  obtain ⟨rfl, hZ, hh⟩ := hP
  have hx := Bd.exec
  have hby := Bd.bytes
  have hml : c.maxLocals = 3 := hml0
  have hown : s.vm.findClass "com/example/attestrail/attestrail/json/JsonString" = some m.cls := findClass_of_methodNamed Bd.named
  have hnm := (name_of_methodNamed Bd.named Bd.method).1
  have X0 : Stand p l e ({ frames := 2, cells := 0, slots := 0, locals := 28 } : Room) s m #[(.ref px), (.ref py)] below meth c s₁ [] 0 0 := Stand.of_body Bd
  have e0 : s₁.heap = h0 := by rw [← hh, Bd.state]; rfl
  have N0 := Fr.nil n0
  have pre0 : ∀ t, Steps p.tables e below (s₁.setTop (mkF m 0 #[.val (.ref px), .val (.ref py), .unset] [])) t → Steps p.tables e below (s₁.setTop (entryFrame m #[(.ref px), (.ref py)] 3)) t := fun t k => castTop (ef_rm12 m px py) k
  have heq : ∀ d ∈ StrChars.Road.wordsEq, d.before a0 Z = true := fun d hd => hw d ((by decide +kernel : ∀ d ∈ StrChars.Road.wordsEq, d ∈ tables_1) d hd)
  obtain ⟨tvx, kbx, cdx, NB2x, vsx, se1x, se2x, se3x, se4x, se5x⟩ := S_x
  obtain ⟨tvy, kby, cdy, NB2y, vsy, se1y, se2y, se3y, se4y, se5y⟩ := S_y
  obtain ⟨T1, X1, e1, st1⟩ := instY X0 hx hZ hown (hw _ (List.mem_of_getElem? (i := 67) rfl)) e0 (Ins.self E_y) (g := (mkF m 1 #[.val (.ref px), .val (.ref py), .unset] [(.ref py)])) rfl rfl (hb hby d12_1)
  obtain ⟨T2, X2, e2, st2⟩ := castY X1 hx hZ hown (hw _ (List.mem_of_getElem? (i := 67) rfl)) e1 (Ins.self E_y) (g := (mkF m 8 #[.val (.ref px), .val (.ref py), .unset] [(.ref py)])) rfl rfl (hb hby d12_8)
  obtain ⟨T3, X3, e3, st3⟩ := getF X2 hx hZ hown (host := "") (Or.inl (hw _ (List.mem_of_getElem? (i := 60) rfl))) Via.refl e2 F_x (g := (mkF m 13 #[.val (.ref px), .val (.ref py), .val (.ref py)] [(.ref px)])) rfl rfl (hb hby d12_13)
  obtain ⟨T4, X4, e4, st4⟩ := getF X3 hx hZ hown (host := "") (Or.inl (hw _ (List.mem_of_getElem? (i := 60) rfl))) Via.refl e3 F_y (g := (mkF m 17 #[.val (.ref px), .val (.ref py), .val (.ref py)] [(.ref py), (.ref sx)])) rfl rfl (hb hby d12_17)
  obtain ⟨cq5, kq5, q5a, q5b, q5c⟩ := isOf hZ e4 se1x
  obtain ⟨_, _, ⟨T5, L5, k5, n5⟩, -, X5, ⟨Lc5, hQ5, l5, y5, z5⟩, st5⟩ := X4.virtualBack hx (y := (⟨"java/lang/String", "equals", "(Ljava/lang/Object;)Z"⟩ : MethodName)) (z := (⟨"java/lang/String", "equals", "(Ljava/lang/Object;)Z"⟩ : MethodName)) hown (mvT hZ (hw _ (List.mem_of_getElem? (i := 69) rfl))) (mvT hZ (hw _ (List.mem_of_getElem? (i := 70) rfl))) (notFace_of_selects (args := #[]) (mvT hZ (hw _ (List.mem_of_getElem? (i := 72) rfl)))) (mvT hZ (hw _ (List.mem_of_getElem? (i := 72) rfl))) (mvT hZ (hw _ (List.mem_of_getElem? (i := 71) rfl))) (by decide) (StrChars.Road.eqW (W := 0) hZ heq (kI := 4) (hw _ (List.mem_of_getElem? (i := 13) rfl)) se1x se2x se3x se4x se5x hbx (by omega) se1y se2y se3y se4y se5y hby_ (by omega) S_c hzc (by decide) (by decide)) q5a q5c (g := (mkF m 20 #[.val (.ref px), .val (.ref py), .val (.ref py)] [(.ref sy), (.ref sx)])) rfl (by rw [hml]; rfl) (Steps.refl _) (argsL := [(.ref sy)]) (rest := []) (lenOf pd_20 rfl) rfl (by show 2 * 0 + _ ≤ _; exact Nat.le_of_eq rfl) (hb hby d12_20) (fun _ _ => ⟨rfl, e4, (by decide : 0 + 0 ≤ _), (by decide : 0 + 0 ≤ _)⟩)
  dsimp only [Pt.U, Pt.locs, Pt.cells, Pt.slots] at X5 l5 y5 z5 st5 hQ5
  subst l5 y5 z5
  obtain ⟨hv5, rfl, e5⟩ := hQ5
  have N5q : Fr n0 ([] : List Loc) := Fr.nil n0
  have hvv5 := own_dis hv5
  subst hvv5
  have N5 := Fr.app N0 N5q
  have pre6 : ∀ tq, Steps p.tables e below (T5.setTop (mkF m 23 #[.val (.ref px), .val (.ref py), .val (.ref py)] [(.int (if cx = cy then (1 : Int32) else 0))])) tq → Steps p.tables e below (s₁.setTop (entryFrame m #[(.ref px), (.ref py)] 3)) tq := by
    intro tq kt
    refine pre0 tq ?_
    show Steps p.tables e below (s₁.setTop (mkF m 0 #[.val (.ref px), .val (.ref py), .unset] [])) _
    refine XS.aloadN X0.here hx rfl (hb hby d12_0) rfl rfl ?_
    show Steps p.tables e below (s₁.setTop (mkF m 1 #[.val (.ref px), .val (.ref py), .unset] [(.ref py)])) _
    refine st1 _ ?_
    show Steps p.tables e below (T1.setTop (mkF m 4 #[.val (.ref px), .val (.ref py), .unset] [(.int (1 : Int32))])) _
    refine XS.ifNo X1.here hx rfl (hb hby d12_4) rfl ((if0 _ _).trans (feq (by decide : ¬ ((1 : Int32) = (0 : Int32)))).1) ?_
    show Steps p.tables e below (T1.setTop (mkF m 7 #[.val (.ref px), .val (.ref py), .unset] [])) _
    refine XS.aloadN X1.here hx rfl (hb hby d12_7) rfl rfl ?_
    show Steps p.tables e below (T1.setTop (mkF m 8 #[.val (.ref px), .val (.ref py), .unset] [(.ref py)])) _
    refine st2 _ ?_
    show Steps p.tables e below (T2.setTop (mkF m 11 #[.val (.ref px), .val (.ref py), .unset] [(.ref py)])) _
    refine XS.astoreN X2.here hx rfl (hb hby d12_11) rfl rfl (l' := #[.val (.ref px), .val (.ref py), .val (.ref py)]) rfl ?_
    show Steps p.tables e below (T2.setTop (mkF m 12 #[.val (.ref px), .val (.ref py), .val (.ref py)] [])) _
    refine XS.aloadN X2.here hx rfl (hb hby d12_12) rfl rfl ?_
    show Steps p.tables e below (T2.setTop (mkF m 13 #[.val (.ref px), .val (.ref py), .val (.ref py)] [(.ref px)])) _
    refine st3 _ ?_
    show Steps p.tables e below (T3.setTop (mkF m 16 #[.val (.ref px), .val (.ref py), .val (.ref py)] [(.ref sx)])) _
    refine XS.aloadN X3.here hx rfl (hb hby d12_16) rfl rfl ?_
    show Steps p.tables e below (T3.setTop (mkF m 17 #[.val (.ref px), .val (.ref py), .val (.ref py)] [(.ref py), (.ref sx)])) _
    refine st4 _ ?_
    show Steps p.tables e below (T4.setTop (mkF m 20 #[.val (.ref px), .val (.ref py), .val (.ref py)] [(.ref sy), (.ref sx)])) _
    refine st5.trans ?_
    show Steps p.tables e below (T5.setTop (mkF m 23 #[.val (.ref px), .val (.ref py), .val (.ref py)] [(.int (if cx = cy then (1 : Int32) else 0))])) _
    exact kt
  by_cases hc23_7 : (if cx = cy then (1 : Int32) else 0) = (0 : Int32)
  · obtain ⟨fs, hr, hrun, hended, hW, hsame⟩ := X5.leave (v := some (.int (0 : Int32))) (fun h => by rw [Bd.returns] at h; cases h)
    refine ⟨_, _, pre6 _ ?_, hrun, hended, _, _, rfl, ?_, ⟨_, rfl⟩, hW, hsame.mono (by decide) (by decide)⟩
    · show Steps p.tables e below (T5.setTop (mkF m 23 #[.val (.ref px), .val (.ref py), .val (.ref py)] [(.int (if cx = cy then (1 : Int32) else 0))])) _
      refine XS.ifYes X5.here hx rfl (pc0 := 23) (pc' := 30) rfl (hb hby d12_23) rfl ((if0 _ _).trans (teq hc23_7).1) (by decide) (by decide) ?_
      show Steps p.tables e below (T5.setTop (mkF m 30 #[.val (.ref px), .val (.ref py), .val (.ref py)] [])) _
      refine XS.iconst X5.here hx rfl (hb hby d12_30) ?_
      show Steps p.tables e below (T5.setTop (mkF m 31 #[.val (.ref px), .val (.ref py), .val (.ref py)] [(.int (0 : Int32))])) _
      exact retN X5 hx (t := .boolean) Bd.returns (by simp) (hb hby d12_31) hr
    · show Q12 Z px py sx sy cx cy zc h0 n0 _ T5.heap _
      rw [e5]
      refine ⟨?_, N5, rfl⟩
      show (some (.int (0 : Int32)) : Option Value) = some (.int (eqJ cx cy))
      rw [show (eqJ cx cy) = (0 : Int32) from by unfold eqJ; rw [if_pos hc23_7]]
  · obtain ⟨fs, hr, hrun, hended, hW, hsame⟩ := X5.leave (v := some (.int (1 : Int32))) (fun h => by rw [Bd.returns] at h; cases h)
    refine ⟨_, _, pre6 _ ?_, hrun, hended, _, _, rfl, ?_, ⟨_, rfl⟩, hW, hsame.mono (by decide) (by decide)⟩
    · show Steps p.tables e below (T5.setTop (mkF m 23 #[.val (.ref px), .val (.ref py), .val (.ref py)] [(.int (if cx = cy then (1 : Int32) else 0))])) _
      refine XS.ifNo X5.here hx rfl (hb hby d12_23) rfl ((if0 _ _).trans (feq hc23_7).1) ?_
      show Steps p.tables e below (T5.setTop (mkF m 26 #[.val (.ref px), .val (.ref py), .val (.ref py)] [])) _
      refine XS.iconst X5.here hx rfl (hb hby d12_26) ?_
      show Steps p.tables e below (T5.setTop (mkF m 27 #[.val (.ref px), .val (.ref py), .val (.ref py)] [(.int (1 : Int32))])) _
      refine XS.goto X5.here hx rfl (pc0 := 27) (pc' := 31) rfl (hb hby d12_27) (by decide) (by decide) ?_
      show Steps p.tables e below (T5.setTop (mkF m 31 #[.val (.ref px), .val (.ref py), .val (.ref py)] [(.int (1 : Int32))])) _
      exact retN X5 hx (t := .boolean) Bd.returns (by simp) (hb hby d12_31) hr
    · show Q12 Z px py sx sy cx cy zc h0 n0 _ T5.heap _
      rw [e5]
      refine ⟨?_, N5, rfl⟩
      show (some (.int (1 : Int32)) : Option Value) = some (.int (eqJ cx cy))
      rw [show (eqJ cx cy) = (1 : Int32) from by unfold eqJ; rw [if_neg hc23_7]]
theorem own_eqJ (a b : List Int32) : eqJ a b = if a = b then 1 else 0 := by
  unfold eqJ
  by_cases h : a = b
  · rw [if_pos h]; decide
  · rw [if_neg h]; decide
theorem ef_rm12n (m : MethodId) (x0 : Addr) : entryFrame m #[(.ref x0), .null] 3 = mkF m 0 #[.val (.ref x0), .val .null, .unset] [] := by first | (simp [entryFrame, mkF, argsToLocals, Value.category]; done) | rfl
def Q12n (Z : State) (px : Addr) (h0 : Heap) (n0 : Nat) (v : Option Value) (h : Heap) (L : List Loc) : Prop := v = some (.int (0 : Int32)) ∧ Fr n0 L ∧ h = h0
set_option maxRecDepth 65536 in
set_option maxHeartbeats 40000000 in
theorem rm12n (l : Launch) (Z : State) (a0 : Array Value) (hw : ∀ d ∈ tables_1, d.before a0 Z = true) (ws : List Jvm.Cond) (px : Addr) (h0 : Heap) (n0 : Nat) (Z0 : n0 ≤ h0.size) :
    MetFree l (⟨"com/example/attestrail/attestrail/json/JsonString", "equals", "(Ljava/lang/Object;)Z"⟩ : MethodName) (head1 (Jvm.Cond.code (⟨"com/example/attestrail/attestrail/json/JsonString", "equals", "(Ljava/lang/Object;)Z"⟩ : MethodName) prog_134_method_5_code 3 (some .boolean) :: ws) ({ frames := 0, cells := 0, slots := 0, locals := 0 } : Room)) (fun a U => a = #[(.ref px), .null] ∧ Z.Warmed39 U.vm ∧ U.heap = h0) (fun _ _ _ _ _ => True) (fun _ U o U' => ∃ v L, o = .returned v ∧ Q12n Z px h0 n0 v U'.heap L ∧ FrameEnd U o U' L ({ frames := 0, cells := 0, slots := 0, locals := 0 } : Room).cells ({ frames := 0, cells := 0, slots := 0, locals := 0 } : Room).slots) := by
  refine MetFree.of_bodySF (plainFor_of_name pn_6) hisR ?_
  intro p e s m args below meth c s₁ Bd hml0 hP hK
  obtain ⟨rfl, hZ, hh⟩ := hP
  have hx := Bd.exec
  have hby := Bd.bytes
  have hml : c.maxLocals = 3 := hml0
  have hown : s.vm.findClass "com/example/attestrail/attestrail/json/JsonString" = some m.cls := findClass_of_methodNamed Bd.named
  have hnm := (name_of_methodNamed Bd.named Bd.method).1
  have X0 : Stand p l e ({ frames := 0, cells := 0, slots := 0, locals := 0 } : Room) s m #[(.ref px), .null] below meth c s₁ [] 0 0 := Stand.of_body Bd
  have e0 : s₁.heap = h0 := by rw [← hh, Bd.state]; rfl
  have N0 := Fr.nil n0
  have pre0 : ∀ t, Steps p.tables e below (s₁.setTop (mkF m 0 #[.val (.ref px), .val .null, .unset] [])) t → Steps p.tables e below (s₁.setTop (entryFrame m #[(.ref px), .null] 3)) t := fun t k => castTop (ef_rm12n m px) k
  obtain ⟨fs, hr, hrun, hended, hW, hsame⟩ := X0.leave (v := some (.int (0 : Int32))) (fun h => by rw [Bd.returns] at h; cases h)
  refine ⟨_, _, pre0 _ ?_, hrun, hended, _, _, rfl, ?_, ⟨_, rfl⟩, hW, hsame.mono (by decide) (by decide)⟩
  · show Steps p.tables e below (s₁.setTop (mkF m 0 #[.val (.ref px), .val .null, .unset] [])) _
    refine XS.aloadN X0.here hx rfl (hb hby d12_0) rfl rfl ?_
    show Steps p.tables e below (s₁.setTop (mkF m 1 #[.val (.ref px), .val .null, .unset] [.null])) _
    refine X0.instanceofNull hx (g := (mkF m 1 #[.val (.ref px), .val .null, .unset] [.null])) rfl rfl (hb hby d12_1) _ ?_
    show Steps p.tables e below (s₁.setTop (mkF m 4 #[.val (.ref px), .val .null, .unset] [(.int (0 : Int32))])) _
    refine XS.ifYes X0.here hx rfl (pc0 := 4) (pc' := 30) rfl (hb hby d12_4) rfl ((if0 _ _).trans (teq (rfl : (0 : Int32) = (0 : Int32))).1) (by decide) (by decide) ?_
    show Steps p.tables e below (s₁.setTop (mkF m 30 #[.val (.ref px), .val .null, .unset] [])) _
    refine XS.iconst X0.here hx rfl (hb hby d12_30) ?_
    show Steps p.tables e below (s₁.setTop (mkF m 31 #[.val (.ref px), .val .null, .unset] [(.int (0 : Int32))])) _
    exact retN X0 hx (t := .boolean) Bd.returns (by simp) (hb hby d12_31) hr
  · show Q12n Z px h0 n0 _ s₁.heap _
    rw [e0]
    exact ⟨rfl, N0, rfl⟩
theorem ef_rm12s (m : MethodId) (x0 : Addr) (x1 : Addr) : entryFrame m #[(.ref x0), (.ref x1)] 3 = mkF m 0 #[.val (.ref x0), .val (.ref x1), .unset] [] := by first | (simp [entryFrame, mkF, argsToLocals, Value.category]; done) | rfl
def Q12s (Z : State) (px : Addr) (py : Addr) (h0 : Heap) (n0 : Nat) (v : Option Value) (h : Heap) (L : List Loc) : Prop := v = some (.int (0 : Int32)) ∧ Fr n0 L ∧ h = h0
set_option maxRecDepth 65536 in
set_option maxHeartbeats 40000000 in
theorem rm12s (l : Launch) (Z : State) (a0 : Array Value) (hw : ∀ d ∈ tables_1, d.before a0 Z = true) (ws : List Jvm.Cond) (px : Addr) (py : Addr) (h0 : Heap) (n0 : Nat) (Z0 : n0 ≤ h0.size) (E_y : Exa Z h0 py "java/lang/String") :
    MetFree l (⟨"com/example/attestrail/attestrail/json/JsonString", "equals", "(Ljava/lang/Object;)Z"⟩ : MethodName) (head1 (Jvm.Cond.code (⟨"com/example/attestrail/attestrail/json/JsonString", "equals", "(Ljava/lang/Object;)Z"⟩ : MethodName) prog_134_method_5_code 3 (some .boolean) :: ws) ({ frames := 0, cells := 0, slots := 0, locals := 0 } : Room)) (fun a U => a = #[(.ref px), (.ref py)] ∧ Z.Warmed39 U.vm ∧ U.heap = h0) (fun _ _ _ _ _ => True) (fun _ U o U' => ∃ v L, o = .returned v ∧ Q12s Z px py h0 n0 v U'.heap L ∧ FrameEnd U o U' L ({ frames := 0, cells := 0, slots := 0, locals := 0 } : Room).cells ({ frames := 0, cells := 0, slots := 0, locals := 0 } : Room).slots) := by
  refine MetFree.of_bodySF (plainFor_of_name pn_6) hisR ?_
  intro p e s m args below meth c s₁ Bd hml0 hP hK
  obtain ⟨rfl, hZ, hh⟩ := hP
  have hx := Bd.exec
  have hby := Bd.bytes
  have hml : c.maxLocals = 3 := hml0
  have hown : s.vm.findClass "com/example/attestrail/attestrail/json/JsonString" = some m.cls := findClass_of_methodNamed Bd.named
  have hnm := (name_of_methodNamed Bd.named Bd.method).1
  have X0 : Stand p l e ({ frames := 0, cells := 0, slots := 0, locals := 0 } : Room) s m #[(.ref px), (.ref py)] below meth c s₁ [] 0 0 := Stand.of_body Bd
  have e0 : s₁.heap = h0 := by rw [← hh, Bd.state]; rfl
  have N0 := Fr.nil n0
  have pre0 : ∀ t, Steps p.tables e below (s₁.setTop (mkF m 0 #[.val (.ref px), .val (.ref py), .unset] [])) t → Steps p.tables e below (s₁.setTop (entryFrame m #[(.ref px), (.ref py)] 3)) t := fun t k => castTop (ef_rm12s m px py) k
  obtain ⟨T1, X1, e1, st1⟩ := instNo X0 hx hZ hown (hw _ (List.mem_of_getElem? (i := 67) rfl)) e0 E_y (own_noS (hw _ (List.mem_of_getElem? (i := 118) rfl)) (hw _ (List.mem_of_getElem? (i := 119) rfl)) (hw _ (List.mem_of_getElem? (i := 7) rfl))) (g := (mkF m 1 #[.val (.ref px), .val (.ref py), .unset] [(.ref py)])) rfl rfl (hb hby d12_1)
  obtain ⟨fs, hr, hrun, hended, hW, hsame⟩ := X1.leave (v := some (.int (0 : Int32))) (fun h => by rw [Bd.returns] at h; cases h)
  refine ⟨_, _, pre0 _ ?_, hrun, hended, _, _, rfl, ?_, ⟨_, rfl⟩, hW, hsame.mono (by decide) (by decide)⟩
  · show Steps p.tables e below (s₁.setTop (mkF m 0 #[.val (.ref px), .val (.ref py), .unset] [])) _
    refine XS.aloadN X0.here hx rfl (hb hby d12_0) rfl rfl ?_
    show Steps p.tables e below (s₁.setTop (mkF m 1 #[.val (.ref px), .val (.ref py), .unset] [(.ref py)])) _
    refine st1 _ ?_
    show Steps p.tables e below (T1.setTop (mkF m 4 #[.val (.ref px), .val (.ref py), .unset] [(.int (0 : Int32))])) _
    refine XS.ifYes X1.here hx rfl (pc0 := 4) (pc' := 30) rfl (hb hby d12_4) rfl ((if0 _ _).trans (teq (rfl : (0 : Int32) = (0 : Int32))).1) (by decide) (by decide) ?_
    show Steps p.tables e below (T1.setTop (mkF m 30 #[.val (.ref px), .val (.ref py), .unset] [])) _
    refine XS.iconst X1.here hx rfl (hb hby d12_30) ?_
    show Steps p.tables e below (T1.setTop (mkF m 31 #[.val (.ref px), .val (.ref py), .unset] [(.int (0 : Int32))])) _
    exact retN X1 hx (t := .boolean) Bd.returns (by simp) (hb hby d12_31) hr
  · show Q12s Z px py h0 n0 _ T1.heap _
    rw [e1]
    exact ⟨rfl, N0, rfl⟩
theorem ef_rm12l (m : MethodId) (x0 : Addr) (x1 : Addr) : entryFrame m #[(.ref x0), (.ref x1)] 3 = mkF m 0 #[.val (.ref x0), .val (.ref x1), .unset] [] := by first | (simp [entryFrame, mkF, argsToLocals, Value.category]; done) | rfl
def Q12l (Z : State) (px : Addr) (py : Addr) (h0 : Heap) (n0 : Nat) (v : Option Value) (h : Heap) (L : List Loc) : Prop := v = some (.int (0 : Int32)) ∧ Fr n0 L ∧ h = h0
set_option maxRecDepth 65536 in
set_option maxHeartbeats 40000000 in
theorem rm12l (l : Launch) (Z : State) (a0 : Array Value) (hw : ∀ d ∈ tables_1, d.before a0 Z = true) (ws : List Jvm.Cond) (px : Addr) (py : Addr) (h0 : Heap) (n0 : Nat) (Z0 : n0 ≤ h0.size) (E_y : Exa Z h0 py "com/example/attestrail/attestrail/json/JsonLiteral") :
    MetFree l (⟨"com/example/attestrail/attestrail/json/JsonString", "equals", "(Ljava/lang/Object;)Z"⟩ : MethodName) (head1 (Jvm.Cond.code (⟨"com/example/attestrail/attestrail/json/JsonString", "equals", "(Ljava/lang/Object;)Z"⟩ : MethodName) prog_134_method_5_code 3 (some .boolean) :: ws) ({ frames := 0, cells := 0, slots := 0, locals := 0 } : Room)) (fun a U => a = #[(.ref px), (.ref py)] ∧ Z.Warmed39 U.vm ∧ U.heap = h0) (fun _ _ _ _ _ => True) (fun _ U o U' => ∃ v L, o = .returned v ∧ Q12l Z px py h0 n0 v U'.heap L ∧ FrameEnd U o U' L ({ frames := 0, cells := 0, slots := 0, locals := 0 } : Room).cells ({ frames := 0, cells := 0, slots := 0, locals := 0 } : Room).slots) := by
  refine MetFree.of_bodySF (plainFor_of_name pn_6) hisR ?_
  intro p e s m args below meth c s₁ Bd hml0 hP hK
  obtain ⟨rfl, hZ, hh⟩ := hP
  have hx := Bd.exec
  have hby := Bd.bytes
  have hml : c.maxLocals = 3 := hml0
  have hown : s.vm.findClass "com/example/attestrail/attestrail/json/JsonString" = some m.cls := findClass_of_methodNamed Bd.named
  have hnm := (name_of_methodNamed Bd.named Bd.method).1
  have X0 : Stand p l e ({ frames := 0, cells := 0, slots := 0, locals := 0 } : Room) s m #[(.ref px), (.ref py)] below meth c s₁ [] 0 0 := Stand.of_body Bd
  have e0 : s₁.heap = h0 := by rw [← hh, Bd.state]; rfl
  have N0 := Fr.nil n0
  have pre0 : ∀ t, Steps p.tables e below (s₁.setTop (mkF m 0 #[.val (.ref px), .val (.ref py), .unset] [])) t → Steps p.tables e below (s₁.setTop (entryFrame m #[(.ref px), (.ref py)] 3)) t := fun t k => castTop (ef_rm12l m px py) k
  obtain ⟨T1, X1, e1, st1⟩ := instNo X0 hx hZ hown (hw _ (List.mem_of_getElem? (i := 67) rfl)) e0 E_y (own_noL (hw _ (List.mem_of_getElem? (i := 152) rfl)) (hw _ (List.mem_of_getElem? (i := 153) rfl)) (hw _ (List.mem_of_getElem? (i := 119) rfl)) (hw _ (List.mem_of_getElem? (i := 7) rfl))) (g := (mkF m 1 #[.val (.ref px), .val (.ref py), .unset] [(.ref py)])) rfl rfl (hb hby d12_1)
  obtain ⟨fs, hr, hrun, hended, hW, hsame⟩ := X1.leave (v := some (.int (0 : Int32))) (fun h => by rw [Bd.returns] at h; cases h)
  refine ⟨_, _, pre0 _ ?_, hrun, hended, _, _, rfl, ?_, ⟨_, rfl⟩, hW, hsame.mono (by decide) (by decide)⟩
  · show Steps p.tables e below (s₁.setTop (mkF m 0 #[.val (.ref px), .val (.ref py), .unset] [])) _
    refine XS.aloadN X0.here hx rfl (hb hby d12_0) rfl rfl ?_
    show Steps p.tables e below (s₁.setTop (mkF m 1 #[.val (.ref px), .val (.ref py), .unset] [(.ref py)])) _
    refine st1 _ ?_
    show Steps p.tables e below (T1.setTop (mkF m 4 #[.val (.ref px), .val (.ref py), .unset] [(.int (0 : Int32))])) _
    refine XS.ifYes X1.here hx rfl (pc0 := 4) (pc' := 30) rfl (hb hby d12_4) rfl ((if0 _ _).trans (teq (rfl : (0 : Int32) = (0 : Int32))).1) (by decide) (by decide) ?_
    show Steps p.tables e below (T1.setTop (mkF m 30 #[.val (.ref px), .val (.ref py), .unset] [])) _
    refine XS.iconst X1.here hx rfl (hb hby d12_30) ?_
    show Steps p.tables e below (T1.setTop (mkF m 31 #[.val (.ref px), .val (.ref py), .unset] [(.int (0 : Int32))])) _
    exact retN X1 hx (t := .boolean) Bd.returns (by simp) (hb hby d12_31) hr
  · show Q12l Z px py h0 n0 _ T1.heap _
    rw [e1]
    exact ⟨rfl, N0, rfl⟩
theorem d1_0 : decode method_2_code 0 = .ok (.iload_n 0, 1) := by decide +kernel
theorem d1_1 : decode method_2_code 1 = .ok (.ldc 7, 2) := by decide +kernel
theorem d1_3 : decode method_2_code 3 = .ok (.iand, 1) := by decide +kernel
theorem d1_4 : decode method_2_code 4 = .ok (.ldc 8, 2) := by decide +kernel
theorem d1_6 : decode method_2_code 6 = .ok (.irem, 1) := by decide +kernel
theorem d1_7 : decode method_2_code 7 = .ok (.i2c, 1) := by decide +kernel
theorem d1_8 : decode method_2_code 8 = .ok (.ireturn, 1) := by decide +kernel
theorem ef_rm1 (m : MethodId) (x0 : Int32) : entryFrame m #[(.int x0)] 1 = mkF m 0 #[.val (.int x0)] [] := by first | (simp [entryFrame, mkF, argsToLocals, Value.category]; done) | rfl
def chF (p1 : Int32) : Int32 :=
  (nar .char (((p1 &&& (65535 : Int32)) % (55296 : Int32)).toUInt32.toUInt16.toUInt32.toInt32))
def Q1 (Z : State) (p1 : Int32) (h0 : Heap) (n0 : Nat) (v : Option Value) (h : Heap) (L : List Loc) : Prop := v = some (.int (chF p1)) ∧ Fr n0 L ∧ h = h0
set_option maxRecDepth 65536 in
set_option maxHeartbeats 40000000 in
theorem rm1 (l : Launch) (Z : State) (a0 : Array Value) (hw : ∀ d ∈ tables_1, d.before a0 Z = true) (ws : List Jvm.Cond) (p1 : Int32) (h0 : Heap) (n0 : Nat) (Z0 : n0 ≤ h0.size) :
    MetFree l (⟨"com/example/attestrail/attestrail/json/JsonStringEqualsPinLaw", "ch", "(I)C"⟩ : MethodName) (head1 (Jvm.Cond.code (⟨"com/example/attestrail/attestrail/json/JsonStringEqualsPinLaw", "ch", "(I)C"⟩ : MethodName) method_2_code 1 (some .char) :: ws) ({ frames := 0, cells := 0, slots := 0, locals := 0 } : Room)) (fun a U => a = #[(.int p1)] ∧ Z.Warmed39 U.vm ∧ U.heap = h0) (fun _ _ _ _ _ => True) (fun _ U o U' => ∃ v L, o = .returned v ∧ Q1 Z p1 h0 n0 v U'.heap L ∧ FrameEnd U o U' L ({ frames := 0, cells := 0, slots := 0, locals := 0 } : Room).cells ({ frames := 0, cells := 0, slots := 0, locals := 0 } : Room).slots) := by
  refine MetFree.of_bodySF (plainFor_of_name pn_2) hisR ?_
  intro p e s m args below meth c s₁ Bd hml0 hP hK
  obtain ⟨rfl, hZ, hh⟩ := hP
  have hx := Bd.exec
  have hby := Bd.bytes
  have hml : c.maxLocals = 1 := hml0
  have hown : s.vm.findClass "com/example/attestrail/attestrail/json/JsonStringEqualsPinLaw" = some m.cls := findClass_of_methodNamed Bd.named
  have hnm := (name_of_methodNamed Bd.named Bd.method).1
  have X0 : Stand p l e ({ frames := 0, cells := 0, slots := 0, locals := 0 } : Room) s m #[(.int p1)] below meth c s₁ [] 0 0 := Stand.of_body Bd
  have e0 : s₁.heap = h0 := by rw [← hh, Bd.state]; rfl
  have N0 := Fr.nil n0
  have pre0 : ∀ t, Steps p.tables e below (s₁.setTop (mkF m 0 #[.val (.int p1)] [])) t → Steps p.tables e below (s₁.setTop (entryFrame m #[(.int p1)] 1)) t := fun t k => castTop (ef_rm1 m p1) k
  obtain ⟨fs, hr, hrun, hended, hW, hsame⟩ := X0.leave (v := some (.int (nar .char (((p1 &&& (65535 : Int32)) % (55296 : Int32)).toUInt32.toUInt16.toUInt32.toInt32)))) (fun h => by rw [Bd.returns] at h; cases h)
  refine ⟨_, _, pre0 _ ?_, hrun, hended, _, _, rfl, ?_, ⟨_, rfl⟩, hW, hsame.mono (by decide) (by decide)⟩
  · show Steps p.tables e below (s₁.setTop (mkF m 0 #[.val (.int p1)] [])) _
    refine XS.iloadN X0.here hx rfl (hb hby d1_0) rfl ?_
    show Steps p.tables e below (s₁.setTop (mkF m 1 #[.val (.int p1)] [(.int p1)])) _
    refine X0.ldcInt hx hown (mvT hZ (hw _ (List.mem_of_getElem? (i := 4) rfl))) (g := (mkF m 1 #[.val (.int p1)] [(.int p1)])) rfl (hb hby d1_1) _ ?_
    show Steps p.tables e below (s₁.setTop (mkF m 3 #[.val (.int p1)] [(.int (65535 : Int32)), (.int p1)])) _
    refine XS.iand X0.here hx rfl (hb hby d1_3) rfl ?_
    show Steps p.tables e below (s₁.setTop (mkF m 4 #[.val (.int p1)] [(.int (p1 &&& (65535 : Int32)))])) _
    refine X0.ldcInt hx hown (mvT hZ (hw _ (List.mem_of_getElem? (i := 5) rfl))) (g := (mkF m 4 #[.val (.int p1)] [(.int (p1 &&& (65535 : Int32)))])) rfl (hb hby d1_4) _ ?_
    show Steps p.tables e below (s₁.setTop (mkF m 6 #[.val (.int p1)] [(.int (55296 : Int32)), (.int (p1 &&& (65535 : Int32)))])) _
    refine iremM X0 hx rfl (hb hby d1_6) rfl (by decide) ?_
    show Steps p.tables e below (s₁.setTop (mkF m 7 #[.val (.int p1)] [(.int ((p1 &&& (65535 : Int32)) % (55296 : Int32)))])) _
    refine XS.i2c X0.here hx rfl (hb hby d1_7) rfl ?_
    show Steps p.tables e below (s₁.setTop (mkF m 8 #[.val (.int p1)] [(.int (((p1 &&& (65535 : Int32)) % (55296 : Int32)).toUInt32.toUInt16.toUInt32.toInt32))])) _
    exact retN X0 hx (t := .char) Bd.returns (by simp) (hb hby d1_8) hr
  · show Q1 Z p1 h0 n0 _ s₁.heap _
    rw [e0]
    refine ⟨?_, N0, rfl⟩
    show (some (.int (nar .char (((p1 &&& (65535 : Int32)) % (55296 : Int32)).toUInt32.toUInt16.toUInt32.toInt32))) : Option Value) = some (.int (chF p1))
    rw [show (chF p1) = (nar .char (((p1 &&& (65535 : Int32)) % (55296 : Int32)).toUInt32.toUInt16.toUInt32.toInt32)) from by unfold chF; rfl]
theorem own_ch (z : Int32) : ¬ chF z < 0 ∧ chF z < (55296 : Int32) := by
  have h := c_and z 65535 (by decide)
  have r := (c_irem (z &&& (65535 : Int32)) 55296 55296 rfl).1 h.1
  have c1 := c_i2c ((z &&& (65535 : Int32)) % (55296 : Int32))
  have c2 := c_i2c (((z &&& (65535 : Int32)) % (55296 : Int32)).toUInt32.toUInt16.toUInt32.toInt32)
  have e0 : (0 : Int32).toInt = 0 := rfl
  have e1 : (55296 : Int32).toInt = 55296 := rfl
  show ¬ (((z &&& (65535 : Int32)) % (55296 : Int32)).toUInt32.toUInt16.toUInt32.toInt32).toUInt32.toUInt16.toUInt32.toInt32 < 0 ∧ (((z &&& (65535 : Int32)) % (55296 : Int32)).toUInt32.toUInt16.toUInt32.toInt32).toUInt32.toUInt16.toUInt32.toInt32 < (55296 : Int32)
  rw [Int32.lt_iff_toInt_lt, Int32.lt_iff_toInt_lt, e0, e1]
  omega
theorem own_csl (n a b c : Int32) : (csF n a b c).length ≤ 3 := by
  unfold csF
  repeat' split
  all_goals exact Nat.le_of_ble_eq_true rfl
theorem own_cs {P : Int32 → Prop} {n a b c : Int32} (ha : P a) (hb : P b) (hc : P c) : ∀ y ∈ csF n a b c, P y := by
  unfold csF
  intro y hy
  repeat' split at hy
  all_goals (simp only [List.mem_cons, List.not_mem_nil, or_false] at hy)
  · exact hy ▸ ha
  · rcases hy with rfl | rfl
    · exact ha
    · exact hb
  · rcases hy with rfl | rfl | rfl
    · exact ha
    · exact hb
    · exact hc
theorem own_pick {P : Int32 → Prop} {c : Prop} [Decidable c] {x y v : Int32} (hv : v = (if c then x else y)) (hx : P x) (hy : P y) : P v := by
  subst hv
  split
  · exact hx
  · exact hy
theorem pd_21 : parseMethodDescriptor "(CCCI)Ljava/lang/String;" = some ⟨[.char, .char, .char, .int], some (.object "java/lang/String")⟩ := by decide +kernel
theorem pd_22 : parseMethodDescriptor "(Ljava/lang/String;)V" = some ⟨[(.object "java/lang/String")], none⟩ := by decide +kernel
theorem own_fin0 {la lb x0 x1 x2 y0 y1 y2 ex : Int32} (h1 : 0 ≤ la.toInt ∧ la.toInt ≤ 3) (h2 : 0 ≤ lb.toInt ∧ lb.toInt ≤ 3) (hv : ex = (if la = lb then (if la < (1 : Int32) then (if la < (2 : Int32) then (if la < (3 : Int32) then (1 : Int32) else if x2 = y2 then (1 : Int32) else (0 : Int32)) else if x1 = y1 then (if la < (3 : Int32) then (1 : Int32) else if x2 = y2 then (1 : Int32) else (0 : Int32)) else (0 : Int32)) else if x0 = y0 then (if la < (2 : Int32) then (if la < (3 : Int32) then (1 : Int32) else if x2 = y2 then (1 : Int32) else (0 : Int32)) else if x1 = y1 then (if la < (3 : Int32) then (1 : Int32) else if x2 = y2 then (1 : Int32) else (0 : Int32)) else (0 : Int32)) else (0 : Int32)) else (0 : Int32))) : (if csF la x0 x1 x2 = csF lb y0 y1 y2 then (1 : Int32) else 0) = ex := by
  subst hv
  have key : ∀ z : Int32, 0 ≤ z.toInt ∧ z.toInt ≤ 3 → z = 0 ∨ z = 1 ∨ z = 2 ∨ z = 3 := by
    intro z hz
    rw [← Int32.toInt_inj, ← Int32.toInt_inj, ← Int32.toInt_inj, ← Int32.toInt_inj, show (0 : Int32).toInt = 0 from rfl, show (1 : Int32).toInt = 1 from rfl, show (2 : Int32).toInt = 2 from rfl, show (3 : Int32).toInt = 3 from rfl]
    omega
  have c0 : ∀ a b c : Int32, csF 0 a b c = [] := fun _ _ _ => rfl
  have c1 : ∀ a b c : Int32, csF 1 a b c = [a] := fun _ _ _ => rfl
  have c2 : ∀ a b c : Int32, csF 2 a b c = [a, b] := fun _ _ _ => rfl
  have c3 : ∀ a b c : Int32, csF 3 a b c = [a, b, c] := fun _ _ _ => rfl
  by_cases q0 : x0 = y0 <;> by_cases q1 : x1 = y1 <;> by_cases q2 : x2 = y2 <;> rcases key la h1 with rfl | rfl | rfl | rfl <;> rcases key lb h2 with rfl | rfl | rfl | rfl <;> simp [c0, c1, c2, c3, q0, q1, q2] <;> decide
theorem own_3 (z : Int32) : 0 ≤ (z &&& (3 : Int32)).toInt ∧ (z &&& (3 : Int32)).toInt ≤ 3 := c_and z 3 (by decide)
theorem own_sym (a b : List Int32) : (if a = b then (1 : Int32) else 0) = if b = a then 1 else 0 := by
  by_cases h : a = b
  · rw [if_pos h, if_pos h.symm]
  · rw [if_neg h, if_neg (fun q => h q.symm)]
theorem ef_rm0 (m : MethodId) (x0 : Int32) (x1 : Int32) (x2 : Int32) (x3 : Int32) (x4 : Int32) : entryFrame m #[(.int x0), (.int x1), (.int x2), (.int x3), (.int x4)] maxLocals = mkF m 0 #[.val (.int x0), .val (.int x1), .val (.int x2), .val (.int x3), .val (.int x4), .unset, .unset, .unset, .unset, .unset, .unset, .unset, .unset, .unset, .unset, .unset, .unset, .unset, .unset] [] := by first | (simp [entryFrame, mkF, argsToLocals, Value.category, maxLocals]; done) | rfl
def Q0 (Z : State) (pc0 : Int32) (pc1 : Int32) (pc2 : Int32) (pd : Int32) (pf : Int32) (zc : Int32) (fm : Value) (wN : Addr) (h0 : Heap) (n0 : Nat) (v : Option Value) (h : Heap) (L : List Loc) : Prop := v = some (.int 1) ∧ Fr n0 L
set_option maxRecDepth 65536 in
set_option maxHeartbeats 40000000 in
theorem rm0 (l : Launch) (Z : State) (a0 : Array Value) (hw : ∀ d ∈ tables_1, d.before a0 Z = true) (ws : List Jvm.Cond) (pc0 : Int32) (pc1 : Int32) (pc2 : Int32) (pd : Int32) (pf : Int32) (zc : Int32) (fm : Value) (wN : Addr) (h0 : Heap) (n0 : Nat) (Z0 : n0 ≤ h0.size) (O : Old Z n0 h0) (S_ad : Sta Z Z.heap "java/lang/StringUTF16" "$assertionsDisabled" "Z" (.int (1 : Int32))) (S_hi : Sta Z Z.heap "java/lang/StringUTF16" "HI_BYTE_SHIFT" "I" (.int (0 : Int32))) (S_lo : Sta Z Z.heap "java/lang/StringUTF16" "LO_BYTE_SHIFT" "I" (.int (8 : Int32))) (S_c : Sta Z Z.heap "java/lang/String" "COMPACT_STRINGS" "Z" (.int zc)) (hzc : ¬ zc = (0 : Int32)) (S_f : Sta Z Z.heap "jdk/internal/util/Preconditions" "SIOOBE_FORMATTER" "Ljava/util/function/BiFunction;" fm) (rfm : fm.isRef = true) (S_N : Sta Z Z.heap "com/example/attestrail/attestrail/json/JsonLiteral" "NULL" "Lcom/example/attestrail/attestrail/json/JsonLiteral;" (.ref wN)) (E_N : Exa Z Z.heap wN "com/example/attestrail/attestrail/json/JsonLiteral") :
    MetFree l x (head1 (Jvm.Cond.code x code maxLocals ret :: ws) room_1) (fun a U => a = #[(.int pc0), (.int pc1), (.int pc2), (.int pd), (.int pf)] ∧ Z.Warmed39 U.vm ∧ U.heap = h0 ∧ CHv Z EL0 U.vm h0) (fun _ _ _ _ _ => True) (fun _ U o U' => ∃ v L, o = .returned v ∧ Q0 Z pc0 pc1 pc2 pd pf zc fm wN h0 n0 v U'.heap L ∧ ReturnedEndW U o U' L room_1.cells room_1.slots) := by
  refine MetFree.of_bodySF (plainFor_of_name pn_2) hisR ?_
  intro p e s m args below meth c s₁ Bd hml0 hP hK
  obtain ⟨rfl, hZ, hh, hCH⟩ := hP
  have hx := Bd.exec
  have hby := Bd.bytes
  have hml : c.maxLocals = 19 := hml0
  have hown : s.vm.findClass "com/example/attestrail/attestrail/json/JsonStringEqualsPinLaw" = some m.cls := findClass_of_methodNamed Bd.named
  have hnm := (name_of_methodNamed Bd.named Bd.method).1
  have X0 : Stand p l e room_1 (s.setVm s.vm) m #[(.int pc0), (.int pc1), (.int pc2), (.int pd), (.int pf)] below meth c s₁ [] 0 0 := Stand.of_body Bd
  have e0 : s₁.heap = h0 := by rw [← hh, Bd.state]; rfl
  have N0 := Fr.nil n0
  have pre0 : ∀ t, Steps p.tables e below (s₁.setTop (mkF m 0 #[.val (.int pc0), .val (.int pc1), .val (.int pc2), .val (.int pd), .val (.int pf), .unset, .unset, .unset, .unset, .unset, .unset, .unset, .unset, .unset, .unset, .unset, .unset, .unset, .unset] [])) t → Steps p.tables e below (s₁.setTop (entryFrame m #[(.int pc0), (.int pc1), (.int pc2), (.int pd), (.int pf)] maxLocals)) t := fun t k => castTop (ef_rm0 m pc0 pc1 pc2 pd pf) k
  have hEL : EW Z a0 EL0 := own_EW hw
  have CH0 : CHr Z EL0 s.vm h0 s.vm h0 := CHr.refl hCH
  have hS0 : s.Since s.vm 0 := (State.WarmedH.refl s).since 0
  have hwS : ∀ a ∈ Bundle.stringAtoms, a.before a0 Z = true := fun d hd => hw d ((by decide +kernel : ∀ d ∈ Bundle.stringAtoms, d ∈ tables_1) d hd)
  obtain ⟨_, _, ⟨T1, L1, k1, n1⟩, -, X1, ⟨Lc1, hQ1, l1, y1, z1⟩, st1⟩ := Jvm.LawKit.callS X0 hx (y := (⟨"com/example/attestrail/attestrail/json/JsonStringEqualsPinLaw", "ch", "(I)C"⟩ : MethodName)) hown (mvT hZ (hw _ (List.mem_of_getElem? (i := 0) rfl))) (mvT hZ (hw _ (List.mem_of_getElem? (i := 1) rfl))) (mvT hZ (hw _ (List.mem_of_getElem? (i := 2) rfl))) (mvT hZ (hw _ (List.mem_of_getElem? (i := 3) rfl))) (by decide) (backOf (W := 0) (rm1 l Z a0 hw [] pc0 h0 n0 Z0 ) hZ (hw _ (List.mem_of_getElem? (i := 3) rfl)) (hw _ (List.mem_of_getElem? (i := 2) rfl)) (by decide) (by decide)) (g := (mkF m 1 #[.val (.int pc0), .val (.int pc1), .val (.int pc2), .val (.int pd), .val (.int pf), .unset, .unset, .unset, .unset, .unset, .unset, .unset, .unset, .unset, .unset, .unset, .unset, .unset, .unset] [(.int pc0)])) rfl (by rw [hml]; rfl) (argsL := [(.int pc0)]) (rest := []) (lenOf pd_16 rfl) rfl (by show 2 * 0 + _ ≤ _; exact Nat.le_of_eq rfl) (hb hby at_1) (fun _ _ => ⟨rfl, e0, (by decide : 0 + 0 ≤ _), (by decide : 0 + 0 ≤ _)⟩)
  dsimp only [Pt.U, Pt.locs, Pt.cells, Pt.slots] at X1 l1 y1 z1 st1 hQ1
  subst l1 y1 z1
  obtain ⟨rfl, N1q, e1⟩ := hQ1
  have N1 := Fr.app N0 N1q
  have pre2 : ∀ tq, Steps p.tables e below (T1.setTop (mkF m 6 #[.val (.int pc0), .val (.int pc1), .val (.int pc2), .val (.int pd), .val (.int pf), .val (.int (chF pc0)), .unset, .unset, .unset, .unset, .unset, .unset, .unset, .unset, .unset, .unset, .unset, .unset, .unset] [])) tq → Steps p.tables e below (s₁.setTop (entryFrame m #[(.int pc0), (.int pc1), (.int pc2), (.int pd), (.int pf)] maxLocals)) tq := by
    intro tq kt
    refine pre0 tq ?_
    show Steps p.tables e below (s₁.setTop (mkF m 0 #[.val (.int pc0), .val (.int pc1), .val (.int pc2), .val (.int pd), .val (.int pf), .unset, .unset, .unset, .unset, .unset, .unset, .unset, .unset, .unset, .unset, .unset, .unset, .unset, .unset] [])) _
    refine XS.iloadN X0.here hx rfl (hb hby at_0) rfl ?_
    show Steps p.tables e below (s₁.setTop (mkF m 1 #[.val (.int pc0), .val (.int pc1), .val (.int pc2), .val (.int pd), .val (.int pf), .unset, .unset, .unset, .unset, .unset, .unset, .unset, .unset, .unset, .unset, .unset, .unset, .unset, .unset] [(.int pc0)])) _
    refine st1 _ ?_
    show Steps p.tables e below (T1.setTop (mkF m 4 #[.val (.int pc0), .val (.int pc1), .val (.int pc2), .val (.int pd), .val (.int pf), .unset, .unset, .unset, .unset, .unset, .unset, .unset, .unset, .unset, .unset, .unset, .unset, .unset, .unset] [(.int (chF pc0))])) _
    refine XS.istore X1.here hx rfl (hb hby at_4) rfl (l' := #[.val (.int pc0), .val (.int pc1), .val (.int pc2), .val (.int pd), .val (.int pf), .val (.int (chF pc0)), .unset, .unset, .unset, .unset, .unset, .unset, .unset, .unset, .unset, .unset, .unset, .unset, .unset]) rfl ?_
    show Steps p.tables e below (T1.setTop (mkF m 6 #[.val (.int pc0), .val (.int pc1), .val (.int pc2), .val (.int pd), .val (.int pf), .val (.int (chF pc0)), .unset, .unset, .unset, .unset, .unset, .unset, .unset, .unset, .unset, .unset, .unset, .unset, .unset] [])) _
    exact kt
  obtain ⟨x0, h_x0⟩ : ∃ z : Int32, z = (chF pc0) := ⟨_, rfl⟩
  rw [← h_x0] at pre2
  obtain ⟨_, _, ⟨T3, L3, k3, n3⟩, -, X3, ⟨Lc3, hQ3, l3, y3, z3⟩, st3⟩ := Jvm.LawKit.callS X1 hx (y := (⟨"com/example/attestrail/attestrail/json/JsonStringEqualsPinLaw", "ch", "(I)C"⟩ : MethodName)) hown (mvT hZ (hw _ (List.mem_of_getElem? (i := 0) rfl))) (mvT hZ (hw _ (List.mem_of_getElem? (i := 1) rfl))) (mvT hZ (hw _ (List.mem_of_getElem? (i := 2) rfl))) (mvT hZ (hw _ (List.mem_of_getElem? (i := 3) rfl))) (by decide) (backOf (W := 0) (rm1 l Z a0 hw [] pc1 h0 n0 Z0 ) hZ (hw _ (List.mem_of_getElem? (i := 3) rfl)) (hw _ (List.mem_of_getElem? (i := 2) rfl)) (by decide) (by decide)) (g := (mkF m 7 #[.val (.int pc0), .val (.int pc1), .val (.int pc2), .val (.int pd), .val (.int pf), .val (.int x0), .unset, .unset, .unset, .unset, .unset, .unset, .unset, .unset, .unset, .unset, .unset, .unset, .unset] [(.int pc1)])) rfl (by rw [hml]; rfl) (argsL := [(.int pc1)]) (rest := []) (lenOf pd_16 rfl) rfl (by show 2 * 0 + _ ≤ _; exact Nat.le_of_eq rfl) (hb hby at_7) (fun _ _ => ⟨rfl, e1, (by decide : 0 + 0 ≤ _), (by decide : 0 + 0 ≤ _)⟩)
  dsimp only [Pt.U, Pt.locs, Pt.cells, Pt.slots] at X3 l3 y3 z3 st3 hQ3
  subst l3 y3 z3
  obtain ⟨rfl, N3q, e3⟩ := hQ3
  have N3 := Fr.app N1 N3q
  have pre4 : ∀ tq, Steps p.tables e below (T3.setTop (mkF m 12 #[.val (.int pc0), .val (.int pc1), .val (.int pc2), .val (.int pd), .val (.int pf), .val (.int x0), .val (.int (chF pc1)), .unset, .unset, .unset, .unset, .unset, .unset, .unset, .unset, .unset, .unset, .unset, .unset] [])) tq → Steps p.tables e below (s₁.setTop (entryFrame m #[(.int pc0), (.int pc1), (.int pc2), (.int pd), (.int pf)] maxLocals)) tq := by
    intro tq kt
    refine pre2 tq ?_
    show Steps p.tables e below (T1.setTop (mkF m 6 #[.val (.int pc0), .val (.int pc1), .val (.int pc2), .val (.int pd), .val (.int pf), .val (.int x0), .unset, .unset, .unset, .unset, .unset, .unset, .unset, .unset, .unset, .unset, .unset, .unset, .unset] [])) _
    refine XS.iloadN X1.here hx rfl (hb hby at_6) rfl ?_
    show Steps p.tables e below (T1.setTop (mkF m 7 #[.val (.int pc0), .val (.int pc1), .val (.int pc2), .val (.int pd), .val (.int pf), .val (.int x0), .unset, .unset, .unset, .unset, .unset, .unset, .unset, .unset, .unset, .unset, .unset, .unset, .unset] [(.int pc1)])) _
    refine st3 _ ?_
    show Steps p.tables e below (T3.setTop (mkF m 10 #[.val (.int pc0), .val (.int pc1), .val (.int pc2), .val (.int pd), .val (.int pf), .val (.int x0), .unset, .unset, .unset, .unset, .unset, .unset, .unset, .unset, .unset, .unset, .unset, .unset, .unset] [(.int (chF pc1))])) _
    refine XS.istore X3.here hx rfl (hb hby at_10) rfl (l' := #[.val (.int pc0), .val (.int pc1), .val (.int pc2), .val (.int pd), .val (.int pf), .val (.int x0), .val (.int (chF pc1)), .unset, .unset, .unset, .unset, .unset, .unset, .unset, .unset, .unset, .unset, .unset, .unset]) rfl ?_
    show Steps p.tables e below (T3.setTop (mkF m 12 #[.val (.int pc0), .val (.int pc1), .val (.int pc2), .val (.int pd), .val (.int pf), .val (.int x0), .val (.int (chF pc1)), .unset, .unset, .unset, .unset, .unset, .unset, .unset, .unset, .unset, .unset, .unset, .unset] [])) _
    exact kt
  obtain ⟨x1, h_x1⟩ : ∃ z : Int32, z = (chF pc1) := ⟨_, rfl⟩
  rw [← h_x1] at pre4
  obtain ⟨_, _, ⟨T5, L5, k5, n5⟩, -, X5, ⟨Lc5, hQ5, l5, y5, z5⟩, st5⟩ := Jvm.LawKit.callS X3 hx (y := (⟨"com/example/attestrail/attestrail/json/JsonStringEqualsPinLaw", "ch", "(I)C"⟩ : MethodName)) hown (mvT hZ (hw _ (List.mem_of_getElem? (i := 0) rfl))) (mvT hZ (hw _ (List.mem_of_getElem? (i := 1) rfl))) (mvT hZ (hw _ (List.mem_of_getElem? (i := 2) rfl))) (mvT hZ (hw _ (List.mem_of_getElem? (i := 3) rfl))) (by decide) (backOf (W := 0) (rm1 l Z a0 hw [] pc2 h0 n0 Z0 ) hZ (hw _ (List.mem_of_getElem? (i := 3) rfl)) (hw _ (List.mem_of_getElem? (i := 2) rfl)) (by decide) (by decide)) (g := (mkF m 13 #[.val (.int pc0), .val (.int pc1), .val (.int pc2), .val (.int pd), .val (.int pf), .val (.int x0), .val (.int x1), .unset, .unset, .unset, .unset, .unset, .unset, .unset, .unset, .unset, .unset, .unset, .unset] [(.int pc2)])) rfl (by rw [hml]; rfl) (argsL := [(.int pc2)]) (rest := []) (lenOf pd_16 rfl) rfl (by show 2 * 0 + _ ≤ _; exact Nat.le_of_eq rfl) (hb hby at_13) (fun _ _ => ⟨rfl, e3, (by decide : 0 + 0 ≤ _), (by decide : 0 + 0 ≤ _)⟩)
  dsimp only [Pt.U, Pt.locs, Pt.cells, Pt.slots] at X5 l5 y5 z5 st5 hQ5
  subst l5 y5 z5
  obtain ⟨rfl, N5q, e5⟩ := hQ5
  have N5 := Fr.app N3 N5q
  have pre6 : ∀ tq, Steps p.tables e below (T5.setTop (mkF m 18 #[.val (.int pc0), .val (.int pc1), .val (.int pc2), .val (.int pd), .val (.int pf), .val (.int x0), .val (.int x1), .val (.int (chF pc2)), .unset, .unset, .unset, .unset, .unset, .unset, .unset, .unset, .unset, .unset, .unset] [])) tq → Steps p.tables e below (s₁.setTop (entryFrame m #[(.int pc0), (.int pc1), (.int pc2), (.int pd), (.int pf)] maxLocals)) tq := by
    intro tq kt
    refine pre4 tq ?_
    show Steps p.tables e below (T3.setTop (mkF m 12 #[.val (.int pc0), .val (.int pc1), .val (.int pc2), .val (.int pd), .val (.int pf), .val (.int x0), .val (.int x1), .unset, .unset, .unset, .unset, .unset, .unset, .unset, .unset, .unset, .unset, .unset, .unset] [])) _
    refine XS.iloadN X3.here hx rfl (hb hby at_12) rfl ?_
    show Steps p.tables e below (T3.setTop (mkF m 13 #[.val (.int pc0), .val (.int pc1), .val (.int pc2), .val (.int pd), .val (.int pf), .val (.int x0), .val (.int x1), .unset, .unset, .unset, .unset, .unset, .unset, .unset, .unset, .unset, .unset, .unset, .unset] [(.int pc2)])) _
    refine st5 _ ?_
    show Steps p.tables e below (T5.setTop (mkF m 16 #[.val (.int pc0), .val (.int pc1), .val (.int pc2), .val (.int pd), .val (.int pf), .val (.int x0), .val (.int x1), .unset, .unset, .unset, .unset, .unset, .unset, .unset, .unset, .unset, .unset, .unset, .unset] [(.int (chF pc2))])) _
    refine XS.istore X5.here hx rfl (hb hby at_16) rfl (l' := #[.val (.int pc0), .val (.int pc1), .val (.int pc2), .val (.int pd), .val (.int pf), .val (.int x0), .val (.int x1), .val (.int (chF pc2)), .unset, .unset, .unset, .unset, .unset, .unset, .unset, .unset, .unset, .unset, .unset]) rfl ?_
    show Steps p.tables e below (T5.setTop (mkF m 18 #[.val (.int pc0), .val (.int pc1), .val (.int pc2), .val (.int pd), .val (.int pf), .val (.int x0), .val (.int x1), .val (.int (chF pc2)), .unset, .unset, .unset, .unset, .unset, .unset, .unset, .unset, .unset, .unset, .unset] [])) _
    exact kt
  obtain ⟨x2, h_x2⟩ : ∃ z : Int32, z = (chF pc2) := ⟨_, rfl⟩
  rw [← h_x2] at pre6
  obtain ⟨_, _, ⟨T7, L7, k7, n7⟩, -, X7, ⟨Lc7, hQ7, l7, y7, z7⟩, st7⟩ := Jvm.LawKit.callS X5 hx (y := (⟨"com/example/attestrail/attestrail/json/JsonStringEqualsPinLaw", "ch", "(I)C"⟩ : MethodName)) hown (mvT hZ (hw _ (List.mem_of_getElem? (i := 0) rfl))) (mvT hZ (hw _ (List.mem_of_getElem? (i := 1) rfl))) (mvT hZ (hw _ (List.mem_of_getElem? (i := 2) rfl))) (mvT hZ (hw _ (List.mem_of_getElem? (i := 3) rfl))) (by decide) (backOf (W := 0) (rm1 l Z a0 hw [] ((pd.toUInt32 >>> ((2 : Int32) &&& 31).toUInt32).toInt32) h0 n0 Z0 ) hZ (hw _ (List.mem_of_getElem? (i := 3) rfl)) (hw _ (List.mem_of_getElem? (i := 2) rfl)) (by decide) (by decide)) (g := (mkF m 26 #[.val (.int pc0), .val (.int pc1), .val (.int pc2), .val (.int pd), .val (.int pf), .val (.int x0), .val (.int x1), .val (.int x2), .val (.int (pd &&& (3 : Int32))), .unset, .unset, .unset, .unset, .unset, .unset, .unset, .unset, .unset, .unset] [(.int ((pd.toUInt32 >>> ((2 : Int32) &&& 31).toUInt32).toInt32))])) rfl (by rw [hml]; rfl) (argsL := [(.int ((pd.toUInt32 >>> ((2 : Int32) &&& 31).toUInt32).toInt32))]) (rest := []) (lenOf pd_16 rfl) rfl (by show 2 * 0 + _ ≤ _; exact Nat.le_of_eq rfl) (hb hby at_26) (fun _ _ => ⟨rfl, e5, (by decide : 0 + 0 ≤ _), (by decide : 0 + 0 ≤ _)⟩)
  dsimp only [Pt.U, Pt.locs, Pt.cells, Pt.slots] at X7 l7 y7 z7 st7 hQ7
  subst l7 y7 z7
  obtain ⟨rfl, N7q, e7⟩ := hQ7
  have N7 := Fr.app N5 N7q
  have pre8 : ∀ tq, Steps p.tables e below (T7.setTop (mkF m 31 #[.val (.int pc0), .val (.int pc1), .val (.int pc2), .val (.int pd), .val (.int pf), .val (.int x0), .val (.int x1), .val (.int x2), .val (.int (pd &&& (3 : Int32))), .val (.int (chF ((pd.toUInt32 >>> ((2 : Int32) &&& 31).toUInt32).toInt32))), .unset, .unset, .unset, .unset, .unset, .unset, .unset, .unset, .unset] [])) tq → Steps p.tables e below (s₁.setTop (entryFrame m #[(.int pc0), (.int pc1), (.int pc2), (.int pd), (.int pf)] maxLocals)) tq := by
    intro tq kt
    refine pre6 tq ?_
    show Steps p.tables e below (T5.setTop (mkF m 18 #[.val (.int pc0), .val (.int pc1), .val (.int pc2), .val (.int pd), .val (.int pf), .val (.int x0), .val (.int x1), .val (.int x2), .unset, .unset, .unset, .unset, .unset, .unset, .unset, .unset, .unset, .unset, .unset] [])) _
    refine XS.iloadN X5.here hx rfl (hb hby at_18) rfl ?_
    show Steps p.tables e below (T5.setTop (mkF m 19 #[.val (.int pc0), .val (.int pc1), .val (.int pc2), .val (.int pd), .val (.int pf), .val (.int x0), .val (.int x1), .val (.int x2), .unset, .unset, .unset, .unset, .unset, .unset, .unset, .unset, .unset, .unset, .unset] [(.int pd)])) _
    refine XS.iconst X5.here hx rfl (hb hby at_19) ?_
    show Steps p.tables e below (T5.setTop (mkF m 20 #[.val (.int pc0), .val (.int pc1), .val (.int pc2), .val (.int pd), .val (.int pf), .val (.int x0), .val (.int x1), .val (.int x2), .unset, .unset, .unset, .unset, .unset, .unset, .unset, .unset, .unset, .unset, .unset] [(.int (3 : Int32)), (.int pd)])) _
    refine XS.iand X5.here hx rfl (hb hby at_20) rfl ?_
    show Steps p.tables e below (T5.setTop (mkF m 21 #[.val (.int pc0), .val (.int pc1), .val (.int pc2), .val (.int pd), .val (.int pf), .val (.int x0), .val (.int x1), .val (.int x2), .unset, .unset, .unset, .unset, .unset, .unset, .unset, .unset, .unset, .unset, .unset] [(.int (pd &&& (3 : Int32)))])) _
    refine XS.istore X5.here hx rfl (hb hby at_21) rfl (l' := #[.val (.int pc0), .val (.int pc1), .val (.int pc2), .val (.int pd), .val (.int pf), .val (.int x0), .val (.int x1), .val (.int x2), .val (.int (pd &&& (3 : Int32))), .unset, .unset, .unset, .unset, .unset, .unset, .unset, .unset, .unset, .unset]) rfl ?_
    show Steps p.tables e below (T5.setTop (mkF m 23 #[.val (.int pc0), .val (.int pc1), .val (.int pc2), .val (.int pd), .val (.int pf), .val (.int x0), .val (.int x1), .val (.int x2), .val (.int (pd &&& (3 : Int32))), .unset, .unset, .unset, .unset, .unset, .unset, .unset, .unset, .unset, .unset] [])) _
    refine XS.iloadN X5.here hx rfl (hb hby at_23) rfl ?_
    show Steps p.tables e below (T5.setTop (mkF m 24 #[.val (.int pc0), .val (.int pc1), .val (.int pc2), .val (.int pd), .val (.int pf), .val (.int x0), .val (.int x1), .val (.int x2), .val (.int (pd &&& (3 : Int32))), .unset, .unset, .unset, .unset, .unset, .unset, .unset, .unset, .unset, .unset] [(.int pd)])) _
    refine XS.iconst X5.here hx rfl (hb hby at_24) ?_
    show Steps p.tables e below (T5.setTop (mkF m 25 #[.val (.int pc0), .val (.int pc1), .val (.int pc2), .val (.int pd), .val (.int pf), .val (.int x0), .val (.int x1), .val (.int x2), .val (.int (pd &&& (3 : Int32))), .unset, .unset, .unset, .unset, .unset, .unset, .unset, .unset, .unset, .unset] [(.int (2 : Int32)), (.int pd)])) _
    refine XS.iushr X5.here hx rfl (hb hby at_25) rfl ?_
    show Steps p.tables e below (T5.setTop (mkF m 26 #[.val (.int pc0), .val (.int pc1), .val (.int pc2), .val (.int pd), .val (.int pf), .val (.int x0), .val (.int x1), .val (.int x2), .val (.int (pd &&& (3 : Int32))), .unset, .unset, .unset, .unset, .unset, .unset, .unset, .unset, .unset, .unset] [(.int ((pd.toUInt32 >>> ((2 : Int32) &&& 31).toUInt32).toInt32))])) _
    refine st7 _ ?_
    show Steps p.tables e below (T7.setTop (mkF m 29 #[.val (.int pc0), .val (.int pc1), .val (.int pc2), .val (.int pd), .val (.int pf), .val (.int x0), .val (.int x1), .val (.int x2), .val (.int (pd &&& (3 : Int32))), .unset, .unset, .unset, .unset, .unset, .unset, .unset, .unset, .unset, .unset] [(.int (chF ((pd.toUInt32 >>> ((2 : Int32) &&& 31).toUInt32).toInt32)))])) _
    refine XS.istore X7.here hx rfl (hb hby at_29) rfl (l' := #[.val (.int pc0), .val (.int pc1), .val (.int pc2), .val (.int pd), .val (.int pf), .val (.int x0), .val (.int x1), .val (.int x2), .val (.int (pd &&& (3 : Int32))), .val (.int (chF ((pd.toUInt32 >>> ((2 : Int32) &&& 31).toUInt32).toInt32))), .unset, .unset, .unset, .unset, .unset, .unset, .unset, .unset, .unset]) rfl ?_
    show Steps p.tables e below (T7.setTop (mkF m 31 #[.val (.int pc0), .val (.int pc1), .val (.int pc2), .val (.int pd), .val (.int pf), .val (.int x0), .val (.int x1), .val (.int x2), .val (.int (pd &&& (3 : Int32))), .val (.int (chF ((pd.toUInt32 >>> ((2 : Int32) &&& 31).toUInt32).toInt32))), .unset, .unset, .unset, .unset, .unset, .unset, .unset, .unset, .unset] [])) _
    exact kt
  obtain ⟨xe, h_xe⟩ : ∃ z : Int32, z = (chF ((pd.toUInt32 >>> ((2 : Int32) &&& 31).toUInt32).toInt32)) := ⟨_, rfl⟩
  rw [← h_xe] at pre8
  have pre9 : ∀ tq, Steps p.tables e below (T7.setTop (mkF m 33 #[.val (.int pc0), .val (.int pc1), .val (.int pc2), .val (.int pd), .val (.int pf), .val (.int x0), .val (.int x1), .val (.int x2), .val (.int (pd &&& (3 : Int32))), .val (.int xe), .unset, .unset, .unset, .unset, .unset, .unset, .unset, .unset, .unset] [(.int (pd &&& (3 : Int32)))])) tq → Steps p.tables e below (s₁.setTop (entryFrame m #[(.int pc0), (.int pc1), (.int pc2), (.int pd), (.int pf)] maxLocals)) tq := by
    intro tq kt
    refine pre8 tq ?_
    show Steps p.tables e below (T7.setTop (mkF m 31 #[.val (.int pc0), .val (.int pc1), .val (.int pc2), .val (.int pd), .val (.int pf), .val (.int x0), .val (.int x1), .val (.int x2), .val (.int (pd &&& (3 : Int32))), .val (.int xe), .unset, .unset, .unset, .unset, .unset, .unset, .unset, .unset, .unset] [])) _
    refine XS.iload X7.here hx rfl (hb hby at_31) rfl ?_
    show Steps p.tables e below (T7.setTop (mkF m 33 #[.val (.int pc0), .val (.int pc1), .val (.int pc2), .val (.int pd), .val (.int pf), .val (.int x0), .val (.int x1), .val (.int x2), .val (.int (pd &&& (3 : Int32))), .val (.int xe), .unset, .unset, .unset, .unset, .unset, .unset, .unset, .unset, .unset] [(.int (pd &&& (3 : Int32)))])) _
    exact kt
  obtain ⟨y0, hv_y0, pre10⟩ : ∃ y0 : Int32, y0 = (if (pd &&& (3 : Int32)) = (0 : Int32) then xe else x0) ∧ ∀ tq, Steps p.tables e below (T7.setTop (mkF m 43 #[.val (.int pc0), .val (.int pc1), .val (.int pc2), .val (.int pd), .val (.int pf), .val (.int x0), .val (.int x1), .val (.int x2), .val (.int (pd &&& (3 : Int32))), .val (.int xe), .unset, .unset, .unset, .unset, .unset, .unset, .unset, .unset, .unset] [(.int y0)])) tq → Steps p.tables e below (s₁.setTop (entryFrame m #[(.int pc0), (.int pc1), (.int pc2), (.int pd), (.int pf)] maxLocals)) tq := by
    by_cases hc33_11 : (pd &&& (3 : Int32)) = (0 : Int32)
    · have pre12 : ∀ tq, Steps p.tables e below (T7.setTop (mkF m 43 #[.val (.int pc0), .val (.int pc1), .val (.int pc2), .val (.int pd), .val (.int pf), .val (.int x0), .val (.int x1), .val (.int x2), .val (.int (pd &&& (3 : Int32))), .val (.int xe), .unset, .unset, .unset, .unset, .unset, .unset, .unset, .unset, .unset] [(.int xe)])) tq → Steps p.tables e below (s₁.setTop (entryFrame m #[(.int pc0), (.int pc1), (.int pc2), (.int pd), (.int pf)] maxLocals)) tq := by
        intro tq kt
        refine pre9 tq ?_
        show Steps p.tables e below (T7.setTop (mkF m 33 #[.val (.int pc0), .val (.int pc1), .val (.int pc2), .val (.int pd), .val (.int pf), .val (.int x0), .val (.int x1), .val (.int x2), .val (.int (pd &&& (3 : Int32))), .val (.int xe), .unset, .unset, .unset, .unset, .unset, .unset, .unset, .unset, .unset] [(.int (pd &&& (3 : Int32)))])) _
        refine XS.ifNo X7.here hx rfl (hb hby at_33) rfl ((if0 _ _).trans (teq hc33_11).2) ?_
        show Steps p.tables e below (T7.setTop (mkF m 36 #[.val (.int pc0), .val (.int pc1), .val (.int pc2), .val (.int pd), .val (.int pf), .val (.int x0), .val (.int x1), .val (.int x2), .val (.int (pd &&& (3 : Int32))), .val (.int xe), .unset, .unset, .unset, .unset, .unset, .unset, .unset, .unset, .unset] [])) _
        refine XS.iload X7.here hx rfl (hb hby at_36) rfl ?_
        show Steps p.tables e below (T7.setTop (mkF m 38 #[.val (.int pc0), .val (.int pc1), .val (.int pc2), .val (.int pd), .val (.int pf), .val (.int x0), .val (.int x1), .val (.int x2), .val (.int (pd &&& (3 : Int32))), .val (.int xe), .unset, .unset, .unset, .unset, .unset, .unset, .unset, .unset, .unset] [(.int xe)])) _
        refine XS.goto X7.here hx rfl (pc0 := 38) (pc' := 43) rfl (hb hby at_38) (by decide) (by decide) ?_
        show Steps p.tables e below (T7.setTop (mkF m 43 #[.val (.int pc0), .val (.int pc1), .val (.int pc2), .val (.int pd), .val (.int pf), .val (.int x0), .val (.int x1), .val (.int x2), .val (.int (pd &&& (3 : Int32))), .val (.int xe), .unset, .unset, .unset, .unset, .unset, .unset, .unset, .unset, .unset] [(.int xe)])) _
        exact kt
      exact ⟨xe, by rw [if_pos hc33_11], pre12⟩
    · have pre13 : ∀ tq, Steps p.tables e below (T7.setTop (mkF m 43 #[.val (.int pc0), .val (.int pc1), .val (.int pc2), .val (.int pd), .val (.int pf), .val (.int x0), .val (.int x1), .val (.int x2), .val (.int (pd &&& (3 : Int32))), .val (.int xe), .unset, .unset, .unset, .unset, .unset, .unset, .unset, .unset, .unset] [(.int x0)])) tq → Steps p.tables e below (s₁.setTop (entryFrame m #[(.int pc0), (.int pc1), (.int pc2), (.int pd), (.int pf)] maxLocals)) tq := by
        intro tq kt
        refine pre9 tq ?_
        show Steps p.tables e below (T7.setTop (mkF m 33 #[.val (.int pc0), .val (.int pc1), .val (.int pc2), .val (.int pd), .val (.int pf), .val (.int x0), .val (.int x1), .val (.int x2), .val (.int (pd &&& (3 : Int32))), .val (.int xe), .unset, .unset, .unset, .unset, .unset, .unset, .unset, .unset, .unset] [(.int (pd &&& (3 : Int32)))])) _
        refine XS.ifYes X7.here hx rfl (pc0 := 33) (pc' := 41) rfl (hb hby at_33) rfl ((if0 _ _).trans (feq hc33_11).2) (by decide) (by decide) ?_
        show Steps p.tables e below (T7.setTop (mkF m 41 #[.val (.int pc0), .val (.int pc1), .val (.int pc2), .val (.int pd), .val (.int pf), .val (.int x0), .val (.int x1), .val (.int x2), .val (.int (pd &&& (3 : Int32))), .val (.int xe), .unset, .unset, .unset, .unset, .unset, .unset, .unset, .unset, .unset] [])) _
        refine XS.iload X7.here hx rfl (hb hby at_41) rfl ?_
        show Steps p.tables e below (T7.setTop (mkF m 43 #[.val (.int pc0), .val (.int pc1), .val (.int pc2), .val (.int pd), .val (.int pf), .val (.int x0), .val (.int x1), .val (.int x2), .val (.int (pd &&& (3 : Int32))), .val (.int xe), .unset, .unset, .unset, .unset, .unset, .unset, .unset, .unset, .unset] [(.int x0)])) _
        exact kt
      exact ⟨x0, by rw [if_neg hc33_11], pre13⟩
  have pre14 : ∀ tq, Steps p.tables e below (T7.setTop (mkF m 48 #[.val (.int pc0), .val (.int pc1), .val (.int pc2), .val (.int pd), .val (.int pf), .val (.int x0), .val (.int x1), .val (.int x2), .val (.int (pd &&& (3 : Int32))), .val (.int xe), .val (.int y0), .unset, .unset, .unset, .unset, .unset, .unset, .unset, .unset] [(.int (1 : Int32)), (.int (pd &&& (3 : Int32)))])) tq → Steps p.tables e below (s₁.setTop (entryFrame m #[(.int pc0), (.int pc1), (.int pc2), (.int pd), (.int pf)] maxLocals)) tq := by
    intro tq kt
    refine pre10 tq ?_
    show Steps p.tables e below (T7.setTop (mkF m 43 #[.val (.int pc0), .val (.int pc1), .val (.int pc2), .val (.int pd), .val (.int pf), .val (.int x0), .val (.int x1), .val (.int x2), .val (.int (pd &&& (3 : Int32))), .val (.int xe), .unset, .unset, .unset, .unset, .unset, .unset, .unset, .unset, .unset] [(.int y0)])) _
    refine XS.istore X7.here hx rfl (hb hby at_43) rfl (l' := #[.val (.int pc0), .val (.int pc1), .val (.int pc2), .val (.int pd), .val (.int pf), .val (.int x0), .val (.int x1), .val (.int x2), .val (.int (pd &&& (3 : Int32))), .val (.int xe), .val (.int y0), .unset, .unset, .unset, .unset, .unset, .unset, .unset, .unset]) rfl ?_
    show Steps p.tables e below (T7.setTop (mkF m 45 #[.val (.int pc0), .val (.int pc1), .val (.int pc2), .val (.int pd), .val (.int pf), .val (.int x0), .val (.int x1), .val (.int x2), .val (.int (pd &&& (3 : Int32))), .val (.int xe), .val (.int y0), .unset, .unset, .unset, .unset, .unset, .unset, .unset, .unset] [])) _
    refine XS.iload X7.here hx rfl (hb hby at_45) rfl ?_
    show Steps p.tables e below (T7.setTop (mkF m 47 #[.val (.int pc0), .val (.int pc1), .val (.int pc2), .val (.int pd), .val (.int pf), .val (.int x0), .val (.int x1), .val (.int x2), .val (.int (pd &&& (3 : Int32))), .val (.int xe), .val (.int y0), .unset, .unset, .unset, .unset, .unset, .unset, .unset, .unset] [(.int (pd &&& (3 : Int32)))])) _
    refine XS.iconst X7.here hx rfl (hb hby at_47) ?_
    show Steps p.tables e below (T7.setTop (mkF m 48 #[.val (.int pc0), .val (.int pc1), .val (.int pc2), .val (.int pd), .val (.int pf), .val (.int x0), .val (.int x1), .val (.int x2), .val (.int (pd &&& (3 : Int32))), .val (.int xe), .val (.int y0), .unset, .unset, .unset, .unset, .unset, .unset, .unset, .unset] [(.int (1 : Int32)), (.int (pd &&& (3 : Int32)))])) _
    exact kt
  obtain ⟨y1, hv_y1, pre15⟩ : ∃ y1 : Int32, y1 = (if (pd &&& (3 : Int32)) = (1 : Int32) then xe else x1) ∧ ∀ tq, Steps p.tables e below (T7.setTop (mkF m 58 #[.val (.int pc0), .val (.int pc1), .val (.int pc2), .val (.int pd), .val (.int pf), .val (.int x0), .val (.int x1), .val (.int x2), .val (.int (pd &&& (3 : Int32))), .val (.int xe), .val (.int y0), .unset, .unset, .unset, .unset, .unset, .unset, .unset, .unset] [(.int y1)])) tq → Steps p.tables e below (s₁.setTop (entryFrame m #[(.int pc0), (.int pc1), (.int pc2), (.int pd), (.int pf)] maxLocals)) tq := by
    by_cases hc48_16 : (pd &&& (3 : Int32)) = (1 : Int32)
    · have pre17 : ∀ tq, Steps p.tables e below (T7.setTop (mkF m 58 #[.val (.int pc0), .val (.int pc1), .val (.int pc2), .val (.int pd), .val (.int pf), .val (.int x0), .val (.int x1), .val (.int x2), .val (.int (pd &&& (3 : Int32))), .val (.int xe), .val (.int y0), .unset, .unset, .unset, .unset, .unset, .unset, .unset, .unset] [(.int xe)])) tq → Steps p.tables e below (s₁.setTop (entryFrame m #[(.int pc0), (.int pc1), (.int pc2), (.int pd), (.int pf)] maxLocals)) tq := by
        intro tq kt
        refine pre14 tq ?_
        show Steps p.tables e below (T7.setTop (mkF m 48 #[.val (.int pc0), .val (.int pc1), .val (.int pc2), .val (.int pd), .val (.int pf), .val (.int x0), .val (.int x1), .val (.int x2), .val (.int (pd &&& (3 : Int32))), .val (.int xe), .val (.int y0), .unset, .unset, .unset, .unset, .unset, .unset, .unset, .unset] [(.int (1 : Int32)), (.int (pd &&& (3 : Int32)))])) _
        refine XS.icmpNo X7.here hx rfl (hb hby at_48) rfl (teq hc48_16).2 ?_
        show Steps p.tables e below (T7.setTop (mkF m 51 #[.val (.int pc0), .val (.int pc1), .val (.int pc2), .val (.int pd), .val (.int pf), .val (.int x0), .val (.int x1), .val (.int x2), .val (.int (pd &&& (3 : Int32))), .val (.int xe), .val (.int y0), .unset, .unset, .unset, .unset, .unset, .unset, .unset, .unset] [])) _
        refine XS.iload X7.here hx rfl (hb hby at_51) rfl ?_
        show Steps p.tables e below (T7.setTop (mkF m 53 #[.val (.int pc0), .val (.int pc1), .val (.int pc2), .val (.int pd), .val (.int pf), .val (.int x0), .val (.int x1), .val (.int x2), .val (.int (pd &&& (3 : Int32))), .val (.int xe), .val (.int y0), .unset, .unset, .unset, .unset, .unset, .unset, .unset, .unset] [(.int xe)])) _
        refine XS.goto X7.here hx rfl (pc0 := 53) (pc' := 58) rfl (hb hby at_53) (by decide) (by decide) ?_
        show Steps p.tables e below (T7.setTop (mkF m 58 #[.val (.int pc0), .val (.int pc1), .val (.int pc2), .val (.int pd), .val (.int pf), .val (.int x0), .val (.int x1), .val (.int x2), .val (.int (pd &&& (3 : Int32))), .val (.int xe), .val (.int y0), .unset, .unset, .unset, .unset, .unset, .unset, .unset, .unset] [(.int xe)])) _
        exact kt
      exact ⟨xe, by rw [if_pos hc48_16], pre17⟩
    · have pre18 : ∀ tq, Steps p.tables e below (T7.setTop (mkF m 58 #[.val (.int pc0), .val (.int pc1), .val (.int pc2), .val (.int pd), .val (.int pf), .val (.int x0), .val (.int x1), .val (.int x2), .val (.int (pd &&& (3 : Int32))), .val (.int xe), .val (.int y0), .unset, .unset, .unset, .unset, .unset, .unset, .unset, .unset] [(.int x1)])) tq → Steps p.tables e below (s₁.setTop (entryFrame m #[(.int pc0), (.int pc1), (.int pc2), (.int pd), (.int pf)] maxLocals)) tq := by
        intro tq kt
        refine pre14 tq ?_
        show Steps p.tables e below (T7.setTop (mkF m 48 #[.val (.int pc0), .val (.int pc1), .val (.int pc2), .val (.int pd), .val (.int pf), .val (.int x0), .val (.int x1), .val (.int x2), .val (.int (pd &&& (3 : Int32))), .val (.int xe), .val (.int y0), .unset, .unset, .unset, .unset, .unset, .unset, .unset, .unset] [(.int (1 : Int32)), (.int (pd &&& (3 : Int32)))])) _
        refine XS.icmpYes X7.here hx rfl (pc0 := 48) (pc' := 56) rfl (hb hby at_48) rfl (feq hc48_16).2 (by decide) (by decide) ?_
        show Steps p.tables e below (T7.setTop (mkF m 56 #[.val (.int pc0), .val (.int pc1), .val (.int pc2), .val (.int pd), .val (.int pf), .val (.int x0), .val (.int x1), .val (.int x2), .val (.int (pd &&& (3 : Int32))), .val (.int xe), .val (.int y0), .unset, .unset, .unset, .unset, .unset, .unset, .unset, .unset] [])) _
        refine XS.iload X7.here hx rfl (hb hby at_56) rfl ?_
        show Steps p.tables e below (T7.setTop (mkF m 58 #[.val (.int pc0), .val (.int pc1), .val (.int pc2), .val (.int pd), .val (.int pf), .val (.int x0), .val (.int x1), .val (.int x2), .val (.int (pd &&& (3 : Int32))), .val (.int xe), .val (.int y0), .unset, .unset, .unset, .unset, .unset, .unset, .unset, .unset] [(.int x1)])) _
        exact kt
      exact ⟨x1, by rw [if_neg hc48_16], pre18⟩
  have pre19 : ∀ tq, Steps p.tables e below (T7.setTop (mkF m 63 #[.val (.int pc0), .val (.int pc1), .val (.int pc2), .val (.int pd), .val (.int pf), .val (.int x0), .val (.int x1), .val (.int x2), .val (.int (pd &&& (3 : Int32))), .val (.int xe), .val (.int y0), .val (.int y1), .unset, .unset, .unset, .unset, .unset, .unset, .unset] [(.int (2 : Int32)), (.int (pd &&& (3 : Int32)))])) tq → Steps p.tables e below (s₁.setTop (entryFrame m #[(.int pc0), (.int pc1), (.int pc2), (.int pd), (.int pf)] maxLocals)) tq := by
    intro tq kt
    refine pre15 tq ?_
    show Steps p.tables e below (T7.setTop (mkF m 58 #[.val (.int pc0), .val (.int pc1), .val (.int pc2), .val (.int pd), .val (.int pf), .val (.int x0), .val (.int x1), .val (.int x2), .val (.int (pd &&& (3 : Int32))), .val (.int xe), .val (.int y0), .unset, .unset, .unset, .unset, .unset, .unset, .unset, .unset] [(.int y1)])) _
    refine XS.istore X7.here hx rfl (hb hby at_58) rfl (l' := #[.val (.int pc0), .val (.int pc1), .val (.int pc2), .val (.int pd), .val (.int pf), .val (.int x0), .val (.int x1), .val (.int x2), .val (.int (pd &&& (3 : Int32))), .val (.int xe), .val (.int y0), .val (.int y1), .unset, .unset, .unset, .unset, .unset, .unset, .unset]) rfl ?_
    show Steps p.tables e below (T7.setTop (mkF m 60 #[.val (.int pc0), .val (.int pc1), .val (.int pc2), .val (.int pd), .val (.int pf), .val (.int x0), .val (.int x1), .val (.int x2), .val (.int (pd &&& (3 : Int32))), .val (.int xe), .val (.int y0), .val (.int y1), .unset, .unset, .unset, .unset, .unset, .unset, .unset] [])) _
    refine XS.iload X7.here hx rfl (hb hby at_60) rfl ?_
    show Steps p.tables e below (T7.setTop (mkF m 62 #[.val (.int pc0), .val (.int pc1), .val (.int pc2), .val (.int pd), .val (.int pf), .val (.int x0), .val (.int x1), .val (.int x2), .val (.int (pd &&& (3 : Int32))), .val (.int xe), .val (.int y0), .val (.int y1), .unset, .unset, .unset, .unset, .unset, .unset, .unset] [(.int (pd &&& (3 : Int32)))])) _
    refine XS.iconst X7.here hx rfl (hb hby at_62) ?_
    show Steps p.tables e below (T7.setTop (mkF m 63 #[.val (.int pc0), .val (.int pc1), .val (.int pc2), .val (.int pd), .val (.int pf), .val (.int x0), .val (.int x1), .val (.int x2), .val (.int (pd &&& (3 : Int32))), .val (.int xe), .val (.int y0), .val (.int y1), .unset, .unset, .unset, .unset, .unset, .unset, .unset] [(.int (2 : Int32)), (.int (pd &&& (3 : Int32)))])) _
    exact kt
  obtain ⟨y2, hv_y2, pre20⟩ : ∃ y2 : Int32, y2 = (if (pd &&& (3 : Int32)) = (2 : Int32) then xe else x2) ∧ ∀ tq, Steps p.tables e below (T7.setTop (mkF m 73 #[.val (.int pc0), .val (.int pc1), .val (.int pc2), .val (.int pd), .val (.int pf), .val (.int x0), .val (.int x1), .val (.int x2), .val (.int (pd &&& (3 : Int32))), .val (.int xe), .val (.int y0), .val (.int y1), .unset, .unset, .unset, .unset, .unset, .unset, .unset] [(.int y2)])) tq → Steps p.tables e below (s₁.setTop (entryFrame m #[(.int pc0), (.int pc1), (.int pc2), (.int pd), (.int pf)] maxLocals)) tq := by
    by_cases hc63_21 : (pd &&& (3 : Int32)) = (2 : Int32)
    · have pre22 : ∀ tq, Steps p.tables e below (T7.setTop (mkF m 73 #[.val (.int pc0), .val (.int pc1), .val (.int pc2), .val (.int pd), .val (.int pf), .val (.int x0), .val (.int x1), .val (.int x2), .val (.int (pd &&& (3 : Int32))), .val (.int xe), .val (.int y0), .val (.int y1), .unset, .unset, .unset, .unset, .unset, .unset, .unset] [(.int xe)])) tq → Steps p.tables e below (s₁.setTop (entryFrame m #[(.int pc0), (.int pc1), (.int pc2), (.int pd), (.int pf)] maxLocals)) tq := by
        intro tq kt
        refine pre19 tq ?_
        show Steps p.tables e below (T7.setTop (mkF m 63 #[.val (.int pc0), .val (.int pc1), .val (.int pc2), .val (.int pd), .val (.int pf), .val (.int x0), .val (.int x1), .val (.int x2), .val (.int (pd &&& (3 : Int32))), .val (.int xe), .val (.int y0), .val (.int y1), .unset, .unset, .unset, .unset, .unset, .unset, .unset] [(.int (2 : Int32)), (.int (pd &&& (3 : Int32)))])) _
        refine XS.icmpNo X7.here hx rfl (hb hby at_63) rfl (teq hc63_21).2 ?_
        show Steps p.tables e below (T7.setTop (mkF m 66 #[.val (.int pc0), .val (.int pc1), .val (.int pc2), .val (.int pd), .val (.int pf), .val (.int x0), .val (.int x1), .val (.int x2), .val (.int (pd &&& (3 : Int32))), .val (.int xe), .val (.int y0), .val (.int y1), .unset, .unset, .unset, .unset, .unset, .unset, .unset] [])) _
        refine XS.iload X7.here hx rfl (hb hby at_66) rfl ?_
        show Steps p.tables e below (T7.setTop (mkF m 68 #[.val (.int pc0), .val (.int pc1), .val (.int pc2), .val (.int pd), .val (.int pf), .val (.int x0), .val (.int x1), .val (.int x2), .val (.int (pd &&& (3 : Int32))), .val (.int xe), .val (.int y0), .val (.int y1), .unset, .unset, .unset, .unset, .unset, .unset, .unset] [(.int xe)])) _
        refine XS.goto X7.here hx rfl (pc0 := 68) (pc' := 73) rfl (hb hby at_68) (by decide) (by decide) ?_
        show Steps p.tables e below (T7.setTop (mkF m 73 #[.val (.int pc0), .val (.int pc1), .val (.int pc2), .val (.int pd), .val (.int pf), .val (.int x0), .val (.int x1), .val (.int x2), .val (.int (pd &&& (3 : Int32))), .val (.int xe), .val (.int y0), .val (.int y1), .unset, .unset, .unset, .unset, .unset, .unset, .unset] [(.int xe)])) _
        exact kt
      exact ⟨xe, by rw [if_pos hc63_21], pre22⟩
    · have pre23 : ∀ tq, Steps p.tables e below (T7.setTop (mkF m 73 #[.val (.int pc0), .val (.int pc1), .val (.int pc2), .val (.int pd), .val (.int pf), .val (.int x0), .val (.int x1), .val (.int x2), .val (.int (pd &&& (3 : Int32))), .val (.int xe), .val (.int y0), .val (.int y1), .unset, .unset, .unset, .unset, .unset, .unset, .unset] [(.int x2)])) tq → Steps p.tables e below (s₁.setTop (entryFrame m #[(.int pc0), (.int pc1), (.int pc2), (.int pd), (.int pf)] maxLocals)) tq := by
        intro tq kt
        refine pre19 tq ?_
        show Steps p.tables e below (T7.setTop (mkF m 63 #[.val (.int pc0), .val (.int pc1), .val (.int pc2), .val (.int pd), .val (.int pf), .val (.int x0), .val (.int x1), .val (.int x2), .val (.int (pd &&& (3 : Int32))), .val (.int xe), .val (.int y0), .val (.int y1), .unset, .unset, .unset, .unset, .unset, .unset, .unset] [(.int (2 : Int32)), (.int (pd &&& (3 : Int32)))])) _
        refine XS.icmpYes X7.here hx rfl (pc0 := 63) (pc' := 71) rfl (hb hby at_63) rfl (feq hc63_21).2 (by decide) (by decide) ?_
        show Steps p.tables e below (T7.setTop (mkF m 71 #[.val (.int pc0), .val (.int pc1), .val (.int pc2), .val (.int pd), .val (.int pf), .val (.int x0), .val (.int x1), .val (.int x2), .val (.int (pd &&& (3 : Int32))), .val (.int xe), .val (.int y0), .val (.int y1), .unset, .unset, .unset, .unset, .unset, .unset, .unset] [])) _
        refine XS.iload X7.here hx rfl (hb hby at_71) rfl ?_
        show Steps p.tables e below (T7.setTop (mkF m 73 #[.val (.int pc0), .val (.int pc1), .val (.int pc2), .val (.int pd), .val (.int pf), .val (.int x0), .val (.int x1), .val (.int x2), .val (.int (pd &&& (3 : Int32))), .val (.int xe), .val (.int y0), .val (.int y1), .unset, .unset, .unset, .unset, .unset, .unset, .unset] [(.int x2)])) _
        exact kt
      exact ⟨x2, by rw [if_neg hc63_21], pre23⟩
  have k_x0 : ¬ x0 < 0 ∧ x0 < (55296 : Int32) := by rw [h_x0]; exact own_ch _
  have k_x1 : ¬ x1 < 0 ∧ x1 < (55296 : Int32) := by rw [h_x1]; exact own_ch _
  have k_x2 : ¬ x2 < 0 ∧ x2 < (55296 : Int32) := by rw [h_x2]; exact own_ch _
  have k_xe : ¬ xe < 0 ∧ xe < (55296 : Int32) := by rw [h_xe]; exact own_ch _
  have k_y0 : ¬ y0 < 0 ∧ y0 < (55296 : Int32) := own_pick (P := fun z => ¬ z < 0 ∧ z < (55296 : Int32)) hv_y0 k_xe k_x0
  have k_y1 : ¬ y1 < 0 ∧ y1 < (55296 : Int32) := own_pick (P := fun z => ¬ z < 0 ∧ z < (55296 : Int32)) hv_y1 k_xe k_x1
  have k_y2 : ¬ y2 < 0 ∧ y2 < (55296 : Int32) := own_pick (P := fun z => ¬ z < 0 ∧ z < (55296 : Int32)) hv_y2 k_xe k_x2
  have pre24 : ∀ tq, Steps p.tables e below (T7.setTop (mkF m 89 #[.val (.int pc0), .val (.int pc1), .val (.int pc2), .val (.int pd), .val (.int pf), .val (.int x0), .val (.int x1), .val (.int x2), .val (.int (pd &&& (3 : Int32))), .val (.int xe), .val (.int y0), .val (.int y1), .val (.int y2), .val (.int (pf &&& (3 : Int32))), .val (.int (((pf.toUInt32 >>> ((2 : Int32) &&& 31).toUInt32).toInt32) &&& (3 : Int32))), .unset, .unset, .unset, .unset] [])) tq → Steps p.tables e below (s₁.setTop (entryFrame m #[(.int pc0), (.int pc1), (.int pc2), (.int pd), (.int pf)] maxLocals)) tq := by
    intro tq kt
    refine pre20 tq ?_
    show Steps p.tables e below (T7.setTop (mkF m 73 #[.val (.int pc0), .val (.int pc1), .val (.int pc2), .val (.int pd), .val (.int pf), .val (.int x0), .val (.int x1), .val (.int x2), .val (.int (pd &&& (3 : Int32))), .val (.int xe), .val (.int y0), .val (.int y1), .unset, .unset, .unset, .unset, .unset, .unset, .unset] [(.int y2)])) _
    refine XS.istore X7.here hx rfl (hb hby at_73) rfl (l' := #[.val (.int pc0), .val (.int pc1), .val (.int pc2), .val (.int pd), .val (.int pf), .val (.int x0), .val (.int x1), .val (.int x2), .val (.int (pd &&& (3 : Int32))), .val (.int xe), .val (.int y0), .val (.int y1), .val (.int y2), .unset, .unset, .unset, .unset, .unset, .unset]) rfl ?_
    show Steps p.tables e below (T7.setTop (mkF m 75 #[.val (.int pc0), .val (.int pc1), .val (.int pc2), .val (.int pd), .val (.int pf), .val (.int x0), .val (.int x1), .val (.int x2), .val (.int (pd &&& (3 : Int32))), .val (.int xe), .val (.int y0), .val (.int y1), .val (.int y2), .unset, .unset, .unset, .unset, .unset, .unset] [])) _
    refine XS.iload X7.here hx rfl (hb hby at_75) rfl ?_
    show Steps p.tables e below (T7.setTop (mkF m 77 #[.val (.int pc0), .val (.int pc1), .val (.int pc2), .val (.int pd), .val (.int pf), .val (.int x0), .val (.int x1), .val (.int x2), .val (.int (pd &&& (3 : Int32))), .val (.int xe), .val (.int y0), .val (.int y1), .val (.int y2), .unset, .unset, .unset, .unset, .unset, .unset] [(.int pf)])) _
    refine XS.iconst X7.here hx rfl (hb hby at_77) ?_
    show Steps p.tables e below (T7.setTop (mkF m 78 #[.val (.int pc0), .val (.int pc1), .val (.int pc2), .val (.int pd), .val (.int pf), .val (.int x0), .val (.int x1), .val (.int x2), .val (.int (pd &&& (3 : Int32))), .val (.int xe), .val (.int y0), .val (.int y1), .val (.int y2), .unset, .unset, .unset, .unset, .unset, .unset] [(.int (3 : Int32)), (.int pf)])) _
    refine XS.iand X7.here hx rfl (hb hby at_78) rfl ?_
    show Steps p.tables e below (T7.setTop (mkF m 79 #[.val (.int pc0), .val (.int pc1), .val (.int pc2), .val (.int pd), .val (.int pf), .val (.int x0), .val (.int x1), .val (.int x2), .val (.int (pd &&& (3 : Int32))), .val (.int xe), .val (.int y0), .val (.int y1), .val (.int y2), .unset, .unset, .unset, .unset, .unset, .unset] [(.int (pf &&& (3 : Int32)))])) _
    refine XS.istore X7.here hx rfl (hb hby at_79) rfl (l' := #[.val (.int pc0), .val (.int pc1), .val (.int pc2), .val (.int pd), .val (.int pf), .val (.int x0), .val (.int x1), .val (.int x2), .val (.int (pd &&& (3 : Int32))), .val (.int xe), .val (.int y0), .val (.int y1), .val (.int y2), .val (.int (pf &&& (3 : Int32))), .unset, .unset, .unset, .unset, .unset]) rfl ?_
    show Steps p.tables e below (T7.setTop (mkF m 81 #[.val (.int pc0), .val (.int pc1), .val (.int pc2), .val (.int pd), .val (.int pf), .val (.int x0), .val (.int x1), .val (.int x2), .val (.int (pd &&& (3 : Int32))), .val (.int xe), .val (.int y0), .val (.int y1), .val (.int y2), .val (.int (pf &&& (3 : Int32))), .unset, .unset, .unset, .unset, .unset] [])) _
    refine XS.iload X7.here hx rfl (hb hby at_81) rfl ?_
    show Steps p.tables e below (T7.setTop (mkF m 83 #[.val (.int pc0), .val (.int pc1), .val (.int pc2), .val (.int pd), .val (.int pf), .val (.int x0), .val (.int x1), .val (.int x2), .val (.int (pd &&& (3 : Int32))), .val (.int xe), .val (.int y0), .val (.int y1), .val (.int y2), .val (.int (pf &&& (3 : Int32))), .unset, .unset, .unset, .unset, .unset] [(.int pf)])) _
    refine XS.iconst X7.here hx rfl (hb hby at_83) ?_
    show Steps p.tables e below (T7.setTop (mkF m 84 #[.val (.int pc0), .val (.int pc1), .val (.int pc2), .val (.int pd), .val (.int pf), .val (.int x0), .val (.int x1), .val (.int x2), .val (.int (pd &&& (3 : Int32))), .val (.int xe), .val (.int y0), .val (.int y1), .val (.int y2), .val (.int (pf &&& (3 : Int32))), .unset, .unset, .unset, .unset, .unset] [(.int (2 : Int32)), (.int pf)])) _
    refine XS.iushr X7.here hx rfl (hb hby at_84) rfl ?_
    show Steps p.tables e below (T7.setTop (mkF m 85 #[.val (.int pc0), .val (.int pc1), .val (.int pc2), .val (.int pd), .val (.int pf), .val (.int x0), .val (.int x1), .val (.int x2), .val (.int (pd &&& (3 : Int32))), .val (.int xe), .val (.int y0), .val (.int y1), .val (.int y2), .val (.int (pf &&& (3 : Int32))), .unset, .unset, .unset, .unset, .unset] [(.int ((pf.toUInt32 >>> ((2 : Int32) &&& 31).toUInt32).toInt32))])) _
    refine XS.iconst X7.here hx rfl (hb hby at_85) ?_
    show Steps p.tables e below (T7.setTop (mkF m 86 #[.val (.int pc0), .val (.int pc1), .val (.int pc2), .val (.int pd), .val (.int pf), .val (.int x0), .val (.int x1), .val (.int x2), .val (.int (pd &&& (3 : Int32))), .val (.int xe), .val (.int y0), .val (.int y1), .val (.int y2), .val (.int (pf &&& (3 : Int32))), .unset, .unset, .unset, .unset, .unset] [(.int (3 : Int32)), (.int ((pf.toUInt32 >>> ((2 : Int32) &&& 31).toUInt32).toInt32))])) _
    refine XS.iand X7.here hx rfl (hb hby at_86) rfl ?_
    show Steps p.tables e below (T7.setTop (mkF m 87 #[.val (.int pc0), .val (.int pc1), .val (.int pc2), .val (.int pd), .val (.int pf), .val (.int x0), .val (.int x1), .val (.int x2), .val (.int (pd &&& (3 : Int32))), .val (.int xe), .val (.int y0), .val (.int y1), .val (.int y2), .val (.int (pf &&& (3 : Int32))), .unset, .unset, .unset, .unset, .unset] [(.int (((pf.toUInt32 >>> ((2 : Int32) &&& 31).toUInt32).toInt32) &&& (3 : Int32)))])) _
    refine XS.istore X7.here hx rfl (hb hby at_87) rfl (l' := #[.val (.int pc0), .val (.int pc1), .val (.int pc2), .val (.int pd), .val (.int pf), .val (.int x0), .val (.int x1), .val (.int x2), .val (.int (pd &&& (3 : Int32))), .val (.int xe), .val (.int y0), .val (.int y1), .val (.int y2), .val (.int (pf &&& (3 : Int32))), .val (.int (((pf.toUInt32 >>> ((2 : Int32) &&& 31).toUInt32).toInt32) &&& (3 : Int32))), .unset, .unset, .unset, .unset]) rfl ?_
    show Steps p.tables e below (T7.setTop (mkF m 89 #[.val (.int pc0), .val (.int pc1), .val (.int pc2), .val (.int pd), .val (.int pf), .val (.int x0), .val (.int x1), .val (.int x2), .val (.int (pd &&& (3 : Int32))), .val (.int xe), .val (.int y0), .val (.int y1), .val (.int y2), .val (.int (pf &&& (3 : Int32))), .val (.int (((pf.toUInt32 >>> ((2 : Int32) &&& 31).toUInt32).toInt32) &&& (3 : Int32))), .unset, .unset, .unset, .unset] [])) _
    exact kt
  obtain ⟨la, h_la⟩ : ∃ z : Int32, z = (((pf.toUInt32 >>> ((2 : Int32) &&& 31).toUInt32).toInt32) &&& (3 : Int32)) := ⟨_, rfl⟩
  rw [← h_la] at pre24
  have pre25 : ∀ tq, Steps p.tables e below (T7.setTop (mkF m 97 #[.val (.int pc0), .val (.int pc1), .val (.int pc2), .val (.int pd), .val (.int pf), .val (.int x0), .val (.int x1), .val (.int x2), .val (.int (pd &&& (3 : Int32))), .val (.int xe), .val (.int y0), .val (.int y1), .val (.int y2), .val (.int (pf &&& (3 : Int32))), .val (.int la), .val (.int (((pf.toUInt32 >>> ((4 : Int32) &&& 31).toUInt32).toInt32) &&& (3 : Int32))), .unset, .unset, .unset] [])) tq → Steps p.tables e below (s₁.setTop (entryFrame m #[(.int pc0), (.int pc1), (.int pc2), (.int pd), (.int pf)] maxLocals)) tq := by
    intro tq kt
    refine pre24 tq ?_
    show Steps p.tables e below (T7.setTop (mkF m 89 #[.val (.int pc0), .val (.int pc1), .val (.int pc2), .val (.int pd), .val (.int pf), .val (.int x0), .val (.int x1), .val (.int x2), .val (.int (pd &&& (3 : Int32))), .val (.int xe), .val (.int y0), .val (.int y1), .val (.int y2), .val (.int (pf &&& (3 : Int32))), .val (.int la), .unset, .unset, .unset, .unset] [])) _
    refine XS.iload X7.here hx rfl (hb hby at_89) rfl ?_
    show Steps p.tables e below (T7.setTop (mkF m 91 #[.val (.int pc0), .val (.int pc1), .val (.int pc2), .val (.int pd), .val (.int pf), .val (.int x0), .val (.int x1), .val (.int x2), .val (.int (pd &&& (3 : Int32))), .val (.int xe), .val (.int y0), .val (.int y1), .val (.int y2), .val (.int (pf &&& (3 : Int32))), .val (.int la), .unset, .unset, .unset, .unset] [(.int pf)])) _
    refine XS.iconst X7.here hx rfl (hb hby at_91) ?_
    show Steps p.tables e below (T7.setTop (mkF m 92 #[.val (.int pc0), .val (.int pc1), .val (.int pc2), .val (.int pd), .val (.int pf), .val (.int x0), .val (.int x1), .val (.int x2), .val (.int (pd &&& (3 : Int32))), .val (.int xe), .val (.int y0), .val (.int y1), .val (.int y2), .val (.int (pf &&& (3 : Int32))), .val (.int la), .unset, .unset, .unset, .unset] [(.int (4 : Int32)), (.int pf)])) _
    refine XS.iushr X7.here hx rfl (hb hby at_92) rfl ?_
    show Steps p.tables e below (T7.setTop (mkF m 93 #[.val (.int pc0), .val (.int pc1), .val (.int pc2), .val (.int pd), .val (.int pf), .val (.int x0), .val (.int x1), .val (.int x2), .val (.int (pd &&& (3 : Int32))), .val (.int xe), .val (.int y0), .val (.int y1), .val (.int y2), .val (.int (pf &&& (3 : Int32))), .val (.int la), .unset, .unset, .unset, .unset] [(.int ((pf.toUInt32 >>> ((4 : Int32) &&& 31).toUInt32).toInt32))])) _
    refine XS.iconst X7.here hx rfl (hb hby at_93) ?_
    show Steps p.tables e below (T7.setTop (mkF m 94 #[.val (.int pc0), .val (.int pc1), .val (.int pc2), .val (.int pd), .val (.int pf), .val (.int x0), .val (.int x1), .val (.int x2), .val (.int (pd &&& (3 : Int32))), .val (.int xe), .val (.int y0), .val (.int y1), .val (.int y2), .val (.int (pf &&& (3 : Int32))), .val (.int la), .unset, .unset, .unset, .unset] [(.int (3 : Int32)), (.int ((pf.toUInt32 >>> ((4 : Int32) &&& 31).toUInt32).toInt32))])) _
    refine XS.iand X7.here hx rfl (hb hby at_94) rfl ?_
    show Steps p.tables e below (T7.setTop (mkF m 95 #[.val (.int pc0), .val (.int pc1), .val (.int pc2), .val (.int pd), .val (.int pf), .val (.int x0), .val (.int x1), .val (.int x2), .val (.int (pd &&& (3 : Int32))), .val (.int xe), .val (.int y0), .val (.int y1), .val (.int y2), .val (.int (pf &&& (3 : Int32))), .val (.int la), .unset, .unset, .unset, .unset] [(.int (((pf.toUInt32 >>> ((4 : Int32) &&& 31).toUInt32).toInt32) &&& (3 : Int32)))])) _
    refine XS.istore X7.here hx rfl (hb hby at_95) rfl (l' := #[.val (.int pc0), .val (.int pc1), .val (.int pc2), .val (.int pd), .val (.int pf), .val (.int x0), .val (.int x1), .val (.int x2), .val (.int (pd &&& (3 : Int32))), .val (.int xe), .val (.int y0), .val (.int y1), .val (.int y2), .val (.int (pf &&& (3 : Int32))), .val (.int la), .val (.int (((pf.toUInt32 >>> ((4 : Int32) &&& 31).toUInt32).toInt32) &&& (3 : Int32))), .unset, .unset, .unset]) rfl ?_
    show Steps p.tables e below (T7.setTop (mkF m 97 #[.val (.int pc0), .val (.int pc1), .val (.int pc2), .val (.int pd), .val (.int pf), .val (.int x0), .val (.int x1), .val (.int x2), .val (.int (pd &&& (3 : Int32))), .val (.int xe), .val (.int y0), .val (.int y1), .val (.int y2), .val (.int (pf &&& (3 : Int32))), .val (.int la), .val (.int (((pf.toUInt32 >>> ((4 : Int32) &&& 31).toUInt32).toInt32) &&& (3 : Int32))), .unset, .unset, .unset] [])) _
    exact kt
  obtain ⟨lb, h_lb⟩ : ∃ z : Int32, z = (((pf.toUInt32 >>> ((4 : Int32) &&& 31).toUInt32).toInt32) &&& (3 : Int32)) := ⟨_, rfl⟩
  rw [← h_lb] at pre25
  obtain ⟨T26, h26, X26, e26, E26, A26, D26, -, st26⟩ := newO X7 hx hZ hown (hw _ (List.mem_of_getElem? (i := 6) rfl)) (hw _ (List.mem_of_getElem? (i := 7) rfl)) (hw _ (List.mem_of_getElem? (i := 8) rfl)) e7 (g := (mkF m 97 #[.val (.int pc0), .val (.int pc1), .val (.int pc2), .val (.int pd), .val (.int pf), .val (.int x0), .val (.int x1), .val (.int x2), .val (.int (pd &&& (3 : Int32))), .val (.int xe), .val (.int y0), .val (.int y1), .val (.int y2), .val (.int (pf &&& (3 : Int32))), .val (.int la), .val (.int lb), .unset, .unset, .unset] [])) rfl (hb hby at_97) (by decide) (by decide)
  obtain ⟨b26, g26⟩ : ∃ z, z = h0.size := ⟨_, rfl⟩
  rw [← g26] at A26 D26 st26
  have g_b26 : n0 ≤ b26 := Nat.le_trans Z0 (Nat.le_of_eq g26.symm)
  have sz_b26 : h0.size ≤ b26 := Nat.le_trans (Keep.refl h0 []).1 (Nat.le_of_eq g26.symm)
  have cq26 := CHr.ext E26 CH0.1
  have CH26 := CH0.trans cq26
  have sf26_b26 := Safe.ext E26 CH0.1 (Safe.new (Nat.le_of_eq g26.symm))
  have Kc26 : Keep h0 h26 [] := (Keep.refl h0 []).ext E26
  have Oc26 := O.ext E26
  have F_value_b26 : Fld Z h26 b26 "com/example/attestrail/attestrail/json/JsonString" "value" "Ljava/lang/String;" .null := D26 (Or.inr (hw _ (List.mem_of_getElem? (i := 61) rfl))) (ty := (.object "java/lang/String")) (by decide)
  obtain ⟨_, _, ⟨T27, L27, k27, n27⟩, -, X27, hSc27, hgc27, ⟨Lc27, hQ27, l27, y27, z27, hC27⟩, st27⟩ := callSS X26 hx (y := (⟨"com/example/attestrail/attestrail/json/JsonStringEqualsPinLaw", "str", "(CCCI)Ljava/lang/String;"⟩ : MethodName)) hown (mvT hZ (hw _ (List.mem_of_getElem? (i := 9) rfl))) (mvT hZ (hw _ (List.mem_of_getElem? (i := 10) rfl))) (mvT hZ (hw _ (List.mem_of_getElem? (i := 2) rfl))) (mvT hZ (hw _ (List.mem_of_getElem? (i := 11) rfl))) (by decide) (backOfSH (W := 2) (rm2 l Z a0 hw [] x0 x1 x2 la zc h26 n0 (Nat.le_trans Z0 Kc26.1) Oc26 S_ad S_hi S_lo S_c hzc (own_well k_x0).1 (own_well k_x0).2 (own_well k_x1).1 (own_well k_x1).2 (own_well k_x2).1 (own_well k_x2).2) hZ (hw _ (List.mem_of_getElem? (i := 11) rfl)) (hw _ (List.mem_of_getElem? (i := 2) rfl)) (by decide) (by decide) hEL CH26.1) (g := (mkF m 109 #[.val (.int pc0), .val (.int pc1), .val (.int pc2), .val (.int pd), .val (.int pf), .val (.int x0), .val (.int x1), .val (.int x2), .val (.int (pd &&& (3 : Int32))), .val (.int xe), .val (.int y0), .val (.int y1), .val (.int y2), .val (.int (pf &&& (3 : Int32))), .val (.int la), .val (.int lb), .unset, .unset, .unset] [(.int la), (.int x2), (.int x1), (.int x0), (.ref b26), (.ref b26)])) rfl (by rw [hml]; rfl) (argsL := [(.int x0), (.int x1), (.int x2), (.int la)]) (rest := [(.ref b26), (.ref b26)]) (lenOf pd_21 rfl) rfl (by show 2 * 0 + _ ≤ _; exact Nat.le_of_eq rfl) (hb hby at_109) (fun _ _ => ⟨rfl, e26, (by decide : 1 + 6 ≤ _), (by decide : 1 + 16 ≤ _)⟩)
  dsimp only [Pt.U, Pt.locs, Pt.cells, Pt.slots] at X27 l27 y27 z27 st27 hQ27 hSc27 hgc27 hC27
  subst l27 y27 z27
  obtain ⟨b27, rfl, N27q, g_b27, szz27, K27, Ss27⟩ := hQ27
  have N27 := Fr.app N7 N27q
  obtain ⟨Xr27, hS27, hZ27, hown27⟩ := rebS (n1 := T26.heap.size) hS0 (by rw [e26]; exact (Nat.le_trans (Nat.zero_le _) E26.1)) X27 hSc27 hgc27 hZ hown
  have cq27 := hC27
  have CH27 := CH26.trans cq27
  have sf27_b26 := cq27.safe A26.lt sf26_b26
  have Kc27 : Keep h0 T27.heap [] := Kc26.trans K27 all0
  have Oc27 := Oc26.keep K27 all0
  obtain ⟨_, _, ⟨T28, L28, k28, n28⟩, -, X28, hSc28, hgc28, ⟨Lc28, hQ28, l28, y28, z28, hC28⟩, st28⟩ := Xr27.specialBackS hx (y := (⟨"com/example/attestrail/attestrail/json/JsonString", "<init>", "(Ljava/lang/String;)V"⟩ : MethodName)) rfl hown27 (mvT hZ27 (hw _ (List.mem_of_getElem? (i := 34) rfl))) (mvT hZ27 (hw _ (List.mem_of_getElem? (i := 35) rfl))) (mvT hZ27 (hw _ (List.mem_of_getElem? (i := 36) rfl))) (by decide) (backOfSH (W := 1) (rm6 l Z a0 hw [] b26 b27 (csF la x0 x1 x2) zc fm T27.heap n0 (Nat.le_trans Z0 Kc27.1) Oc27 (A26.keep K27) g_b26 (F_value_b26.keep K27 nin0) Ss27 (own_csl _ _ _ _) (own_cs (P := fun z => ¬ z < 0 ∧ z < (55296 : Int32)) k_x0 k_x1 k_x2) S_ad S_hi S_lo S_c hzc S_f rfm) hZ27 (hw _ (List.mem_of_getElem? (i := 36) rfl)) (hw _ (List.mem_of_getElem? (i := 8) rfl)) (by decide) (by decide) hEL CH27.1) (g := (mkF m 112 #[.val (.int pc0), .val (.int pc1), .val (.int pc2), .val (.int pd), .val (.int pf), .val (.int x0), .val (.int x1), .val (.int x2), .val (.int (pd &&& (3 : Int32))), .val (.int xe), .val (.int y0), .val (.int y1), .val (.int y2), .val (.int (pf &&& (3 : Int32))), .val (.int la), .val (.int lb), .unset, .unset, .unset] [(.ref b27), (.ref b26), (.ref b26)])) rfl (by rw [hml]; rfl) (Steps.refl _) (a := b26) (argsL := [(.ref b27)]) (rest := [(.ref b26)]) (lenOf pd_22 rfl) rfl (by show 2 * 0 + _ ≤ _; exact Nat.le_of_eq rfl) (hb hby at_112) (fun _ _ => ⟨rfl, rfl, (by decide : 7 + 2 ≤ _), (by decide : 17 + 20 ≤ _)⟩)
  dsimp only [Pt.U, Pt.locs, Pt.cells, Pt.slots] at X28 l28 y28 z28 st28 hQ28 hSc28 hgc28 hC28
  subst l28 y28 z28
  obtain ⟨rfl, N28q, K28, A28c, Fv28, Ss28⟩ := hQ28
  have N28 := Fr.app N27 N28q
  obtain ⟨Xr28, hS28, hZ28, hown28⟩ := rebS (n1 := T27.heap.size) hS27 (Nat.le_refl _) X28 hSc28 hgc28 hZ27 hown27
  have cq28 := hC28
  have CH28 := CH27.trans cq28
  have sf28_b26 := cq28.safe (A26.keep K27).lt sf27_b26
  have Kc28 : Keep h0 T28.heap [] := Kc27.trans K28 (allS (Or.inr sz_b26) all0)
  have Oc28 := Oc27.keep K28 (allS g_b26 all0)
  have sr28_b27 := Ss27.keepJ K28 (A26.keep K27) (hw _ (List.mem_of_getElem? (i := 7) rfl))
  have pre29 : ∀ tq, Steps p.tables e below (T28.setTop (mkF m 120 #[.val (.int pc0), .val (.int pc1), .val (.int pc2), .val (.int pd), .val (.int pf), .val (.int x0), .val (.int x1), .val (.int x2), .val (.int (pd &&& (3 : Int32))), .val (.int xe), .val (.int y0), .val (.int y1), .val (.int y2), .val (.int (pf &&& (3 : Int32))), .val (.int la), .val (.int lb), .val (.ref b26), .unset, .unset] [(.int (1 : Int32)), (.int (pf &&& (3 : Int32)))])) tq → Steps p.tables e below (s₁.setTop (entryFrame m #[(.int pc0), (.int pc1), (.int pc2), (.int pd), (.int pf)] maxLocals)) tq := by
    intro tq kt
    refine pre25 tq ?_
    show Steps p.tables e below (T7.setTop (mkF m 97 #[.val (.int pc0), .val (.int pc1), .val (.int pc2), .val (.int pd), .val (.int pf), .val (.int x0), .val (.int x1), .val (.int x2), .val (.int (pd &&& (3 : Int32))), .val (.int xe), .val (.int y0), .val (.int y1), .val (.int y2), .val (.int (pf &&& (3 : Int32))), .val (.int la), .val (.int lb), .unset, .unset, .unset] [])) _
    refine st26 _ ?_
    show Steps p.tables e below (T26.setTop (mkF m 100 #[.val (.int pc0), .val (.int pc1), .val (.int pc2), .val (.int pd), .val (.int pf), .val (.int x0), .val (.int x1), .val (.int x2), .val (.int (pd &&& (3 : Int32))), .val (.int xe), .val (.int y0), .val (.int y1), .val (.int y2), .val (.int (pf &&& (3 : Int32))), .val (.int la), .val (.int lb), .unset, .unset, .unset] [(.ref b26)])) _
    refine XS.dup X26.here hx rfl (hb hby at_100) rfl rfl ?_
    show Steps p.tables e below (T26.setTop (mkF m 101 #[.val (.int pc0), .val (.int pc1), .val (.int pc2), .val (.int pd), .val (.int pf), .val (.int x0), .val (.int x1), .val (.int x2), .val (.int (pd &&& (3 : Int32))), .val (.int xe), .val (.int y0), .val (.int y1), .val (.int y2), .val (.int (pf &&& (3 : Int32))), .val (.int la), .val (.int lb), .unset, .unset, .unset] [(.ref b26), (.ref b26)])) _
    refine XS.iload X26.here hx rfl (hb hby at_101) rfl ?_
    show Steps p.tables e below (T26.setTop (mkF m 103 #[.val (.int pc0), .val (.int pc1), .val (.int pc2), .val (.int pd), .val (.int pf), .val (.int x0), .val (.int x1), .val (.int x2), .val (.int (pd &&& (3 : Int32))), .val (.int xe), .val (.int y0), .val (.int y1), .val (.int y2), .val (.int (pf &&& (3 : Int32))), .val (.int la), .val (.int lb), .unset, .unset, .unset] [(.int x0), (.ref b26), (.ref b26)])) _
    refine XS.iload X26.here hx rfl (hb hby at_103) rfl ?_
    show Steps p.tables e below (T26.setTop (mkF m 105 #[.val (.int pc0), .val (.int pc1), .val (.int pc2), .val (.int pd), .val (.int pf), .val (.int x0), .val (.int x1), .val (.int x2), .val (.int (pd &&& (3 : Int32))), .val (.int xe), .val (.int y0), .val (.int y1), .val (.int y2), .val (.int (pf &&& (3 : Int32))), .val (.int la), .val (.int lb), .unset, .unset, .unset] [(.int x1), (.int x0), (.ref b26), (.ref b26)])) _
    refine XS.iload X26.here hx rfl (hb hby at_105) rfl ?_
    show Steps p.tables e below (T26.setTop (mkF m 107 #[.val (.int pc0), .val (.int pc1), .val (.int pc2), .val (.int pd), .val (.int pf), .val (.int x0), .val (.int x1), .val (.int x2), .val (.int (pd &&& (3 : Int32))), .val (.int xe), .val (.int y0), .val (.int y1), .val (.int y2), .val (.int (pf &&& (3 : Int32))), .val (.int la), .val (.int lb), .unset, .unset, .unset] [(.int x2), (.int x1), (.int x0), (.ref b26), (.ref b26)])) _
    refine XS.iload X26.here hx rfl (hb hby at_107) rfl ?_
    show Steps p.tables e below (T26.setTop (mkF m 109 #[.val (.int pc0), .val (.int pc1), .val (.int pc2), .val (.int pd), .val (.int pf), .val (.int x0), .val (.int x1), .val (.int x2), .val (.int (pd &&& (3 : Int32))), .val (.int xe), .val (.int y0), .val (.int y1), .val (.int y2), .val (.int (pf &&& (3 : Int32))), .val (.int la), .val (.int lb), .unset, .unset, .unset] [(.int la), (.int x2), (.int x1), (.int x0), (.ref b26), (.ref b26)])) _
    refine st27.trans ?_
    show Steps p.tables e below (T27.setTop (mkF m 112 #[.val (.int pc0), .val (.int pc1), .val (.int pc2), .val (.int pd), .val (.int pf), .val (.int x0), .val (.int x1), .val (.int x2), .val (.int (pd &&& (3 : Int32))), .val (.int xe), .val (.int y0), .val (.int y1), .val (.int y2), .val (.int (pf &&& (3 : Int32))), .val (.int la), .val (.int lb), .unset, .unset, .unset] [(.ref b27), (.ref b26), (.ref b26)])) _
    refine st28.trans ?_
    show Steps p.tables e below (T28.setTop (mkF m 115 #[.val (.int pc0), .val (.int pc1), .val (.int pc2), .val (.int pd), .val (.int pf), .val (.int x0), .val (.int x1), .val (.int x2), .val (.int (pd &&& (3 : Int32))), .val (.int xe), .val (.int y0), .val (.int y1), .val (.int y2), .val (.int (pf &&& (3 : Int32))), .val (.int la), .val (.int lb), .unset, .unset, .unset] [(.ref b26)])) _
    refine XS.astore Xr28.here hx rfl (hb hby at_115) rfl rfl (l' := #[.val (.int pc0), .val (.int pc1), .val (.int pc2), .val (.int pd), .val (.int pf), .val (.int x0), .val (.int x1), .val (.int x2), .val (.int (pd &&& (3 : Int32))), .val (.int xe), .val (.int y0), .val (.int y1), .val (.int y2), .val (.int (pf &&& (3 : Int32))), .val (.int la), .val (.int lb), .val (.ref b26), .unset, .unset]) rfl ?_
    show Steps p.tables e below (T28.setTop (mkF m 117 #[.val (.int pc0), .val (.int pc1), .val (.int pc2), .val (.int pd), .val (.int pf), .val (.int x0), .val (.int x1), .val (.int x2), .val (.int (pd &&& (3 : Int32))), .val (.int xe), .val (.int y0), .val (.int y1), .val (.int y2), .val (.int (pf &&& (3 : Int32))), .val (.int la), .val (.int lb), .val (.ref b26), .unset, .unset] [])) _
    refine XS.iload Xr28.here hx rfl (hb hby at_117) rfl ?_
    show Steps p.tables e below (T28.setTop (mkF m 119 #[.val (.int pc0), .val (.int pc1), .val (.int pc2), .val (.int pd), .val (.int pf), .val (.int x0), .val (.int x1), .val (.int x2), .val (.int (pd &&& (3 : Int32))), .val (.int xe), .val (.int y0), .val (.int y1), .val (.int y2), .val (.int (pf &&& (3 : Int32))), .val (.int la), .val (.int lb), .val (.ref b26), .unset, .unset] [(.int (pf &&& (3 : Int32)))])) _
    refine XS.iconst Xr28.here hx rfl (hb hby at_119) ?_
    show Steps p.tables e below (T28.setTop (mkF m 120 #[.val (.int pc0), .val (.int pc1), .val (.int pc2), .val (.int pd), .val (.int pf), .val (.int x0), .val (.int x1), .val (.int x2), .val (.int (pd &&& (3 : Int32))), .val (.int xe), .val (.int y0), .val (.int y1), .val (.int y2), .val (.int (pf &&& (3 : Int32))), .val (.int la), .val (.int lb), .val (.ref b26), .unset, .unset] [(.int (1 : Int32)), (.int (pf &&& (3 : Int32)))])) _
    exact kt
  by_cases hc120_30 : (pf &&& (3 : Int32)) = (1 : Int32)
  · obtain ⟨cq31, kq31, q31a, q31b, q31c⟩ := isOf hZ28 rfl A28c
    obtain ⟨_, _, ⟨T31, L31, k31, n31⟩, -, X31, ⟨Lc31, hQ31, l31, y31, z31⟩, st31⟩ := Xr28.virtualBack hx (y := (⟨"com/example/attestrail/attestrail/json/JsonString", "equals", "(Ljava/lang/Object;)Z"⟩ : MethodName)) (z := (⟨"com/example/attestrail/attestrail/json/JsonString", "equals", "(Ljava/lang/Object;)Z"⟩ : MethodName)) hown28 (mvT hZ28 (hw _ (List.mem_of_getElem? (i := 62) rfl))) (mvT hZ28 (hw _ (List.mem_of_getElem? (i := 63) rfl))) (notFace_of_selects (args := #[]) (mvT hZ28 (hw _ (List.mem_of_getElem? (i := 65) rfl)))) (mvT hZ28 (hw _ (List.mem_of_getElem? (i := 65) rfl))) (mvT hZ28 (hw _ (List.mem_of_getElem? (i := 64) rfl))) (by decide) (backOf (W := 0) (rm12n l Z a0 hw [] b26 T28.heap n0 (Nat.le_trans Z0 Kc28.1) ) hZ28 (hw _ (List.mem_of_getElem? (i := 66) rfl)) (hw _ (List.mem_of_getElem? (i := 8) rfl)) (by decide) (by decide)) q31a q31c (g := (mkF m 126 #[.val (.int pc0), .val (.int pc1), .val (.int pc2), .val (.int pd), .val (.int pf), .val (.int x0), .val (.int x1), .val (.int x2), .val (.int (pd &&& (3 : Int32))), .val (.int xe), .val (.int y0), .val (.int y1), .val (.int y2), .val (.int (pf &&& (3 : Int32))), .val (.int la), .val (.int lb), .val (.ref b26), .unset, .unset] [.null, (.ref b26)])) rfl (by rw [hml]; rfl) (Steps.refl _) (argsL := [.null]) (rest := []) (lenOf pd_20 rfl) rfl (by show 2 * 0 + _ ≤ _; exact Nat.le_of_eq rfl) (hb hby at_126) (fun _ _ => ⟨rfl, rfl, (by decide : 9 + 0 ≤ _), (by decide : 37 + 0 ≤ _)⟩)
    dsimp only [Pt.U, Pt.locs, Pt.cells, Pt.slots] at X31 l31 y31 z31 st31 hQ31
    subst l31 y31 z31
    obtain ⟨rfl, N31q, e31⟩ := hQ31
    have N31 := Fr.app N28 N31q
    obtain ⟨fs, hr, hrun, hended, hend⟩ := Stand.leaveW (s := s) (vm₁ := T28.vm) X31 hS28 (by rw [e31]; exact (Nat.le_refl _)) (v := some (.int (1 : Int32))) (fun h => by rw [Bd.returns] at h; cases h)
    refine ⟨_, _, pre29 _ ?_, hrun, hended, _, _, rfl, ?_, hend.1, hend.2.1, hend.2.2.1, hend.2.2.2.mono (by decide) (by decide)⟩
    · show Steps p.tables e below (T28.setTop (mkF m 120 #[.val (.int pc0), .val (.int pc1), .val (.int pc2), .val (.int pd), .val (.int pf), .val (.int x0), .val (.int x1), .val (.int x2), .val (.int (pd &&& (3 : Int32))), .val (.int xe), .val (.int y0), .val (.int y1), .val (.int y2), .val (.int (pf &&& (3 : Int32))), .val (.int la), .val (.int lb), .val (.ref b26), .unset, .unset] [(.int (1 : Int32)), (.int (pf &&& (3 : Int32)))])) _
      refine XS.icmpNo Xr28.here hx rfl (hb hby at_120) rfl (teq hc120_30).2 ?_
      show Steps p.tables e below (T28.setTop (mkF m 123 #[.val (.int pc0), .val (.int pc1), .val (.int pc2), .val (.int pd), .val (.int pf), .val (.int x0), .val (.int x1), .val (.int x2), .val (.int (pd &&& (3 : Int32))), .val (.int xe), .val (.int y0), .val (.int y1), .val (.int y2), .val (.int (pf &&& (3 : Int32))), .val (.int la), .val (.int lb), .val (.ref b26), .unset, .unset] [])) _
      refine XS.aload Xr28.here hx rfl (hb hby at_123) rfl rfl ?_
      show Steps p.tables e below (T28.setTop (mkF m 125 #[.val (.int pc0), .val (.int pc1), .val (.int pc2), .val (.int pd), .val (.int pf), .val (.int x0), .val (.int x1), .val (.int x2), .val (.int (pd &&& (3 : Int32))), .val (.int xe), .val (.int y0), .val (.int y1), .val (.int y2), .val (.int (pf &&& (3 : Int32))), .val (.int la), .val (.int lb), .val (.ref b26), .unset, .unset] [(.ref b26)])) _
      refine XS.aconstNull Xr28.here hx rfl (hb hby at_125) ?_
      show Steps p.tables e below (T28.setTop (mkF m 126 #[.val (.int pc0), .val (.int pc1), .val (.int pc2), .val (.int pd), .val (.int pf), .val (.int x0), .val (.int x1), .val (.int x2), .val (.int (pd &&& (3 : Int32))), .val (.int xe), .val (.int y0), .val (.int y1), .val (.int y2), .val (.int (pf &&& (3 : Int32))), .val (.int la), .val (.int lb), .val (.ref b26), .unset, .unset] [.null, (.ref b26)])) _
      refine st31.trans ?_
      show Steps p.tables e below (T31.setTop (mkF m 129 #[.val (.int pc0), .val (.int pc1), .val (.int pc2), .val (.int pd), .val (.int pf), .val (.int x0), .val (.int x1), .val (.int x2), .val (.int (pd &&& (3 : Int32))), .val (.int xe), .val (.int y0), .val (.int y1), .val (.int y2), .val (.int (pf &&& (3 : Int32))), .val (.int la), .val (.int lb), .val (.ref b26), .unset, .unset] [(.int (0 : Int32))])) _
      refine XS.ifNo X31.here hx rfl (hb hby at_129) rfl ((if0 _ _).trans (teq (rfl : (0 : Int32) = (0 : Int32))).2) ?_
      show Steps p.tables e below (T31.setTop (mkF m 132 #[.val (.int pc0), .val (.int pc1), .val (.int pc2), .val (.int pd), .val (.int pf), .val (.int x0), .val (.int x1), .val (.int x2), .val (.int (pd &&& (3 : Int32))), .val (.int xe), .val (.int y0), .val (.int y1), .val (.int y2), .val (.int (pf &&& (3 : Int32))), .val (.int la), .val (.int lb), .val (.ref b26), .unset, .unset] [])) _
      refine XS.iconst X31.here hx rfl (hb hby at_132) ?_
      show Steps p.tables e below (T31.setTop (mkF m 133 #[.val (.int pc0), .val (.int pc1), .val (.int pc2), .val (.int pd), .val (.int pf), .val (.int x0), .val (.int x1), .val (.int x2), .val (.int (pd &&& (3 : Int32))), .val (.int xe), .val (.int y0), .val (.int y1), .val (.int y2), .val (.int (pf &&& (3 : Int32))), .val (.int la), .val (.int lb), .val (.ref b26), .unset, .unset] [(.int (1 : Int32))])) _
      refine XS.goto X31.here hx rfl (pc0 := 133) (pc' := 137) rfl (hb hby at_133) (by decide) (by decide) ?_
      show Steps p.tables e below (T31.setTop (mkF m 137 #[.val (.int pc0), .val (.int pc1), .val (.int pc2), .val (.int pd), .val (.int pf), .val (.int x0), .val (.int x1), .val (.int x2), .val (.int (pd &&& (3 : Int32))), .val (.int xe), .val (.int y0), .val (.int y1), .val (.int y2), .val (.int (pf &&& (3 : Int32))), .val (.int la), .val (.int lb), .val (.ref b26), .unset, .unset] [(.int (1 : Int32))])) _
      exact retN X31 hx (t := .boolean) Bd.returns (by simp) (hb hby at_137) hr
    · show Q0 Z pc0 pc1 pc2 pd pf zc fm wN h0 n0 _ T31.heap _
      rw [e31]
      exact ⟨rfl, N31⟩
  · have pre33 : ∀ tq, Steps p.tables e below (T28.setTop (mkF m 141 #[.val (.int pc0), .val (.int pc1), .val (.int pc2), .val (.int pd), .val (.int pf), .val (.int x0), .val (.int x1), .val (.int x2), .val (.int (pd &&& (3 : Int32))), .val (.int xe), .val (.int y0), .val (.int y1), .val (.int y2), .val (.int (pf &&& (3 : Int32))), .val (.int la), .val (.int lb), .val (.ref b26), .unset, .unset] [(.int (2 : Int32)), (.int (pf &&& (3 : Int32)))])) tq → Steps p.tables e below (s₁.setTop (entryFrame m #[(.int pc0), (.int pc1), (.int pc2), (.int pd), (.int pf)] maxLocals)) tq := by
      intro tq kt
      refine pre29 tq ?_
      show Steps p.tables e below (T28.setTop (mkF m 120 #[.val (.int pc0), .val (.int pc1), .val (.int pc2), .val (.int pd), .val (.int pf), .val (.int x0), .val (.int x1), .val (.int x2), .val (.int (pd &&& (3 : Int32))), .val (.int xe), .val (.int y0), .val (.int y1), .val (.int y2), .val (.int (pf &&& (3 : Int32))), .val (.int la), .val (.int lb), .val (.ref b26), .unset, .unset] [(.int (1 : Int32)), (.int (pf &&& (3 : Int32)))])) _
      refine XS.icmpYes Xr28.here hx rfl (pc0 := 120) (pc' := 138) rfl (hb hby at_120) rfl (feq hc120_30).2 (by decide) (by decide) ?_
      show Steps p.tables e below (T28.setTop (mkF m 138 #[.val (.int pc0), .val (.int pc1), .val (.int pc2), .val (.int pd), .val (.int pf), .val (.int x0), .val (.int x1), .val (.int x2), .val (.int (pd &&& (3 : Int32))), .val (.int xe), .val (.int y0), .val (.int y1), .val (.int y2), .val (.int (pf &&& (3 : Int32))), .val (.int la), .val (.int lb), .val (.ref b26), .unset, .unset] [])) _
      refine XS.iload Xr28.here hx rfl (hb hby at_138) rfl ?_
      show Steps p.tables e below (T28.setTop (mkF m 140 #[.val (.int pc0), .val (.int pc1), .val (.int pc2), .val (.int pd), .val (.int pf), .val (.int x0), .val (.int x1), .val (.int x2), .val (.int (pd &&& (3 : Int32))), .val (.int xe), .val (.int y0), .val (.int y1), .val (.int y2), .val (.int (pf &&& (3 : Int32))), .val (.int la), .val (.int lb), .val (.ref b26), .unset, .unset] [(.int (pf &&& (3 : Int32)))])) _
      refine XS.iconst Xr28.here hx rfl (hb hby at_140) ?_
      show Steps p.tables e below (T28.setTop (mkF m 141 #[.val (.int pc0), .val (.int pc1), .val (.int pc2), .val (.int pd), .val (.int pf), .val (.int x0), .val (.int x1), .val (.int x2), .val (.int (pd &&& (3 : Int32))), .val (.int xe), .val (.int y0), .val (.int y1), .val (.int y2), .val (.int (pf &&& (3 : Int32))), .val (.int la), .val (.int lb), .val (.ref b26), .unset, .unset] [(.int (2 : Int32)), (.int (pf &&& (3 : Int32)))])) _
      exact kt
    by_cases hc141_34 : (pf &&& (3 : Int32)) = (2 : Int32)
    · obtain ⟨T35, X35, e35, st35⟩ := getS2 Xr28 hx hZ28 hown28 (host := "") (Or.inl (hw _ (List.mem_of_getElem? (i := 149) rfl))) Via.refl rfl (S_N.ext Oc28.2) (g := (mkF m 146 #[.val (.int pc0), .val (.int pc1), .val (.int pc2), .val (.int pd), .val (.int pf), .val (.int x0), .val (.int x1), .val (.int x2), .val (.int (pd &&& (3 : Int32))), .val (.int xe), .val (.int y0), .val (.int y1), .val (.int y2), .val (.int (pf &&& (3 : Int32))), .val (.int la), .val (.int lb), .val (.ref b26), .unset, .unset] [(.ref b26)])) rfl (hb hby at_146)
      obtain ⟨cq36, kq36, q36a, q36b, q36c⟩ := isOf hZ28 e35 A28c
      obtain ⟨_, _, ⟨T36, L36, k36, n36⟩, -, X36, ⟨Lc36, hQ36, l36, y36, z36⟩, st36⟩ := X35.virtualBack hx (y := (⟨"com/example/attestrail/attestrail/json/JsonString", "equals", "(Ljava/lang/Object;)Z"⟩ : MethodName)) (z := (⟨"com/example/attestrail/attestrail/json/JsonString", "equals", "(Ljava/lang/Object;)Z"⟩ : MethodName)) hown28 (mvT hZ28 (hw _ (List.mem_of_getElem? (i := 62) rfl))) (mvT hZ28 (hw _ (List.mem_of_getElem? (i := 63) rfl))) (notFace_of_selects (args := #[]) (mvT hZ28 (hw _ (List.mem_of_getElem? (i := 65) rfl)))) (mvT hZ28 (hw _ (List.mem_of_getElem? (i := 65) rfl))) (mvT hZ28 (hw _ (List.mem_of_getElem? (i := 64) rfl))) (by decide) (backOf (W := 0) (rm12l l Z a0 hw [] b26 wN T28.heap n0 (Nat.le_trans Z0 Kc28.1) (E_N.ext Oc28.2)) hZ28 (hw _ (List.mem_of_getElem? (i := 66) rfl)) (hw _ (List.mem_of_getElem? (i := 8) rfl)) (by decide) (by decide)) q36a q36c (g := (mkF m 149 #[.val (.int pc0), .val (.int pc1), .val (.int pc2), .val (.int pd), .val (.int pf), .val (.int x0), .val (.int x1), .val (.int x2), .val (.int (pd &&& (3 : Int32))), .val (.int xe), .val (.int y0), .val (.int y1), .val (.int y2), .val (.int (pf &&& (3 : Int32))), .val (.int la), .val (.int lb), .val (.ref b26), .unset, .unset] [(.ref wN), (.ref b26)])) rfl (by rw [hml]; rfl) (Steps.refl _) (argsL := [(.ref wN)]) (rest := []) (lenOf pd_20 rfl) rfl (by show 2 * 0 + _ ≤ _; exact Nat.le_of_eq rfl) (hb hby at_149) (fun _ _ => ⟨rfl, e35, (by decide : 9 + 0 ≤ _), (by decide : 37 + 0 ≤ _)⟩)
      dsimp only [Pt.U, Pt.locs, Pt.cells, Pt.slots] at X36 l36 y36 z36 st36 hQ36
      subst l36 y36 z36
      obtain ⟨rfl, N36q, e36⟩ := hQ36
      have N36 := Fr.app N28 N36q
      obtain ⟨fs, hr, hrun, hended, hend⟩ := Stand.leaveW (s := s) (vm₁ := T28.vm) X36 hS28 (by rw [e36]; exact (Nat.le_refl _)) (v := some (.int (1 : Int32))) (fun h => by rw [Bd.returns] at h; cases h)
      refine ⟨_, _, pre33 _ ?_, hrun, hended, _, _, rfl, ?_, hend.1, hend.2.1, hend.2.2.1, hend.2.2.2.mono (by decide) (by decide)⟩
      · show Steps p.tables e below (T28.setTop (mkF m 141 #[.val (.int pc0), .val (.int pc1), .val (.int pc2), .val (.int pd), .val (.int pf), .val (.int x0), .val (.int x1), .val (.int x2), .val (.int (pd &&& (3 : Int32))), .val (.int xe), .val (.int y0), .val (.int y1), .val (.int y2), .val (.int (pf &&& (3 : Int32))), .val (.int la), .val (.int lb), .val (.ref b26), .unset, .unset] [(.int (2 : Int32)), (.int (pf &&& (3 : Int32)))])) _
        refine XS.icmpNo Xr28.here hx rfl (hb hby at_141) rfl (teq hc141_34).2 ?_
        show Steps p.tables e below (T28.setTop (mkF m 144 #[.val (.int pc0), .val (.int pc1), .val (.int pc2), .val (.int pd), .val (.int pf), .val (.int x0), .val (.int x1), .val (.int x2), .val (.int (pd &&& (3 : Int32))), .val (.int xe), .val (.int y0), .val (.int y1), .val (.int y2), .val (.int (pf &&& (3 : Int32))), .val (.int la), .val (.int lb), .val (.ref b26), .unset, .unset] [])) _
        refine XS.aload Xr28.here hx rfl (hb hby at_144) rfl rfl ?_
        show Steps p.tables e below (T28.setTop (mkF m 146 #[.val (.int pc0), .val (.int pc1), .val (.int pc2), .val (.int pd), .val (.int pf), .val (.int x0), .val (.int x1), .val (.int x2), .val (.int (pd &&& (3 : Int32))), .val (.int xe), .val (.int y0), .val (.int y1), .val (.int y2), .val (.int (pf &&& (3 : Int32))), .val (.int la), .val (.int lb), .val (.ref b26), .unset, .unset] [(.ref b26)])) _
        refine st35 _ ?_
        show Steps p.tables e below (T35.setTop (mkF m 149 #[.val (.int pc0), .val (.int pc1), .val (.int pc2), .val (.int pd), .val (.int pf), .val (.int x0), .val (.int x1), .val (.int x2), .val (.int (pd &&& (3 : Int32))), .val (.int xe), .val (.int y0), .val (.int y1), .val (.int y2), .val (.int (pf &&& (3 : Int32))), .val (.int la), .val (.int lb), .val (.ref b26), .unset, .unset] [(.ref wN), (.ref b26)])) _
        refine st36.trans ?_
        show Steps p.tables e below (T36.setTop (mkF m 152 #[.val (.int pc0), .val (.int pc1), .val (.int pc2), .val (.int pd), .val (.int pf), .val (.int x0), .val (.int x1), .val (.int x2), .val (.int (pd &&& (3 : Int32))), .val (.int xe), .val (.int y0), .val (.int y1), .val (.int y2), .val (.int (pf &&& (3 : Int32))), .val (.int la), .val (.int lb), .val (.ref b26), .unset, .unset] [(.int (0 : Int32))])) _
        refine XS.ifNo X36.here hx rfl (hb hby at_152) rfl ((if0 _ _).trans (teq (rfl : (0 : Int32) = (0 : Int32))).2) ?_
        show Steps p.tables e below (T36.setTop (mkF m 155 #[.val (.int pc0), .val (.int pc1), .val (.int pc2), .val (.int pd), .val (.int pf), .val (.int x0), .val (.int x1), .val (.int x2), .val (.int (pd &&& (3 : Int32))), .val (.int xe), .val (.int y0), .val (.int y1), .val (.int y2), .val (.int (pf &&& (3 : Int32))), .val (.int la), .val (.int lb), .val (.ref b26), .unset, .unset] [])) _
        refine XS.iconst X36.here hx rfl (hb hby at_155) ?_
        show Steps p.tables e below (T36.setTop (mkF m 156 #[.val (.int pc0), .val (.int pc1), .val (.int pc2), .val (.int pd), .val (.int pf), .val (.int x0), .val (.int x1), .val (.int x2), .val (.int (pd &&& (3 : Int32))), .val (.int xe), .val (.int y0), .val (.int y1), .val (.int y2), .val (.int (pf &&& (3 : Int32))), .val (.int la), .val (.int lb), .val (.ref b26), .unset, .unset] [(.int (1 : Int32))])) _
        refine XS.goto X36.here hx rfl (pc0 := 156) (pc' := 160) rfl (hb hby at_156) (by decide) (by decide) ?_
        show Steps p.tables e below (T36.setTop (mkF m 160 #[.val (.int pc0), .val (.int pc1), .val (.int pc2), .val (.int pd), .val (.int pf), .val (.int x0), .val (.int x1), .val (.int x2), .val (.int (pd &&& (3 : Int32))), .val (.int xe), .val (.int y0), .val (.int y1), .val (.int y2), .val (.int (pf &&& (3 : Int32))), .val (.int la), .val (.int lb), .val (.ref b26), .unset, .unset] [(.int (1 : Int32))])) _
        exact retN X36 hx (t := .boolean) Bd.returns (by simp) (hb hby at_160) hr
      · show Q0 Z pc0 pc1 pc2 pd pf zc fm wN h0 n0 _ T36.heap _
        rw [e36]
        exact ⟨rfl, N36⟩
    · have pre38 : ∀ tq, Steps p.tables e below (T28.setTop (mkF m 164 #[.val (.int pc0), .val (.int pc1), .val (.int pc2), .val (.int pd), .val (.int pf), .val (.int x0), .val (.int x1), .val (.int x2), .val (.int (pd &&& (3 : Int32))), .val (.int xe), .val (.int y0), .val (.int y1), .val (.int y2), .val (.int (pf &&& (3 : Int32))), .val (.int la), .val (.int lb), .val (.ref b26), .unset, .unset] [(.int (3 : Int32)), (.int (pf &&& (3 : Int32)))])) tq → Steps p.tables e below (s₁.setTop (entryFrame m #[(.int pc0), (.int pc1), (.int pc2), (.int pd), (.int pf)] maxLocals)) tq := by
        intro tq kt
        refine pre33 tq ?_
        show Steps p.tables e below (T28.setTop (mkF m 141 #[.val (.int pc0), .val (.int pc1), .val (.int pc2), .val (.int pd), .val (.int pf), .val (.int x0), .val (.int x1), .val (.int x2), .val (.int (pd &&& (3 : Int32))), .val (.int xe), .val (.int y0), .val (.int y1), .val (.int y2), .val (.int (pf &&& (3 : Int32))), .val (.int la), .val (.int lb), .val (.ref b26), .unset, .unset] [(.int (2 : Int32)), (.int (pf &&& (3 : Int32)))])) _
        refine XS.icmpYes Xr28.here hx rfl (pc0 := 141) (pc' := 161) rfl (hb hby at_141) rfl (feq hc141_34).2 (by decide) (by decide) ?_
        show Steps p.tables e below (T28.setTop (mkF m 161 #[.val (.int pc0), .val (.int pc1), .val (.int pc2), .val (.int pd), .val (.int pf), .val (.int x0), .val (.int x1), .val (.int x2), .val (.int (pd &&& (3 : Int32))), .val (.int xe), .val (.int y0), .val (.int y1), .val (.int y2), .val (.int (pf &&& (3 : Int32))), .val (.int la), .val (.int lb), .val (.ref b26), .unset, .unset] [])) _
        refine XS.iload Xr28.here hx rfl (hb hby at_161) rfl ?_
        show Steps p.tables e below (T28.setTop (mkF m 163 #[.val (.int pc0), .val (.int pc1), .val (.int pc2), .val (.int pd), .val (.int pf), .val (.int x0), .val (.int x1), .val (.int x2), .val (.int (pd &&& (3 : Int32))), .val (.int xe), .val (.int y0), .val (.int y1), .val (.int y2), .val (.int (pf &&& (3 : Int32))), .val (.int la), .val (.int lb), .val (.ref b26), .unset, .unset] [(.int (pf &&& (3 : Int32)))])) _
        refine XS.iconst Xr28.here hx rfl (hb hby at_163) ?_
        show Steps p.tables e below (T28.setTop (mkF m 164 #[.val (.int pc0), .val (.int pc1), .val (.int pc2), .val (.int pd), .val (.int pf), .val (.int x0), .val (.int x1), .val (.int x2), .val (.int (pd &&& (3 : Int32))), .val (.int xe), .val (.int y0), .val (.int y1), .val (.int y2), .val (.int (pf &&& (3 : Int32))), .val (.int la), .val (.int lb), .val (.ref b26), .unset, .unset] [(.int (3 : Int32)), (.int (pf &&& (3 : Int32)))])) _
        exact kt
      by_cases hc164_39 : (pf &&& (3 : Int32)) = (3 : Int32)
      · obtain ⟨_, _, ⟨T40, L40, k40, n40⟩, -, X40, hSc40, hgc40, ⟨Lc40, hQ40, l40, y40, z40, hC40⟩, st40⟩ := callSS Xr28 hx (y := (⟨"com/example/attestrail/attestrail/json/JsonStringEqualsPinLaw", "str", "(CCCI)Ljava/lang/String;"⟩ : MethodName)) hown28 (mvT hZ28 (hw _ (List.mem_of_getElem? (i := 9) rfl))) (mvT hZ28 (hw _ (List.mem_of_getElem? (i := 10) rfl))) (mvT hZ28 (hw _ (List.mem_of_getElem? (i := 2) rfl))) (mvT hZ28 (hw _ (List.mem_of_getElem? (i := 11) rfl))) (by decide) (backOfSH (W := 1) (rm2 l Z a0 hw [] x0 x1 x2 la zc T28.heap n0 (Nat.le_trans Z0 Kc28.1) Oc28 S_ad S_hi S_lo S_c hzc (own_well k_x0).1 (own_well k_x0).2 (own_well k_x1).1 (own_well k_x1).2 (own_well k_x2).1 (own_well k_x2).2) hZ28 (hw _ (List.mem_of_getElem? (i := 11) rfl)) (hw _ (List.mem_of_getElem? (i := 2) rfl)) (by decide) (by decide) hEL CH28.1) (g := (mkF m 177 #[.val (.int pc0), .val (.int pc1), .val (.int pc2), .val (.int pd), .val (.int pf), .val (.int x0), .val (.int x1), .val (.int x2), .val (.int (pd &&& (3 : Int32))), .val (.int xe), .val (.int y0), .val (.int y1), .val (.int y2), .val (.int (pf &&& (3 : Int32))), .val (.int la), .val (.int lb), .val (.ref b26), .unset, .unset] [(.int la), (.int x2), (.int x1), (.int x0), (.ref b26)])) rfl (by rw [hml]; rfl) (argsL := [(.int x0), (.int x1), (.int x2), (.int la)]) (rest := [(.ref b26)]) (lenOf pd_21 rfl) rfl (by show 2 * 0 + _ ≤ _; exact Nat.le_of_eq rfl) (hb hby at_177) (fun _ _ => ⟨rfl, rfl, (by decide : 9 + 6 ≤ _), (by decide : 37 + 16 ≤ _)⟩)
        dsimp only [Pt.U, Pt.locs, Pt.cells, Pt.slots] at X40 l40 y40 z40 st40 hQ40 hSc40 hgc40 hC40
        subst l40 y40 z40
        obtain ⟨b40, rfl, N40q, g_b40, szz40, K40, Ss40⟩ := hQ40
        have N40 := Fr.app N28 N40q
        obtain ⟨Xr40, hS40, hZ40, hown40⟩ := rebS (n1 := T28.heap.size) hS28 (Nat.le_refl _) X40 hSc40 hgc40 hZ28 hown28
        have cq40 := hC40
        have CH40 := CH28.trans cq40
        have sf40_b26 := cq40.safe A28c.lt sf28_b26
        have Kc40 : Keep h0 T40.heap [] := Kc28.trans K40 all0
        have Oc40 := Oc28.keep K40 all0
        have sr40_b27 := Ss28.keep0 K40
        obtain ⟨cq41, kq41, q41a, q41b, q41c⟩ := isOf hZ40 rfl (A28c.keep K40)
        obtain ⟨_, _, ⟨T41, L41, k41, n41⟩, -, X41, ⟨Lc41, hQ41, l41, y41, z41⟩, st41⟩ := Xr40.virtualBack hx (y := (⟨"com/example/attestrail/attestrail/json/JsonString", "equals", "(Ljava/lang/Object;)Z"⟩ : MethodName)) (z := (⟨"com/example/attestrail/attestrail/json/JsonString", "equals", "(Ljava/lang/Object;)Z"⟩ : MethodName)) hown40 (mvT hZ40 (hw _ (List.mem_of_getElem? (i := 62) rfl))) (mvT hZ40 (hw _ (List.mem_of_getElem? (i := 63) rfl))) (notFace_of_selects (args := #[]) (mvT hZ40 (hw _ (List.mem_of_getElem? (i := 65) rfl)))) (mvT hZ40 (hw _ (List.mem_of_getElem? (i := 65) rfl))) (mvT hZ40 (hw _ (List.mem_of_getElem? (i := 64) rfl))) (by decide) (backOf (W := 0) (rm12s l Z a0 hw [] b26 b40 T40.heap n0 (Nat.le_trans Z0 Kc40.1) Ss40.exa) hZ40 (hw _ (List.mem_of_getElem? (i := 66) rfl)) (hw _ (List.mem_of_getElem? (i := 8) rfl)) (by decide) (by decide)) q41a q41c (g := (mkF m 180 #[.val (.int pc0), .val (.int pc1), .val (.int pc2), .val (.int pd), .val (.int pf), .val (.int x0), .val (.int x1), .val (.int x2), .val (.int (pd &&& (3 : Int32))), .val (.int xe), .val (.int y0), .val (.int y1), .val (.int y2), .val (.int (pf &&& (3 : Int32))), .val (.int la), .val (.int lb), .val (.ref b26), .unset, .unset] [(.ref b40), (.ref b26)])) rfl (by rw [hml]; rfl) (Steps.refl _) (argsL := [(.ref b40)]) (rest := []) (lenOf pd_20 rfl) rfl (by show 2 * 0 + _ ≤ _; exact Nat.le_of_eq rfl) (hb hby at_180) (fun _ _ => ⟨rfl, rfl, (by decide : 15 + 0 ≤ _), (by decide : 53 + 0 ≤ _)⟩)
        dsimp only [Pt.U, Pt.locs, Pt.cells, Pt.slots] at X41 l41 y41 z41 st41 hQ41
        subst l41 y41 z41
        obtain ⟨rfl, N41q, e41⟩ := hQ41
        have N41 := Fr.app N40 N41q
        obtain ⟨fs, hr, hrun, hended, hend⟩ := Stand.leaveW (s := s) (vm₁ := T40.vm) X41 hS40 (by rw [e41]; exact (Nat.le_refl _)) (v := some (.int (1 : Int32))) (fun h => by rw [Bd.returns] at h; cases h)
        refine ⟨_, _, pre38 _ ?_, hrun, hended, _, _, rfl, ?_, hend.1, hend.2.1, hend.2.2.1, hend.2.2.2.mono (by decide) (by decide)⟩
        · show Steps p.tables e below (T28.setTop (mkF m 164 #[.val (.int pc0), .val (.int pc1), .val (.int pc2), .val (.int pd), .val (.int pf), .val (.int x0), .val (.int x1), .val (.int x2), .val (.int (pd &&& (3 : Int32))), .val (.int xe), .val (.int y0), .val (.int y1), .val (.int y2), .val (.int (pf &&& (3 : Int32))), .val (.int la), .val (.int lb), .val (.ref b26), .unset, .unset] [(.int (3 : Int32)), (.int (pf &&& (3 : Int32)))])) _
          refine XS.icmpNo Xr28.here hx rfl (hb hby at_164) rfl (teq hc164_39).2 ?_
          show Steps p.tables e below (T28.setTop (mkF m 167 #[.val (.int pc0), .val (.int pc1), .val (.int pc2), .val (.int pd), .val (.int pf), .val (.int x0), .val (.int x1), .val (.int x2), .val (.int (pd &&& (3 : Int32))), .val (.int xe), .val (.int y0), .val (.int y1), .val (.int y2), .val (.int (pf &&& (3 : Int32))), .val (.int la), .val (.int lb), .val (.ref b26), .unset, .unset] [])) _
          refine XS.aload Xr28.here hx rfl (hb hby at_167) rfl rfl ?_
          show Steps p.tables e below (T28.setTop (mkF m 169 #[.val (.int pc0), .val (.int pc1), .val (.int pc2), .val (.int pd), .val (.int pf), .val (.int x0), .val (.int x1), .val (.int x2), .val (.int (pd &&& (3 : Int32))), .val (.int xe), .val (.int y0), .val (.int y1), .val (.int y2), .val (.int (pf &&& (3 : Int32))), .val (.int la), .val (.int lb), .val (.ref b26), .unset, .unset] [(.ref b26)])) _
          refine XS.iload Xr28.here hx rfl (hb hby at_169) rfl ?_
          show Steps p.tables e below (T28.setTop (mkF m 171 #[.val (.int pc0), .val (.int pc1), .val (.int pc2), .val (.int pd), .val (.int pf), .val (.int x0), .val (.int x1), .val (.int x2), .val (.int (pd &&& (3 : Int32))), .val (.int xe), .val (.int y0), .val (.int y1), .val (.int y2), .val (.int (pf &&& (3 : Int32))), .val (.int la), .val (.int lb), .val (.ref b26), .unset, .unset] [(.int x0), (.ref b26)])) _
          refine XS.iload Xr28.here hx rfl (hb hby at_171) rfl ?_
          show Steps p.tables e below (T28.setTop (mkF m 173 #[.val (.int pc0), .val (.int pc1), .val (.int pc2), .val (.int pd), .val (.int pf), .val (.int x0), .val (.int x1), .val (.int x2), .val (.int (pd &&& (3 : Int32))), .val (.int xe), .val (.int y0), .val (.int y1), .val (.int y2), .val (.int (pf &&& (3 : Int32))), .val (.int la), .val (.int lb), .val (.ref b26), .unset, .unset] [(.int x1), (.int x0), (.ref b26)])) _
          refine XS.iload Xr28.here hx rfl (hb hby at_173) rfl ?_
          show Steps p.tables e below (T28.setTop (mkF m 175 #[.val (.int pc0), .val (.int pc1), .val (.int pc2), .val (.int pd), .val (.int pf), .val (.int x0), .val (.int x1), .val (.int x2), .val (.int (pd &&& (3 : Int32))), .val (.int xe), .val (.int y0), .val (.int y1), .val (.int y2), .val (.int (pf &&& (3 : Int32))), .val (.int la), .val (.int lb), .val (.ref b26), .unset, .unset] [(.int x2), (.int x1), (.int x0), (.ref b26)])) _
          refine XS.iload Xr28.here hx rfl (hb hby at_175) rfl ?_
          show Steps p.tables e below (T28.setTop (mkF m 177 #[.val (.int pc0), .val (.int pc1), .val (.int pc2), .val (.int pd), .val (.int pf), .val (.int x0), .val (.int x1), .val (.int x2), .val (.int (pd &&& (3 : Int32))), .val (.int xe), .val (.int y0), .val (.int y1), .val (.int y2), .val (.int (pf &&& (3 : Int32))), .val (.int la), .val (.int lb), .val (.ref b26), .unset, .unset] [(.int la), (.int x2), (.int x1), (.int x0), (.ref b26)])) _
          refine st40.trans ?_
          show Steps p.tables e below (T40.setTop (mkF m 180 #[.val (.int pc0), .val (.int pc1), .val (.int pc2), .val (.int pd), .val (.int pf), .val (.int x0), .val (.int x1), .val (.int x2), .val (.int (pd &&& (3 : Int32))), .val (.int xe), .val (.int y0), .val (.int y1), .val (.int y2), .val (.int (pf &&& (3 : Int32))), .val (.int la), .val (.int lb), .val (.ref b26), .unset, .unset] [(.ref b40), (.ref b26)])) _
          refine st41.trans ?_
          show Steps p.tables e below (T41.setTop (mkF m 183 #[.val (.int pc0), .val (.int pc1), .val (.int pc2), .val (.int pd), .val (.int pf), .val (.int x0), .val (.int x1), .val (.int x2), .val (.int (pd &&& (3 : Int32))), .val (.int xe), .val (.int y0), .val (.int y1), .val (.int y2), .val (.int (pf &&& (3 : Int32))), .val (.int la), .val (.int lb), .val (.ref b26), .unset, .unset] [(.int (0 : Int32))])) _
          refine XS.ifNo X41.here hx rfl (hb hby at_183) rfl ((if0 _ _).trans (teq (rfl : (0 : Int32) = (0 : Int32))).2) ?_
          show Steps p.tables e below (T41.setTop (mkF m 186 #[.val (.int pc0), .val (.int pc1), .val (.int pc2), .val (.int pd), .val (.int pf), .val (.int x0), .val (.int x1), .val (.int x2), .val (.int (pd &&& (3 : Int32))), .val (.int xe), .val (.int y0), .val (.int y1), .val (.int y2), .val (.int (pf &&& (3 : Int32))), .val (.int la), .val (.int lb), .val (.ref b26), .unset, .unset] [])) _
          refine XS.iconst X41.here hx rfl (hb hby at_186) ?_
          show Steps p.tables e below (T41.setTop (mkF m 187 #[.val (.int pc0), .val (.int pc1), .val (.int pc2), .val (.int pd), .val (.int pf), .val (.int x0), .val (.int x1), .val (.int x2), .val (.int (pd &&& (3 : Int32))), .val (.int xe), .val (.int y0), .val (.int y1), .val (.int y2), .val (.int (pf &&& (3 : Int32))), .val (.int la), .val (.int lb), .val (.ref b26), .unset, .unset] [(.int (1 : Int32))])) _
          refine XS.goto X41.here hx rfl (pc0 := 187) (pc' := 191) rfl (hb hby at_187) (by decide) (by decide) ?_
          show Steps p.tables e below (T41.setTop (mkF m 191 #[.val (.int pc0), .val (.int pc1), .val (.int pc2), .val (.int pd), .val (.int pf), .val (.int x0), .val (.int x1), .val (.int x2), .val (.int (pd &&& (3 : Int32))), .val (.int xe), .val (.int y0), .val (.int y1), .val (.int y2), .val (.int (pf &&& (3 : Int32))), .val (.int la), .val (.int lb), .val (.ref b26), .unset, .unset] [(.int (1 : Int32))])) _
          exact retN X41 hx (t := .boolean) Bd.returns (by simp) (hb hby at_191) hr
        · show Q0 Z pc0 pc1 pc2 pd pf zc fm wN h0 n0 _ T41.heap _
          rw [e41]
          exact ⟨rfl, N41⟩
      · obtain ⟨T43, h43, X43, e43, E43, A43, D43, -, st43⟩ := newO Xr28 hx hZ28 hown28 (hw _ (List.mem_of_getElem? (i := 6) rfl)) (hw _ (List.mem_of_getElem? (i := 7) rfl)) (hw _ (List.mem_of_getElem? (i := 8) rfl)) rfl (g := (mkF m 192 #[.val (.int pc0), .val (.int pc1), .val (.int pc2), .val (.int pd), .val (.int pf), .val (.int x0), .val (.int x1), .val (.int x2), .val (.int (pd &&& (3 : Int32))), .val (.int xe), .val (.int y0), .val (.int y1), .val (.int y2), .val (.int (pf &&& (3 : Int32))), .val (.int la), .val (.int lb), .val (.ref b26), .unset, .unset] [])) rfl (hb hby at_192) (by decide) (by decide)
        obtain ⟨b43, g43⟩ : ∃ z, z = T28.heap.size := ⟨_, rfl⟩
        rw [← g43] at A43 D43 st43
        have g_b43 : n0 ≤ b43 := Nat.le_trans (Nat.le_trans Z0 Kc28.1) (Nat.le_of_eq g43.symm)
        have sz_b43 : h0.size ≤ b43 := Nat.le_trans Kc28.1 (Nat.le_of_eq g43.symm)
        have ne_b26_b43 : b26 ≠ b43 := Nat.ne_of_lt (Nat.lt_of_lt_of_le A28c.lt (Nat.le_of_eq g43.symm))
        have ne_b27_b43 : b27 ≠ b43 := Nat.ne_of_lt (Nat.lt_of_lt_of_le (Ss27.exa.keep K28).lt (Nat.le_of_eq g43.symm))
        have cq43 := CHr.ext E43 CH28.1
        have CH43 := CH28.trans cq43
        have sf43_b26 := cq43.safe A28c.lt sf28_b26
        have sf43_b43 := Safe.ext E43 CH28.1 (Safe.new (Nat.le_of_eq g43.symm))
        have Kc43 : Keep h0 h43 [] := Kc28.ext E43
        have Oc43 := Oc28.ext E43
        have sr43_b27 := Ss28.ext E43
        have F_value_b43 : Fld Z h43 b43 "com/example/attestrail/attestrail/json/JsonString" "value" "Ljava/lang/String;" .null := D43 (Or.inr (hw _ (List.mem_of_getElem? (i := 61) rfl))) (ty := (.object "java/lang/String")) (by decide)
        obtain ⟨_, _, ⟨T44, L44, k44, n44⟩, -, X44, hSc44, hgc44, ⟨Lc44, hQ44, l44, y44, z44, hC44⟩, st44⟩ := callSS X43 hx (y := (⟨"com/example/attestrail/attestrail/json/JsonStringEqualsPinLaw", "str", "(CCCI)Ljava/lang/String;"⟩ : MethodName)) hown28 (mvT hZ28 (hw _ (List.mem_of_getElem? (i := 9) rfl))) (mvT hZ28 (hw _ (List.mem_of_getElem? (i := 10) rfl))) (mvT hZ28 (hw _ (List.mem_of_getElem? (i := 2) rfl))) (mvT hZ28 (hw _ (List.mem_of_getElem? (i := 11) rfl))) (by decide) (backOfSH (W := 2) (rm2 l Z a0 hw [] y0 y1 y2 lb zc h43 n0 (Nat.le_trans Z0 Kc43.1) Oc43 S_ad S_hi S_lo S_c hzc (own_well k_y0).1 (own_well k_y0).2 (own_well k_y1).1 (own_well k_y1).2 (own_well k_y2).1 (own_well k_y2).2) hZ28 (hw _ (List.mem_of_getElem? (i := 11) rfl)) (hw _ (List.mem_of_getElem? (i := 2) rfl)) (by decide) (by decide) hEL CH43.1) (g := (mkF m 204 #[.val (.int pc0), .val (.int pc1), .val (.int pc2), .val (.int pd), .val (.int pf), .val (.int x0), .val (.int x1), .val (.int x2), .val (.int (pd &&& (3 : Int32))), .val (.int xe), .val (.int y0), .val (.int y1), .val (.int y2), .val (.int (pf &&& (3 : Int32))), .val (.int la), .val (.int lb), .val (.ref b26), .unset, .unset] [(.int lb), (.int y2), (.int y1), (.int y0), (.ref b43), (.ref b43)])) rfl (by rw [hml]; rfl) (argsL := [(.int y0), (.int y1), (.int y2), (.int lb)]) (rest := [(.ref b43), (.ref b43)]) (lenOf pd_21 rfl) rfl (by show 2 * 0 + _ ≤ _; exact Nat.le_of_eq rfl) (hb hby at_204) (fun _ _ => ⟨rfl, e43, (by decide : 10 + 6 ≤ _), (by decide : 38 + 16 ≤ _)⟩)
        dsimp only [Pt.U, Pt.locs, Pt.cells, Pt.slots] at X44 l44 y44 z44 st44 hQ44 hSc44 hgc44 hC44
        subst l44 y44 z44
        obtain ⟨b44, rfl, N44q, g_b44, szz44, K44, Ss44⟩ := hQ44
        have N44 := Fr.app N28 N44q
        obtain ⟨Xr44, hS44, hZ44, hown44⟩ := rebS (n1 := T43.heap.size) hS28 (by rw [e43]; exact (Nat.le_trans (Nat.le_refl _) E43.1)) X44 hSc44 hgc44 hZ28 hown28
        have cq44 := hC44
        have CH44 := CH43.trans cq44
        have sf44_b26 := cq44.safe (A28c.ext E43).lt sf43_b26
        have sf44_b43 := cq44.safe A43.lt sf43_b43
        have Kc44 : Keep h0 T44.heap [] := Kc43.trans K44 all0
        have Oc44 := Oc43.keep K44 all0
        have sr44_b27 := sr43_b27.keep0 K44
        obtain ⟨_, _, ⟨T45, L45, k45, n45⟩, -, X45, hSc45, hgc45, ⟨Lc45, hQ45, l45, y45, z45, hC45⟩, st45⟩ := Xr44.specialBackS hx (y := (⟨"com/example/attestrail/attestrail/json/JsonString", "<init>", "(Ljava/lang/String;)V"⟩ : MethodName)) rfl hown44 (mvT hZ44 (hw _ (List.mem_of_getElem? (i := 34) rfl))) (mvT hZ44 (hw _ (List.mem_of_getElem? (i := 35) rfl))) (mvT hZ44 (hw _ (List.mem_of_getElem? (i := 36) rfl))) (by decide) (backOfSH (W := 1) (rm6 l Z a0 hw [] b43 b44 (csF lb y0 y1 y2) zc fm T44.heap n0 (Nat.le_trans Z0 Kc44.1) Oc44 (A43.keep K44) g_b43 (F_value_b43.keep K44 nin0) Ss44 (own_csl _ _ _ _) (own_cs (P := fun z => ¬ z < 0 ∧ z < (55296 : Int32)) k_y0 k_y1 k_y2) S_ad S_hi S_lo S_c hzc S_f rfm) hZ44 (hw _ (List.mem_of_getElem? (i := 36) rfl)) (hw _ (List.mem_of_getElem? (i := 8) rfl)) (by decide) (by decide) hEL CH44.1) (g := (mkF m 207 #[.val (.int pc0), .val (.int pc1), .val (.int pc2), .val (.int pd), .val (.int pf), .val (.int x0), .val (.int x1), .val (.int x2), .val (.int (pd &&& (3 : Int32))), .val (.int xe), .val (.int y0), .val (.int y1), .val (.int y2), .val (.int (pf &&& (3 : Int32))), .val (.int la), .val (.int lb), .val (.ref b26), .unset, .unset] [(.ref b44), (.ref b43), (.ref b43)])) rfl (by rw [hml]; rfl) (Steps.refl _) (a := b43) (argsL := [(.ref b44)]) (rest := [(.ref b43)]) (lenOf pd_22 rfl) rfl (by show 2 * 0 + _ ≤ _; exact Nat.le_of_eq rfl) (hb hby at_207) (fun _ _ => ⟨rfl, rfl, (by decide : 16 + 2 ≤ _), (by decide : 54 + 20 ≤ _)⟩)
        dsimp only [Pt.U, Pt.locs, Pt.cells, Pt.slots] at X45 l45 y45 z45 st45 hQ45 hSc45 hgc45 hC45
        subst l45 y45 z45
        obtain ⟨rfl, N45q, K45, A45c, Fv45, Ss45⟩ := hQ45
        have N45 := Fr.app N44 N45q
        obtain ⟨Xr45, hS45, hZ45, hown45⟩ := rebS (n1 := T44.heap.size) hS44 (Nat.le_refl _) X45 hSc45 hgc45 hZ44 hown44
        have cq45 := hC45
        have CH45 := CH44.trans cq45
        have sf45_b26 := cq45.safe ((A28c.ext E43).keep K44).lt sf44_b26
        have sf45_b43 := cq45.safe (A43.keep K44).lt sf44_b43
        have Kc45 : Keep h0 T45.heap [] := Kc44.trans K45 (allS (Or.inr sz_b43) all0)
        have Oc45 := Oc44.keep K45 (allS g_b43 all0)
        have sr45_b27 := sr44_b27.keepJ K45 (A43.keep K44) (hw _ (List.mem_of_getElem? (i := 7) rfl))
        have sr45_b44 := Ss44.keepJ K45 (A43.keep K44) (hw _ (List.mem_of_getElem? (i := 7) rfl))
        have pre46 : ∀ tq, Steps p.tables e below (T45.setTop (mkF m 216 #[.val (.int pc0), .val (.int pc1), .val (.int pc2), .val (.int pd), .val (.int pf), .val (.int x0), .val (.int x1), .val (.int x2), .val (.int (pd &&& (3 : Int32))), .val (.int xe), .val (.int y0), .val (.int y1), .val (.int y2), .val (.int (pf &&& (3 : Int32))), .val (.int la), .val (.int lb), .val (.ref b26), .val (.ref b43), .unset] [(.int lb), (.int la)])) tq → Steps p.tables e below (s₁.setTop (entryFrame m #[(.int pc0), (.int pc1), (.int pc2), (.int pd), (.int pf)] maxLocals)) tq := by
          intro tq kt
          refine pre38 tq ?_
          show Steps p.tables e below (T28.setTop (mkF m 164 #[.val (.int pc0), .val (.int pc1), .val (.int pc2), .val (.int pd), .val (.int pf), .val (.int x0), .val (.int x1), .val (.int x2), .val (.int (pd &&& (3 : Int32))), .val (.int xe), .val (.int y0), .val (.int y1), .val (.int y2), .val (.int (pf &&& (3 : Int32))), .val (.int la), .val (.int lb), .val (.ref b26), .unset, .unset] [(.int (3 : Int32)), (.int (pf &&& (3 : Int32)))])) _
          refine XS.icmpYes Xr28.here hx rfl (pc0 := 164) (pc' := 192) rfl (hb hby at_164) rfl (feq hc164_39).2 (by decide) (by decide) ?_
          show Steps p.tables e below (T28.setTop (mkF m 192 #[.val (.int pc0), .val (.int pc1), .val (.int pc2), .val (.int pd), .val (.int pf), .val (.int x0), .val (.int x1), .val (.int x2), .val (.int (pd &&& (3 : Int32))), .val (.int xe), .val (.int y0), .val (.int y1), .val (.int y2), .val (.int (pf &&& (3 : Int32))), .val (.int la), .val (.int lb), .val (.ref b26), .unset, .unset] [])) _
          refine st43 _ ?_
          show Steps p.tables e below (T43.setTop (mkF m 195 #[.val (.int pc0), .val (.int pc1), .val (.int pc2), .val (.int pd), .val (.int pf), .val (.int x0), .val (.int x1), .val (.int x2), .val (.int (pd &&& (3 : Int32))), .val (.int xe), .val (.int y0), .val (.int y1), .val (.int y2), .val (.int (pf &&& (3 : Int32))), .val (.int la), .val (.int lb), .val (.ref b26), .unset, .unset] [(.ref b43)])) _
          refine XS.dup X43.here hx rfl (hb hby at_195) rfl rfl ?_
          show Steps p.tables e below (T43.setTop (mkF m 196 #[.val (.int pc0), .val (.int pc1), .val (.int pc2), .val (.int pd), .val (.int pf), .val (.int x0), .val (.int x1), .val (.int x2), .val (.int (pd &&& (3 : Int32))), .val (.int xe), .val (.int y0), .val (.int y1), .val (.int y2), .val (.int (pf &&& (3 : Int32))), .val (.int la), .val (.int lb), .val (.ref b26), .unset, .unset] [(.ref b43), (.ref b43)])) _
          refine XS.iload X43.here hx rfl (hb hby at_196) rfl ?_
          show Steps p.tables e below (T43.setTop (mkF m 198 #[.val (.int pc0), .val (.int pc1), .val (.int pc2), .val (.int pd), .val (.int pf), .val (.int x0), .val (.int x1), .val (.int x2), .val (.int (pd &&& (3 : Int32))), .val (.int xe), .val (.int y0), .val (.int y1), .val (.int y2), .val (.int (pf &&& (3 : Int32))), .val (.int la), .val (.int lb), .val (.ref b26), .unset, .unset] [(.int y0), (.ref b43), (.ref b43)])) _
          refine XS.iload X43.here hx rfl (hb hby at_198) rfl ?_
          show Steps p.tables e below (T43.setTop (mkF m 200 #[.val (.int pc0), .val (.int pc1), .val (.int pc2), .val (.int pd), .val (.int pf), .val (.int x0), .val (.int x1), .val (.int x2), .val (.int (pd &&& (3 : Int32))), .val (.int xe), .val (.int y0), .val (.int y1), .val (.int y2), .val (.int (pf &&& (3 : Int32))), .val (.int la), .val (.int lb), .val (.ref b26), .unset, .unset] [(.int y1), (.int y0), (.ref b43), (.ref b43)])) _
          refine XS.iload X43.here hx rfl (hb hby at_200) rfl ?_
          show Steps p.tables e below (T43.setTop (mkF m 202 #[.val (.int pc0), .val (.int pc1), .val (.int pc2), .val (.int pd), .val (.int pf), .val (.int x0), .val (.int x1), .val (.int x2), .val (.int (pd &&& (3 : Int32))), .val (.int xe), .val (.int y0), .val (.int y1), .val (.int y2), .val (.int (pf &&& (3 : Int32))), .val (.int la), .val (.int lb), .val (.ref b26), .unset, .unset] [(.int y2), (.int y1), (.int y0), (.ref b43), (.ref b43)])) _
          refine XS.iload X43.here hx rfl (hb hby at_202) rfl ?_
          show Steps p.tables e below (T43.setTop (mkF m 204 #[.val (.int pc0), .val (.int pc1), .val (.int pc2), .val (.int pd), .val (.int pf), .val (.int x0), .val (.int x1), .val (.int x2), .val (.int (pd &&& (3 : Int32))), .val (.int xe), .val (.int y0), .val (.int y1), .val (.int y2), .val (.int (pf &&& (3 : Int32))), .val (.int la), .val (.int lb), .val (.ref b26), .unset, .unset] [(.int lb), (.int y2), (.int y1), (.int y0), (.ref b43), (.ref b43)])) _
          refine st44.trans ?_
          show Steps p.tables e below (T44.setTop (mkF m 207 #[.val (.int pc0), .val (.int pc1), .val (.int pc2), .val (.int pd), .val (.int pf), .val (.int x0), .val (.int x1), .val (.int x2), .val (.int (pd &&& (3 : Int32))), .val (.int xe), .val (.int y0), .val (.int y1), .val (.int y2), .val (.int (pf &&& (3 : Int32))), .val (.int la), .val (.int lb), .val (.ref b26), .unset, .unset] [(.ref b44), (.ref b43), (.ref b43)])) _
          refine st45.trans ?_
          show Steps p.tables e below (T45.setTop (mkF m 210 #[.val (.int pc0), .val (.int pc1), .val (.int pc2), .val (.int pd), .val (.int pf), .val (.int x0), .val (.int x1), .val (.int x2), .val (.int (pd &&& (3 : Int32))), .val (.int xe), .val (.int y0), .val (.int y1), .val (.int y2), .val (.int (pf &&& (3 : Int32))), .val (.int la), .val (.int lb), .val (.ref b26), .unset, .unset] [(.ref b43)])) _
          refine XS.astore Xr45.here hx rfl (hb hby at_210) rfl rfl (l' := #[.val (.int pc0), .val (.int pc1), .val (.int pc2), .val (.int pd), .val (.int pf), .val (.int x0), .val (.int x1), .val (.int x2), .val (.int (pd &&& (3 : Int32))), .val (.int xe), .val (.int y0), .val (.int y1), .val (.int y2), .val (.int (pf &&& (3 : Int32))), .val (.int la), .val (.int lb), .val (.ref b26), .val (.ref b43), .unset]) rfl ?_
          show Steps p.tables e below (T45.setTop (mkF m 212 #[.val (.int pc0), .val (.int pc1), .val (.int pc2), .val (.int pd), .val (.int pf), .val (.int x0), .val (.int x1), .val (.int x2), .val (.int (pd &&& (3 : Int32))), .val (.int xe), .val (.int y0), .val (.int y1), .val (.int y2), .val (.int (pf &&& (3 : Int32))), .val (.int la), .val (.int lb), .val (.ref b26), .val (.ref b43), .unset] [])) _
          refine XS.iload Xr45.here hx rfl (hb hby at_212) rfl ?_
          show Steps p.tables e below (T45.setTop (mkF m 214 #[.val (.int pc0), .val (.int pc1), .val (.int pc2), .val (.int pd), .val (.int pf), .val (.int x0), .val (.int x1), .val (.int x2), .val (.int (pd &&& (3 : Int32))), .val (.int xe), .val (.int y0), .val (.int y1), .val (.int y2), .val (.int (pf &&& (3 : Int32))), .val (.int la), .val (.int lb), .val (.ref b26), .val (.ref b43), .unset] [(.int la)])) _
          refine XS.iload Xr45.here hx rfl (hb hby at_214) rfl ?_
          show Steps p.tables e below (T45.setTop (mkF m 216 #[.val (.int pc0), .val (.int pc1), .val (.int pc2), .val (.int pd), .val (.int pf), .val (.int x0), .val (.int x1), .val (.int x2), .val (.int (pd &&& (3 : Int32))), .val (.int xe), .val (.int y0), .val (.int y1), .val (.int y2), .val (.int (pf &&& (3 : Int32))), .val (.int la), .val (.int lb), .val (.ref b26), .val (.ref b43), .unset] [(.int lb), (.int la)])) _
          exact kt
        obtain ⟨ex, hv_ex, pre47⟩ : ∃ ex : Int32, ex = (if la = lb then (if la < (1 : Int32) then (if la < (2 : Int32) then (if la < (3 : Int32) then (1 : Int32) else if x2 = y2 then (1 : Int32) else (0 : Int32)) else if x1 = y1 then (if la < (3 : Int32) then (1 : Int32) else if x2 = y2 then (1 : Int32) else (0 : Int32)) else (0 : Int32)) else if x0 = y0 then (if la < (2 : Int32) then (if la < (3 : Int32) then (1 : Int32) else if x2 = y2 then (1 : Int32) else (0 : Int32)) else if x1 = y1 then (if la < (3 : Int32) then (1 : Int32) else if x2 = y2 then (1 : Int32) else (0 : Int32)) else (0 : Int32)) else (0 : Int32)) else (0 : Int32)) ∧ ∀ tq, Steps p.tables e below (T45.setTop (mkF m 263 #[.val (.int pc0), .val (.int pc1), .val (.int pc2), .val (.int pd), .val (.int pf), .val (.int x0), .val (.int x1), .val (.int x2), .val (.int (pd &&& (3 : Int32))), .val (.int xe), .val (.int y0), .val (.int y1), .val (.int y2), .val (.int (pf &&& (3 : Int32))), .val (.int la), .val (.int lb), .val (.ref b26), .val (.ref b43), .unset] [(.int ex)])) tq → Steps p.tables e below (s₁.setTop (entryFrame m #[(.int pc0), (.int pc1), (.int pc2), (.int pd), (.int pf)] maxLocals)) tq := by
          by_cases hc216_48 : la = lb
          · have pre49 : ∀ tq, Steps p.tables e below (T45.setTop (mkF m 222 #[.val (.int pc0), .val (.int pc1), .val (.int pc2), .val (.int pd), .val (.int pf), .val (.int x0), .val (.int x1), .val (.int x2), .val (.int (pd &&& (3 : Int32))), .val (.int xe), .val (.int y0), .val (.int y1), .val (.int y2), .val (.int (pf &&& (3 : Int32))), .val (.int la), .val (.int lb), .val (.ref b26), .val (.ref b43), .unset] [(.int (1 : Int32)), (.int la)])) tq → Steps p.tables e below (s₁.setTop (entryFrame m #[(.int pc0), (.int pc1), (.int pc2), (.int pd), (.int pf)] maxLocals)) tq := by
              intro tq kt
              refine pre46 tq ?_
              show Steps p.tables e below (T45.setTop (mkF m 216 #[.val (.int pc0), .val (.int pc1), .val (.int pc2), .val (.int pd), .val (.int pf), .val (.int x0), .val (.int x1), .val (.int x2), .val (.int (pd &&& (3 : Int32))), .val (.int xe), .val (.int y0), .val (.int y1), .val (.int y2), .val (.int (pf &&& (3 : Int32))), .val (.int la), .val (.int lb), .val (.ref b26), .val (.ref b43), .unset] [(.int lb), (.int la)])) _
              refine XS.icmpNo Xr45.here hx rfl (hb hby at_216) rfl (teq hc216_48).2 ?_
              show Steps p.tables e below (T45.setTop (mkF m 219 #[.val (.int pc0), .val (.int pc1), .val (.int pc2), .val (.int pd), .val (.int pf), .val (.int x0), .val (.int x1), .val (.int x2), .val (.int (pd &&& (3 : Int32))), .val (.int xe), .val (.int y0), .val (.int y1), .val (.int y2), .val (.int (pf &&& (3 : Int32))), .val (.int la), .val (.int lb), .val (.ref b26), .val (.ref b43), .unset] [])) _
              refine XS.iload Xr45.here hx rfl (hb hby at_219) rfl ?_
              show Steps p.tables e below (T45.setTop (mkF m 221 #[.val (.int pc0), .val (.int pc1), .val (.int pc2), .val (.int pd), .val (.int pf), .val (.int x0), .val (.int x1), .val (.int x2), .val (.int (pd &&& (3 : Int32))), .val (.int xe), .val (.int y0), .val (.int y1), .val (.int y2), .val (.int (pf &&& (3 : Int32))), .val (.int la), .val (.int lb), .val (.ref b26), .val (.ref b43), .unset] [(.int la)])) _
              refine XS.iconst Xr45.here hx rfl (hb hby at_221) ?_
              show Steps p.tables e below (T45.setTop (mkF m 222 #[.val (.int pc0), .val (.int pc1), .val (.int pc2), .val (.int pd), .val (.int pf), .val (.int x0), .val (.int x1), .val (.int x2), .val (.int (pd &&& (3 : Int32))), .val (.int xe), .val (.int y0), .val (.int y1), .val (.int y2), .val (.int (pf &&& (3 : Int32))), .val (.int la), .val (.int lb), .val (.ref b26), .val (.ref b43), .unset] [(.int (1 : Int32)), (.int la)])) _
              exact kt
            by_cases hc222_50 : la < (1 : Int32)
            · have pre51 : ∀ tq, Steps p.tables e below (T45.setTop (mkF m 235 #[.val (.int pc0), .val (.int pc1), .val (.int pc2), .val (.int pd), .val (.int pf), .val (.int x0), .val (.int x1), .val (.int x2), .val (.int (pd &&& (3 : Int32))), .val (.int xe), .val (.int y0), .val (.int y1), .val (.int y2), .val (.int (pf &&& (3 : Int32))), .val (.int la), .val (.int lb), .val (.ref b26), .val (.ref b43), .unset] [(.int (2 : Int32)), (.int la)])) tq → Steps p.tables e below (s₁.setTop (entryFrame m #[(.int pc0), (.int pc1), (.int pc2), (.int pd), (.int pf)] maxLocals)) tq := by
                intro tq kt
                refine pre49 tq ?_
                show Steps p.tables e below (T45.setTop (mkF m 222 #[.val (.int pc0), .val (.int pc1), .val (.int pc2), .val (.int pd), .val (.int pf), .val (.int x0), .val (.int x1), .val (.int x2), .val (.int (pd &&& (3 : Int32))), .val (.int xe), .val (.int y0), .val (.int y1), .val (.int y2), .val (.int (pf &&& (3 : Int32))), .val (.int la), .val (.int lb), .val (.ref b26), .val (.ref b43), .unset] [(.int (1 : Int32)), (.int la)])) _
                refine XS.icmpYes Xr45.here hx rfl (pc0 := 222) (pc' := 232) rfl (hb hby at_222) rfl (tlt hc222_50).1 (by decide) (by decide) ?_
                show Steps p.tables e below (T45.setTop (mkF m 232 #[.val (.int pc0), .val (.int pc1), .val (.int pc2), .val (.int pd), .val (.int pf), .val (.int x0), .val (.int x1), .val (.int x2), .val (.int (pd &&& (3 : Int32))), .val (.int xe), .val (.int y0), .val (.int y1), .val (.int y2), .val (.int (pf &&& (3 : Int32))), .val (.int la), .val (.int lb), .val (.ref b26), .val (.ref b43), .unset] [])) _
                refine XS.iload Xr45.here hx rfl (hb hby at_232) rfl ?_
                show Steps p.tables e below (T45.setTop (mkF m 234 #[.val (.int pc0), .val (.int pc1), .val (.int pc2), .val (.int pd), .val (.int pf), .val (.int x0), .val (.int x1), .val (.int x2), .val (.int (pd &&& (3 : Int32))), .val (.int xe), .val (.int y0), .val (.int y1), .val (.int y2), .val (.int (pf &&& (3 : Int32))), .val (.int la), .val (.int lb), .val (.ref b26), .val (.ref b43), .unset] [(.int la)])) _
                refine XS.iconst Xr45.here hx rfl (hb hby at_234) ?_
                show Steps p.tables e below (T45.setTop (mkF m 235 #[.val (.int pc0), .val (.int pc1), .val (.int pc2), .val (.int pd), .val (.int pf), .val (.int x0), .val (.int x1), .val (.int x2), .val (.int (pd &&& (3 : Int32))), .val (.int xe), .val (.int y0), .val (.int y1), .val (.int y2), .val (.int (pf &&& (3 : Int32))), .val (.int la), .val (.int lb), .val (.ref b26), .val (.ref b43), .unset] [(.int (2 : Int32)), (.int la)])) _
                exact kt
              by_cases hc235_52 : la < (2 : Int32)
              · have pre53 : ∀ tq, Steps p.tables e below (T45.setTop (mkF m 248 #[.val (.int pc0), .val (.int pc1), .val (.int pc2), .val (.int pd), .val (.int pf), .val (.int x0), .val (.int x1), .val (.int x2), .val (.int (pd &&& (3 : Int32))), .val (.int xe), .val (.int y0), .val (.int y1), .val (.int y2), .val (.int (pf &&& (3 : Int32))), .val (.int la), .val (.int lb), .val (.ref b26), .val (.ref b43), .unset] [(.int (3 : Int32)), (.int la)])) tq → Steps p.tables e below (s₁.setTop (entryFrame m #[(.int pc0), (.int pc1), (.int pc2), (.int pd), (.int pf)] maxLocals)) tq := by
                  intro tq kt
                  refine pre51 tq ?_
                  show Steps p.tables e below (T45.setTop (mkF m 235 #[.val (.int pc0), .val (.int pc1), .val (.int pc2), .val (.int pd), .val (.int pf), .val (.int x0), .val (.int x1), .val (.int x2), .val (.int (pd &&& (3 : Int32))), .val (.int xe), .val (.int y0), .val (.int y1), .val (.int y2), .val (.int (pf &&& (3 : Int32))), .val (.int la), .val (.int lb), .val (.ref b26), .val (.ref b43), .unset] [(.int (2 : Int32)), (.int la)])) _
                  refine XS.icmpYes Xr45.here hx rfl (pc0 := 235) (pc' := 245) rfl (hb hby at_235) rfl (tlt hc235_52).1 (by decide) (by decide) ?_
                  show Steps p.tables e below (T45.setTop (mkF m 245 #[.val (.int pc0), .val (.int pc1), .val (.int pc2), .val (.int pd), .val (.int pf), .val (.int x0), .val (.int x1), .val (.int x2), .val (.int (pd &&& (3 : Int32))), .val (.int xe), .val (.int y0), .val (.int y1), .val (.int y2), .val (.int (pf &&& (3 : Int32))), .val (.int la), .val (.int lb), .val (.ref b26), .val (.ref b43), .unset] [])) _
                  refine XS.iload Xr45.here hx rfl (hb hby at_245) rfl ?_
                  show Steps p.tables e below (T45.setTop (mkF m 247 #[.val (.int pc0), .val (.int pc1), .val (.int pc2), .val (.int pd), .val (.int pf), .val (.int x0), .val (.int x1), .val (.int x2), .val (.int (pd &&& (3 : Int32))), .val (.int xe), .val (.int y0), .val (.int y1), .val (.int y2), .val (.int (pf &&& (3 : Int32))), .val (.int la), .val (.int lb), .val (.ref b26), .val (.ref b43), .unset] [(.int la)])) _
                  refine XS.iconst Xr45.here hx rfl (hb hby at_247) ?_
                  show Steps p.tables e below (T45.setTop (mkF m 248 #[.val (.int pc0), .val (.int pc1), .val (.int pc2), .val (.int pd), .val (.int pf), .val (.int x0), .val (.int x1), .val (.int x2), .val (.int (pd &&& (3 : Int32))), .val (.int xe), .val (.int y0), .val (.int y1), .val (.int y2), .val (.int (pf &&& (3 : Int32))), .val (.int la), .val (.int lb), .val (.ref b26), .val (.ref b43), .unset] [(.int (3 : Int32)), (.int la)])) _
                  exact kt
                by_cases hc248_54 : la < (3 : Int32)
                · have pre55 : ∀ tq, Steps p.tables e below (T45.setTop (mkF m 263 #[.val (.int pc0), .val (.int pc1), .val (.int pc2), .val (.int pd), .val (.int pf), .val (.int x0), .val (.int x1), .val (.int x2), .val (.int (pd &&& (3 : Int32))), .val (.int xe), .val (.int y0), .val (.int y1), .val (.int y2), .val (.int (pf &&& (3 : Int32))), .val (.int la), .val (.int lb), .val (.ref b26), .val (.ref b43), .unset] [(.int (1 : Int32))])) tq → Steps p.tables e below (s₁.setTop (entryFrame m #[(.int pc0), (.int pc1), (.int pc2), (.int pd), (.int pf)] maxLocals)) tq := by
                    intro tq kt
                    refine pre53 tq ?_
                    show Steps p.tables e below (T45.setTop (mkF m 248 #[.val (.int pc0), .val (.int pc1), .val (.int pc2), .val (.int pd), .val (.int pf), .val (.int x0), .val (.int x1), .val (.int x2), .val (.int (pd &&& (3 : Int32))), .val (.int xe), .val (.int y0), .val (.int y1), .val (.int y2), .val (.int (pf &&& (3 : Int32))), .val (.int la), .val (.int lb), .val (.ref b26), .val (.ref b43), .unset] [(.int (3 : Int32)), (.int la)])) _
                    refine XS.icmpYes Xr45.here hx rfl (pc0 := 248) (pc' := 258) rfl (hb hby at_248) rfl (tlt hc248_54).1 (by decide) (by decide) ?_
                    show Steps p.tables e below (T45.setTop (mkF m 258 #[.val (.int pc0), .val (.int pc1), .val (.int pc2), .val (.int pd), .val (.int pf), .val (.int x0), .val (.int x1), .val (.int x2), .val (.int (pd &&& (3 : Int32))), .val (.int xe), .val (.int y0), .val (.int y1), .val (.int y2), .val (.int (pf &&& (3 : Int32))), .val (.int la), .val (.int lb), .val (.ref b26), .val (.ref b43), .unset] [])) _
                    refine XS.iconst Xr45.here hx rfl (hb hby at_258) ?_
                    show Steps p.tables e below (T45.setTop (mkF m 259 #[.val (.int pc0), .val (.int pc1), .val (.int pc2), .val (.int pd), .val (.int pf), .val (.int x0), .val (.int x1), .val (.int x2), .val (.int (pd &&& (3 : Int32))), .val (.int xe), .val (.int y0), .val (.int y1), .val (.int y2), .val (.int (pf &&& (3 : Int32))), .val (.int la), .val (.int lb), .val (.ref b26), .val (.ref b43), .unset] [(.int (1 : Int32))])) _
                    refine XS.goto Xr45.here hx rfl (pc0 := 259) (pc' := 263) rfl (hb hby at_259) (by decide) (by decide) ?_
                    show Steps p.tables e below (T45.setTop (mkF m 263 #[.val (.int pc0), .val (.int pc1), .val (.int pc2), .val (.int pd), .val (.int pf), .val (.int x0), .val (.int x1), .val (.int x2), .val (.int (pd &&& (3 : Int32))), .val (.int xe), .val (.int y0), .val (.int y1), .val (.int y2), .val (.int (pf &&& (3 : Int32))), .val (.int la), .val (.int lb), .val (.ref b26), .val (.ref b43), .unset] [(.int (1 : Int32))])) _
                    exact kt
                  exact ⟨(1 : Int32), by rw [if_pos hc216_48, if_pos hc222_50, if_pos hc235_52, if_pos hc248_54], pre55⟩
                · have pre56 : ∀ tq, Steps p.tables e below (T45.setTop (mkF m 255 #[.val (.int pc0), .val (.int pc1), .val (.int pc2), .val (.int pd), .val (.int pf), .val (.int x0), .val (.int x1), .val (.int x2), .val (.int (pd &&& (3 : Int32))), .val (.int xe), .val (.int y0), .val (.int y1), .val (.int y2), .val (.int (pf &&& (3 : Int32))), .val (.int la), .val (.int lb), .val (.ref b26), .val (.ref b43), .unset] [(.int y2), (.int x2)])) tq → Steps p.tables e below (s₁.setTop (entryFrame m #[(.int pc0), (.int pc1), (.int pc2), (.int pd), (.int pf)] maxLocals)) tq := by
                    intro tq kt
                    refine pre53 tq ?_
                    show Steps p.tables e below (T45.setTop (mkF m 248 #[.val (.int pc0), .val (.int pc1), .val (.int pc2), .val (.int pd), .val (.int pf), .val (.int x0), .val (.int x1), .val (.int x2), .val (.int (pd &&& (3 : Int32))), .val (.int xe), .val (.int y0), .val (.int y1), .val (.int y2), .val (.int (pf &&& (3 : Int32))), .val (.int la), .val (.int lb), .val (.ref b26), .val (.ref b43), .unset] [(.int (3 : Int32)), (.int la)])) _
                    refine XS.icmpNo Xr45.here hx rfl (hb hby at_248) rfl (flt hc248_54).1 ?_
                    show Steps p.tables e below (T45.setTop (mkF m 251 #[.val (.int pc0), .val (.int pc1), .val (.int pc2), .val (.int pd), .val (.int pf), .val (.int x0), .val (.int x1), .val (.int x2), .val (.int (pd &&& (3 : Int32))), .val (.int xe), .val (.int y0), .val (.int y1), .val (.int y2), .val (.int (pf &&& (3 : Int32))), .val (.int la), .val (.int lb), .val (.ref b26), .val (.ref b43), .unset] [])) _
                    refine XS.iload Xr45.here hx rfl (hb hby at_251) rfl ?_
                    show Steps p.tables e below (T45.setTop (mkF m 253 #[.val (.int pc0), .val (.int pc1), .val (.int pc2), .val (.int pd), .val (.int pf), .val (.int x0), .val (.int x1), .val (.int x2), .val (.int (pd &&& (3 : Int32))), .val (.int xe), .val (.int y0), .val (.int y1), .val (.int y2), .val (.int (pf &&& (3 : Int32))), .val (.int la), .val (.int lb), .val (.ref b26), .val (.ref b43), .unset] [(.int x2)])) _
                    refine XS.iload Xr45.here hx rfl (hb hby at_253) rfl ?_
                    show Steps p.tables e below (T45.setTop (mkF m 255 #[.val (.int pc0), .val (.int pc1), .val (.int pc2), .val (.int pd), .val (.int pf), .val (.int x0), .val (.int x1), .val (.int x2), .val (.int (pd &&& (3 : Int32))), .val (.int xe), .val (.int y0), .val (.int y1), .val (.int y2), .val (.int (pf &&& (3 : Int32))), .val (.int la), .val (.int lb), .val (.ref b26), .val (.ref b43), .unset] [(.int y2), (.int x2)])) _
                    exact kt
                  by_cases hc255_57 : x2 = y2
                  · have pre58 : ∀ tq, Steps p.tables e below (T45.setTop (mkF m 263 #[.val (.int pc0), .val (.int pc1), .val (.int pc2), .val (.int pd), .val (.int pf), .val (.int x0), .val (.int x1), .val (.int x2), .val (.int (pd &&& (3 : Int32))), .val (.int xe), .val (.int y0), .val (.int y1), .val (.int y2), .val (.int (pf &&& (3 : Int32))), .val (.int la), .val (.int lb), .val (.ref b26), .val (.ref b43), .unset] [(.int (1 : Int32))])) tq → Steps p.tables e below (s₁.setTop (entryFrame m #[(.int pc0), (.int pc1), (.int pc2), (.int pd), (.int pf)] maxLocals)) tq := by
                      intro tq kt
                      refine pre56 tq ?_
                      show Steps p.tables e below (T45.setTop (mkF m 255 #[.val (.int pc0), .val (.int pc1), .val (.int pc2), .val (.int pd), .val (.int pf), .val (.int x0), .val (.int x1), .val (.int x2), .val (.int (pd &&& (3 : Int32))), .val (.int xe), .val (.int y0), .val (.int y1), .val (.int y2), .val (.int (pf &&& (3 : Int32))), .val (.int la), .val (.int lb), .val (.ref b26), .val (.ref b43), .unset] [(.int y2), (.int x2)])) _
                      refine XS.icmpNo Xr45.here hx rfl (hb hby at_255) rfl (teq hc255_57).2 ?_
                      show Steps p.tables e below (T45.setTop (mkF m 258 #[.val (.int pc0), .val (.int pc1), .val (.int pc2), .val (.int pd), .val (.int pf), .val (.int x0), .val (.int x1), .val (.int x2), .val (.int (pd &&& (3 : Int32))), .val (.int xe), .val (.int y0), .val (.int y1), .val (.int y2), .val (.int (pf &&& (3 : Int32))), .val (.int la), .val (.int lb), .val (.ref b26), .val (.ref b43), .unset] [])) _
                      refine XS.iconst Xr45.here hx rfl (hb hby at_258) ?_
                      show Steps p.tables e below (T45.setTop (mkF m 259 #[.val (.int pc0), .val (.int pc1), .val (.int pc2), .val (.int pd), .val (.int pf), .val (.int x0), .val (.int x1), .val (.int x2), .val (.int (pd &&& (3 : Int32))), .val (.int xe), .val (.int y0), .val (.int y1), .val (.int y2), .val (.int (pf &&& (3 : Int32))), .val (.int la), .val (.int lb), .val (.ref b26), .val (.ref b43), .unset] [(.int (1 : Int32))])) _
                      refine XS.goto Xr45.here hx rfl (pc0 := 259) (pc' := 263) rfl (hb hby at_259) (by decide) (by decide) ?_
                      show Steps p.tables e below (T45.setTop (mkF m 263 #[.val (.int pc0), .val (.int pc1), .val (.int pc2), .val (.int pd), .val (.int pf), .val (.int x0), .val (.int x1), .val (.int x2), .val (.int (pd &&& (3 : Int32))), .val (.int xe), .val (.int y0), .val (.int y1), .val (.int y2), .val (.int (pf &&& (3 : Int32))), .val (.int la), .val (.int lb), .val (.ref b26), .val (.ref b43), .unset] [(.int (1 : Int32))])) _
                      exact kt
                    exact ⟨(1 : Int32), by rw [if_pos hc216_48, if_pos hc222_50, if_pos hc235_52, if_neg hc248_54, if_pos hc255_57], pre58⟩
                  · have pre59 : ∀ tq, Steps p.tables e below (T45.setTop (mkF m 263 #[.val (.int pc0), .val (.int pc1), .val (.int pc2), .val (.int pd), .val (.int pf), .val (.int x0), .val (.int x1), .val (.int x2), .val (.int (pd &&& (3 : Int32))), .val (.int xe), .val (.int y0), .val (.int y1), .val (.int y2), .val (.int (pf &&& (3 : Int32))), .val (.int la), .val (.int lb), .val (.ref b26), .val (.ref b43), .unset] [(.int (0 : Int32))])) tq → Steps p.tables e below (s₁.setTop (entryFrame m #[(.int pc0), (.int pc1), (.int pc2), (.int pd), (.int pf)] maxLocals)) tq := by
                      intro tq kt
                      refine pre56 tq ?_
                      show Steps p.tables e below (T45.setTop (mkF m 255 #[.val (.int pc0), .val (.int pc1), .val (.int pc2), .val (.int pd), .val (.int pf), .val (.int x0), .val (.int x1), .val (.int x2), .val (.int (pd &&& (3 : Int32))), .val (.int xe), .val (.int y0), .val (.int y1), .val (.int y2), .val (.int (pf &&& (3 : Int32))), .val (.int la), .val (.int lb), .val (.ref b26), .val (.ref b43), .unset] [(.int y2), (.int x2)])) _
                      refine XS.icmpYes Xr45.here hx rfl (pc0 := 255) (pc' := 262) rfl (hb hby at_255) rfl (feq hc255_57).2 (by decide) (by decide) ?_
                      show Steps p.tables e below (T45.setTop (mkF m 262 #[.val (.int pc0), .val (.int pc1), .val (.int pc2), .val (.int pd), .val (.int pf), .val (.int x0), .val (.int x1), .val (.int x2), .val (.int (pd &&& (3 : Int32))), .val (.int xe), .val (.int y0), .val (.int y1), .val (.int y2), .val (.int (pf &&& (3 : Int32))), .val (.int la), .val (.int lb), .val (.ref b26), .val (.ref b43), .unset] [])) _
                      refine XS.iconst Xr45.here hx rfl (hb hby at_262) ?_
                      show Steps p.tables e below (T45.setTop (mkF m 263 #[.val (.int pc0), .val (.int pc1), .val (.int pc2), .val (.int pd), .val (.int pf), .val (.int x0), .val (.int x1), .val (.int x2), .val (.int (pd &&& (3 : Int32))), .val (.int xe), .val (.int y0), .val (.int y1), .val (.int y2), .val (.int (pf &&& (3 : Int32))), .val (.int la), .val (.int lb), .val (.ref b26), .val (.ref b43), .unset] [(.int (0 : Int32))])) _
                      exact kt
                    exact ⟨(0 : Int32), by rw [if_pos hc216_48, if_pos hc222_50, if_pos hc235_52, if_neg hc248_54, if_neg hc255_57], pre59⟩
              · have pre60 : ∀ tq, Steps p.tables e below (T45.setTop (mkF m 242 #[.val (.int pc0), .val (.int pc1), .val (.int pc2), .val (.int pd), .val (.int pf), .val (.int x0), .val (.int x1), .val (.int x2), .val (.int (pd &&& (3 : Int32))), .val (.int xe), .val (.int y0), .val (.int y1), .val (.int y2), .val (.int (pf &&& (3 : Int32))), .val (.int la), .val (.int lb), .val (.ref b26), .val (.ref b43), .unset] [(.int y1), (.int x1)])) tq → Steps p.tables e below (s₁.setTop (entryFrame m #[(.int pc0), (.int pc1), (.int pc2), (.int pd), (.int pf)] maxLocals)) tq := by
                  intro tq kt
                  refine pre51 tq ?_
                  show Steps p.tables e below (T45.setTop (mkF m 235 #[.val (.int pc0), .val (.int pc1), .val (.int pc2), .val (.int pd), .val (.int pf), .val (.int x0), .val (.int x1), .val (.int x2), .val (.int (pd &&& (3 : Int32))), .val (.int xe), .val (.int y0), .val (.int y1), .val (.int y2), .val (.int (pf &&& (3 : Int32))), .val (.int la), .val (.int lb), .val (.ref b26), .val (.ref b43), .unset] [(.int (2 : Int32)), (.int la)])) _
                  refine XS.icmpNo Xr45.here hx rfl (hb hby at_235) rfl (flt hc235_52).1 ?_
                  show Steps p.tables e below (T45.setTop (mkF m 238 #[.val (.int pc0), .val (.int pc1), .val (.int pc2), .val (.int pd), .val (.int pf), .val (.int x0), .val (.int x1), .val (.int x2), .val (.int (pd &&& (3 : Int32))), .val (.int xe), .val (.int y0), .val (.int y1), .val (.int y2), .val (.int (pf &&& (3 : Int32))), .val (.int la), .val (.int lb), .val (.ref b26), .val (.ref b43), .unset] [])) _
                  refine XS.iload Xr45.here hx rfl (hb hby at_238) rfl ?_
                  show Steps p.tables e below (T45.setTop (mkF m 240 #[.val (.int pc0), .val (.int pc1), .val (.int pc2), .val (.int pd), .val (.int pf), .val (.int x0), .val (.int x1), .val (.int x2), .val (.int (pd &&& (3 : Int32))), .val (.int xe), .val (.int y0), .val (.int y1), .val (.int y2), .val (.int (pf &&& (3 : Int32))), .val (.int la), .val (.int lb), .val (.ref b26), .val (.ref b43), .unset] [(.int x1)])) _
                  refine XS.iload Xr45.here hx rfl (hb hby at_240) rfl ?_
                  show Steps p.tables e below (T45.setTop (mkF m 242 #[.val (.int pc0), .val (.int pc1), .val (.int pc2), .val (.int pd), .val (.int pf), .val (.int x0), .val (.int x1), .val (.int x2), .val (.int (pd &&& (3 : Int32))), .val (.int xe), .val (.int y0), .val (.int y1), .val (.int y2), .val (.int (pf &&& (3 : Int32))), .val (.int la), .val (.int lb), .val (.ref b26), .val (.ref b43), .unset] [(.int y1), (.int x1)])) _
                  exact kt
                by_cases hc242_61 : x1 = y1
                · have pre62 : ∀ tq, Steps p.tables e below (T45.setTop (mkF m 248 #[.val (.int pc0), .val (.int pc1), .val (.int pc2), .val (.int pd), .val (.int pf), .val (.int x0), .val (.int x1), .val (.int x2), .val (.int (pd &&& (3 : Int32))), .val (.int xe), .val (.int y0), .val (.int y1), .val (.int y2), .val (.int (pf &&& (3 : Int32))), .val (.int la), .val (.int lb), .val (.ref b26), .val (.ref b43), .unset] [(.int (3 : Int32)), (.int la)])) tq → Steps p.tables e below (s₁.setTop (entryFrame m #[(.int pc0), (.int pc1), (.int pc2), (.int pd), (.int pf)] maxLocals)) tq := by
                    intro tq kt
                    refine pre60 tq ?_
                    show Steps p.tables e below (T45.setTop (mkF m 242 #[.val (.int pc0), .val (.int pc1), .val (.int pc2), .val (.int pd), .val (.int pf), .val (.int x0), .val (.int x1), .val (.int x2), .val (.int (pd &&& (3 : Int32))), .val (.int xe), .val (.int y0), .val (.int y1), .val (.int y2), .val (.int (pf &&& (3 : Int32))), .val (.int la), .val (.int lb), .val (.ref b26), .val (.ref b43), .unset] [(.int y1), (.int x1)])) _
                    refine XS.icmpNo Xr45.here hx rfl (hb hby at_242) rfl (teq hc242_61).2 ?_
                    show Steps p.tables e below (T45.setTop (mkF m 245 #[.val (.int pc0), .val (.int pc1), .val (.int pc2), .val (.int pd), .val (.int pf), .val (.int x0), .val (.int x1), .val (.int x2), .val (.int (pd &&& (3 : Int32))), .val (.int xe), .val (.int y0), .val (.int y1), .val (.int y2), .val (.int (pf &&& (3 : Int32))), .val (.int la), .val (.int lb), .val (.ref b26), .val (.ref b43), .unset] [])) _
                    refine XS.iload Xr45.here hx rfl (hb hby at_245) rfl ?_
                    show Steps p.tables e below (T45.setTop (mkF m 247 #[.val (.int pc0), .val (.int pc1), .val (.int pc2), .val (.int pd), .val (.int pf), .val (.int x0), .val (.int x1), .val (.int x2), .val (.int (pd &&& (3 : Int32))), .val (.int xe), .val (.int y0), .val (.int y1), .val (.int y2), .val (.int (pf &&& (3 : Int32))), .val (.int la), .val (.int lb), .val (.ref b26), .val (.ref b43), .unset] [(.int la)])) _
                    refine XS.iconst Xr45.here hx rfl (hb hby at_247) ?_
                    show Steps p.tables e below (T45.setTop (mkF m 248 #[.val (.int pc0), .val (.int pc1), .val (.int pc2), .val (.int pd), .val (.int pf), .val (.int x0), .val (.int x1), .val (.int x2), .val (.int (pd &&& (3 : Int32))), .val (.int xe), .val (.int y0), .val (.int y1), .val (.int y2), .val (.int (pf &&& (3 : Int32))), .val (.int la), .val (.int lb), .val (.ref b26), .val (.ref b43), .unset] [(.int (3 : Int32)), (.int la)])) _
                    exact kt
                  by_cases hc248_63 : la < (3 : Int32)
                  · have pre64 : ∀ tq, Steps p.tables e below (T45.setTop (mkF m 263 #[.val (.int pc0), .val (.int pc1), .val (.int pc2), .val (.int pd), .val (.int pf), .val (.int x0), .val (.int x1), .val (.int x2), .val (.int (pd &&& (3 : Int32))), .val (.int xe), .val (.int y0), .val (.int y1), .val (.int y2), .val (.int (pf &&& (3 : Int32))), .val (.int la), .val (.int lb), .val (.ref b26), .val (.ref b43), .unset] [(.int (1 : Int32))])) tq → Steps p.tables e below (s₁.setTop (entryFrame m #[(.int pc0), (.int pc1), (.int pc2), (.int pd), (.int pf)] maxLocals)) tq := by
                      intro tq kt
                      refine pre62 tq ?_
                      show Steps p.tables e below (T45.setTop (mkF m 248 #[.val (.int pc0), .val (.int pc1), .val (.int pc2), .val (.int pd), .val (.int pf), .val (.int x0), .val (.int x1), .val (.int x2), .val (.int (pd &&& (3 : Int32))), .val (.int xe), .val (.int y0), .val (.int y1), .val (.int y2), .val (.int (pf &&& (3 : Int32))), .val (.int la), .val (.int lb), .val (.ref b26), .val (.ref b43), .unset] [(.int (3 : Int32)), (.int la)])) _
                      refine XS.icmpYes Xr45.here hx rfl (pc0 := 248) (pc' := 258) rfl (hb hby at_248) rfl (tlt hc248_63).1 (by decide) (by decide) ?_
                      show Steps p.tables e below (T45.setTop (mkF m 258 #[.val (.int pc0), .val (.int pc1), .val (.int pc2), .val (.int pd), .val (.int pf), .val (.int x0), .val (.int x1), .val (.int x2), .val (.int (pd &&& (3 : Int32))), .val (.int xe), .val (.int y0), .val (.int y1), .val (.int y2), .val (.int (pf &&& (3 : Int32))), .val (.int la), .val (.int lb), .val (.ref b26), .val (.ref b43), .unset] [])) _
                      refine XS.iconst Xr45.here hx rfl (hb hby at_258) ?_
                      show Steps p.tables e below (T45.setTop (mkF m 259 #[.val (.int pc0), .val (.int pc1), .val (.int pc2), .val (.int pd), .val (.int pf), .val (.int x0), .val (.int x1), .val (.int x2), .val (.int (pd &&& (3 : Int32))), .val (.int xe), .val (.int y0), .val (.int y1), .val (.int y2), .val (.int (pf &&& (3 : Int32))), .val (.int la), .val (.int lb), .val (.ref b26), .val (.ref b43), .unset] [(.int (1 : Int32))])) _
                      refine XS.goto Xr45.here hx rfl (pc0 := 259) (pc' := 263) rfl (hb hby at_259) (by decide) (by decide) ?_
                      show Steps p.tables e below (T45.setTop (mkF m 263 #[.val (.int pc0), .val (.int pc1), .val (.int pc2), .val (.int pd), .val (.int pf), .val (.int x0), .val (.int x1), .val (.int x2), .val (.int (pd &&& (3 : Int32))), .val (.int xe), .val (.int y0), .val (.int y1), .val (.int y2), .val (.int (pf &&& (3 : Int32))), .val (.int la), .val (.int lb), .val (.ref b26), .val (.ref b43), .unset] [(.int (1 : Int32))])) _
                      exact kt
                    exact ⟨(1 : Int32), by rw [if_pos hc216_48, if_pos hc222_50, if_neg hc235_52, if_pos hc242_61, if_pos hc248_63], pre64⟩
                  · have pre65 : ∀ tq, Steps p.tables e below (T45.setTop (mkF m 255 #[.val (.int pc0), .val (.int pc1), .val (.int pc2), .val (.int pd), .val (.int pf), .val (.int x0), .val (.int x1), .val (.int x2), .val (.int (pd &&& (3 : Int32))), .val (.int xe), .val (.int y0), .val (.int y1), .val (.int y2), .val (.int (pf &&& (3 : Int32))), .val (.int la), .val (.int lb), .val (.ref b26), .val (.ref b43), .unset] [(.int y2), (.int x2)])) tq → Steps p.tables e below (s₁.setTop (entryFrame m #[(.int pc0), (.int pc1), (.int pc2), (.int pd), (.int pf)] maxLocals)) tq := by
                      intro tq kt
                      refine pre62 tq ?_
                      show Steps p.tables e below (T45.setTop (mkF m 248 #[.val (.int pc0), .val (.int pc1), .val (.int pc2), .val (.int pd), .val (.int pf), .val (.int x0), .val (.int x1), .val (.int x2), .val (.int (pd &&& (3 : Int32))), .val (.int xe), .val (.int y0), .val (.int y1), .val (.int y2), .val (.int (pf &&& (3 : Int32))), .val (.int la), .val (.int lb), .val (.ref b26), .val (.ref b43), .unset] [(.int (3 : Int32)), (.int la)])) _
                      refine XS.icmpNo Xr45.here hx rfl (hb hby at_248) rfl (flt hc248_63).1 ?_
                      show Steps p.tables e below (T45.setTop (mkF m 251 #[.val (.int pc0), .val (.int pc1), .val (.int pc2), .val (.int pd), .val (.int pf), .val (.int x0), .val (.int x1), .val (.int x2), .val (.int (pd &&& (3 : Int32))), .val (.int xe), .val (.int y0), .val (.int y1), .val (.int y2), .val (.int (pf &&& (3 : Int32))), .val (.int la), .val (.int lb), .val (.ref b26), .val (.ref b43), .unset] [])) _
                      refine XS.iload Xr45.here hx rfl (hb hby at_251) rfl ?_
                      show Steps p.tables e below (T45.setTop (mkF m 253 #[.val (.int pc0), .val (.int pc1), .val (.int pc2), .val (.int pd), .val (.int pf), .val (.int x0), .val (.int x1), .val (.int x2), .val (.int (pd &&& (3 : Int32))), .val (.int xe), .val (.int y0), .val (.int y1), .val (.int y2), .val (.int (pf &&& (3 : Int32))), .val (.int la), .val (.int lb), .val (.ref b26), .val (.ref b43), .unset] [(.int x2)])) _
                      refine XS.iload Xr45.here hx rfl (hb hby at_253) rfl ?_
                      show Steps p.tables e below (T45.setTop (mkF m 255 #[.val (.int pc0), .val (.int pc1), .val (.int pc2), .val (.int pd), .val (.int pf), .val (.int x0), .val (.int x1), .val (.int x2), .val (.int (pd &&& (3 : Int32))), .val (.int xe), .val (.int y0), .val (.int y1), .val (.int y2), .val (.int (pf &&& (3 : Int32))), .val (.int la), .val (.int lb), .val (.ref b26), .val (.ref b43), .unset] [(.int y2), (.int x2)])) _
                      exact kt
                    by_cases hc255_66 : x2 = y2
                    · have pre67 : ∀ tq, Steps p.tables e below (T45.setTop (mkF m 263 #[.val (.int pc0), .val (.int pc1), .val (.int pc2), .val (.int pd), .val (.int pf), .val (.int x0), .val (.int x1), .val (.int x2), .val (.int (pd &&& (3 : Int32))), .val (.int xe), .val (.int y0), .val (.int y1), .val (.int y2), .val (.int (pf &&& (3 : Int32))), .val (.int la), .val (.int lb), .val (.ref b26), .val (.ref b43), .unset] [(.int (1 : Int32))])) tq → Steps p.tables e below (s₁.setTop (entryFrame m #[(.int pc0), (.int pc1), (.int pc2), (.int pd), (.int pf)] maxLocals)) tq := by
                        intro tq kt
                        refine pre65 tq ?_
                        show Steps p.tables e below (T45.setTop (mkF m 255 #[.val (.int pc0), .val (.int pc1), .val (.int pc2), .val (.int pd), .val (.int pf), .val (.int x0), .val (.int x1), .val (.int x2), .val (.int (pd &&& (3 : Int32))), .val (.int xe), .val (.int y0), .val (.int y1), .val (.int y2), .val (.int (pf &&& (3 : Int32))), .val (.int la), .val (.int lb), .val (.ref b26), .val (.ref b43), .unset] [(.int y2), (.int x2)])) _
                        refine XS.icmpNo Xr45.here hx rfl (hb hby at_255) rfl (teq hc255_66).2 ?_
                        show Steps p.tables e below (T45.setTop (mkF m 258 #[.val (.int pc0), .val (.int pc1), .val (.int pc2), .val (.int pd), .val (.int pf), .val (.int x0), .val (.int x1), .val (.int x2), .val (.int (pd &&& (3 : Int32))), .val (.int xe), .val (.int y0), .val (.int y1), .val (.int y2), .val (.int (pf &&& (3 : Int32))), .val (.int la), .val (.int lb), .val (.ref b26), .val (.ref b43), .unset] [])) _
                        refine XS.iconst Xr45.here hx rfl (hb hby at_258) ?_
                        show Steps p.tables e below (T45.setTop (mkF m 259 #[.val (.int pc0), .val (.int pc1), .val (.int pc2), .val (.int pd), .val (.int pf), .val (.int x0), .val (.int x1), .val (.int x2), .val (.int (pd &&& (3 : Int32))), .val (.int xe), .val (.int y0), .val (.int y1), .val (.int y2), .val (.int (pf &&& (3 : Int32))), .val (.int la), .val (.int lb), .val (.ref b26), .val (.ref b43), .unset] [(.int (1 : Int32))])) _
                        refine XS.goto Xr45.here hx rfl (pc0 := 259) (pc' := 263) rfl (hb hby at_259) (by decide) (by decide) ?_
                        show Steps p.tables e below (T45.setTop (mkF m 263 #[.val (.int pc0), .val (.int pc1), .val (.int pc2), .val (.int pd), .val (.int pf), .val (.int x0), .val (.int x1), .val (.int x2), .val (.int (pd &&& (3 : Int32))), .val (.int xe), .val (.int y0), .val (.int y1), .val (.int y2), .val (.int (pf &&& (3 : Int32))), .val (.int la), .val (.int lb), .val (.ref b26), .val (.ref b43), .unset] [(.int (1 : Int32))])) _
                        exact kt
                      exact ⟨(1 : Int32), by rw [if_pos hc216_48, if_pos hc222_50, if_neg hc235_52, if_pos hc242_61, if_neg hc248_63, if_pos hc255_66], pre67⟩
                    · have pre68 : ∀ tq, Steps p.tables e below (T45.setTop (mkF m 263 #[.val (.int pc0), .val (.int pc1), .val (.int pc2), .val (.int pd), .val (.int pf), .val (.int x0), .val (.int x1), .val (.int x2), .val (.int (pd &&& (3 : Int32))), .val (.int xe), .val (.int y0), .val (.int y1), .val (.int y2), .val (.int (pf &&& (3 : Int32))), .val (.int la), .val (.int lb), .val (.ref b26), .val (.ref b43), .unset] [(.int (0 : Int32))])) tq → Steps p.tables e below (s₁.setTop (entryFrame m #[(.int pc0), (.int pc1), (.int pc2), (.int pd), (.int pf)] maxLocals)) tq := by
                        intro tq kt
                        refine pre65 tq ?_
                        show Steps p.tables e below (T45.setTop (mkF m 255 #[.val (.int pc0), .val (.int pc1), .val (.int pc2), .val (.int pd), .val (.int pf), .val (.int x0), .val (.int x1), .val (.int x2), .val (.int (pd &&& (3 : Int32))), .val (.int xe), .val (.int y0), .val (.int y1), .val (.int y2), .val (.int (pf &&& (3 : Int32))), .val (.int la), .val (.int lb), .val (.ref b26), .val (.ref b43), .unset] [(.int y2), (.int x2)])) _
                        refine XS.icmpYes Xr45.here hx rfl (pc0 := 255) (pc' := 262) rfl (hb hby at_255) rfl (feq hc255_66).2 (by decide) (by decide) ?_
                        show Steps p.tables e below (T45.setTop (mkF m 262 #[.val (.int pc0), .val (.int pc1), .val (.int pc2), .val (.int pd), .val (.int pf), .val (.int x0), .val (.int x1), .val (.int x2), .val (.int (pd &&& (3 : Int32))), .val (.int xe), .val (.int y0), .val (.int y1), .val (.int y2), .val (.int (pf &&& (3 : Int32))), .val (.int la), .val (.int lb), .val (.ref b26), .val (.ref b43), .unset] [])) _
                        refine XS.iconst Xr45.here hx rfl (hb hby at_262) ?_
                        show Steps p.tables e below (T45.setTop (mkF m 263 #[.val (.int pc0), .val (.int pc1), .val (.int pc2), .val (.int pd), .val (.int pf), .val (.int x0), .val (.int x1), .val (.int x2), .val (.int (pd &&& (3 : Int32))), .val (.int xe), .val (.int y0), .val (.int y1), .val (.int y2), .val (.int (pf &&& (3 : Int32))), .val (.int la), .val (.int lb), .val (.ref b26), .val (.ref b43), .unset] [(.int (0 : Int32))])) _
                        exact kt
                      exact ⟨(0 : Int32), by rw [if_pos hc216_48, if_pos hc222_50, if_neg hc235_52, if_pos hc242_61, if_neg hc248_63, if_neg hc255_66], pre68⟩
                · have pre69 : ∀ tq, Steps p.tables e below (T45.setTop (mkF m 263 #[.val (.int pc0), .val (.int pc1), .val (.int pc2), .val (.int pd), .val (.int pf), .val (.int x0), .val (.int x1), .val (.int x2), .val (.int (pd &&& (3 : Int32))), .val (.int xe), .val (.int y0), .val (.int y1), .val (.int y2), .val (.int (pf &&& (3 : Int32))), .val (.int la), .val (.int lb), .val (.ref b26), .val (.ref b43), .unset] [(.int (0 : Int32))])) tq → Steps p.tables e below (s₁.setTop (entryFrame m #[(.int pc0), (.int pc1), (.int pc2), (.int pd), (.int pf)] maxLocals)) tq := by
                    intro tq kt
                    refine pre60 tq ?_
                    show Steps p.tables e below (T45.setTop (mkF m 242 #[.val (.int pc0), .val (.int pc1), .val (.int pc2), .val (.int pd), .val (.int pf), .val (.int x0), .val (.int x1), .val (.int x2), .val (.int (pd &&& (3 : Int32))), .val (.int xe), .val (.int y0), .val (.int y1), .val (.int y2), .val (.int (pf &&& (3 : Int32))), .val (.int la), .val (.int lb), .val (.ref b26), .val (.ref b43), .unset] [(.int y1), (.int x1)])) _
                    refine XS.icmpYes Xr45.here hx rfl (pc0 := 242) (pc' := 262) rfl (hb hby at_242) rfl (feq hc242_61).2 (by decide) (by decide) ?_
                    show Steps p.tables e below (T45.setTop (mkF m 262 #[.val (.int pc0), .val (.int pc1), .val (.int pc2), .val (.int pd), .val (.int pf), .val (.int x0), .val (.int x1), .val (.int x2), .val (.int (pd &&& (3 : Int32))), .val (.int xe), .val (.int y0), .val (.int y1), .val (.int y2), .val (.int (pf &&& (3 : Int32))), .val (.int la), .val (.int lb), .val (.ref b26), .val (.ref b43), .unset] [])) _
                    refine XS.iconst Xr45.here hx rfl (hb hby at_262) ?_
                    show Steps p.tables e below (T45.setTop (mkF m 263 #[.val (.int pc0), .val (.int pc1), .val (.int pc2), .val (.int pd), .val (.int pf), .val (.int x0), .val (.int x1), .val (.int x2), .val (.int (pd &&& (3 : Int32))), .val (.int xe), .val (.int y0), .val (.int y1), .val (.int y2), .val (.int (pf &&& (3 : Int32))), .val (.int la), .val (.int lb), .val (.ref b26), .val (.ref b43), .unset] [(.int (0 : Int32))])) _
                    exact kt
                  exact ⟨(0 : Int32), by rw [if_pos hc216_48, if_pos hc222_50, if_neg hc235_52, if_neg hc242_61], pre69⟩
            · have pre70 : ∀ tq, Steps p.tables e below (T45.setTop (mkF m 229 #[.val (.int pc0), .val (.int pc1), .val (.int pc2), .val (.int pd), .val (.int pf), .val (.int x0), .val (.int x1), .val (.int x2), .val (.int (pd &&& (3 : Int32))), .val (.int xe), .val (.int y0), .val (.int y1), .val (.int y2), .val (.int (pf &&& (3 : Int32))), .val (.int la), .val (.int lb), .val (.ref b26), .val (.ref b43), .unset] [(.int y0), (.int x0)])) tq → Steps p.tables e below (s₁.setTop (entryFrame m #[(.int pc0), (.int pc1), (.int pc2), (.int pd), (.int pf)] maxLocals)) tq := by
                intro tq kt
                refine pre49 tq ?_
                show Steps p.tables e below (T45.setTop (mkF m 222 #[.val (.int pc0), .val (.int pc1), .val (.int pc2), .val (.int pd), .val (.int pf), .val (.int x0), .val (.int x1), .val (.int x2), .val (.int (pd &&& (3 : Int32))), .val (.int xe), .val (.int y0), .val (.int y1), .val (.int y2), .val (.int (pf &&& (3 : Int32))), .val (.int la), .val (.int lb), .val (.ref b26), .val (.ref b43), .unset] [(.int (1 : Int32)), (.int la)])) _
                refine XS.icmpNo Xr45.here hx rfl (hb hby at_222) rfl (flt hc222_50).1 ?_
                show Steps p.tables e below (T45.setTop (mkF m 225 #[.val (.int pc0), .val (.int pc1), .val (.int pc2), .val (.int pd), .val (.int pf), .val (.int x0), .val (.int x1), .val (.int x2), .val (.int (pd &&& (3 : Int32))), .val (.int xe), .val (.int y0), .val (.int y1), .val (.int y2), .val (.int (pf &&& (3 : Int32))), .val (.int la), .val (.int lb), .val (.ref b26), .val (.ref b43), .unset] [])) _
                refine XS.iload Xr45.here hx rfl (hb hby at_225) rfl ?_
                show Steps p.tables e below (T45.setTop (mkF m 227 #[.val (.int pc0), .val (.int pc1), .val (.int pc2), .val (.int pd), .val (.int pf), .val (.int x0), .val (.int x1), .val (.int x2), .val (.int (pd &&& (3 : Int32))), .val (.int xe), .val (.int y0), .val (.int y1), .val (.int y2), .val (.int (pf &&& (3 : Int32))), .val (.int la), .val (.int lb), .val (.ref b26), .val (.ref b43), .unset] [(.int x0)])) _
                refine XS.iload Xr45.here hx rfl (hb hby at_227) rfl ?_
                show Steps p.tables e below (T45.setTop (mkF m 229 #[.val (.int pc0), .val (.int pc1), .val (.int pc2), .val (.int pd), .val (.int pf), .val (.int x0), .val (.int x1), .val (.int x2), .val (.int (pd &&& (3 : Int32))), .val (.int xe), .val (.int y0), .val (.int y1), .val (.int y2), .val (.int (pf &&& (3 : Int32))), .val (.int la), .val (.int lb), .val (.ref b26), .val (.ref b43), .unset] [(.int y0), (.int x0)])) _
                exact kt
              by_cases hc229_71 : x0 = y0
              · have pre72 : ∀ tq, Steps p.tables e below (T45.setTop (mkF m 235 #[.val (.int pc0), .val (.int pc1), .val (.int pc2), .val (.int pd), .val (.int pf), .val (.int x0), .val (.int x1), .val (.int x2), .val (.int (pd &&& (3 : Int32))), .val (.int xe), .val (.int y0), .val (.int y1), .val (.int y2), .val (.int (pf &&& (3 : Int32))), .val (.int la), .val (.int lb), .val (.ref b26), .val (.ref b43), .unset] [(.int (2 : Int32)), (.int la)])) tq → Steps p.tables e below (s₁.setTop (entryFrame m #[(.int pc0), (.int pc1), (.int pc2), (.int pd), (.int pf)] maxLocals)) tq := by
                  intro tq kt
                  refine pre70 tq ?_
                  show Steps p.tables e below (T45.setTop (mkF m 229 #[.val (.int pc0), .val (.int pc1), .val (.int pc2), .val (.int pd), .val (.int pf), .val (.int x0), .val (.int x1), .val (.int x2), .val (.int (pd &&& (3 : Int32))), .val (.int xe), .val (.int y0), .val (.int y1), .val (.int y2), .val (.int (pf &&& (3 : Int32))), .val (.int la), .val (.int lb), .val (.ref b26), .val (.ref b43), .unset] [(.int y0), (.int x0)])) _
                  refine XS.icmpNo Xr45.here hx rfl (hb hby at_229) rfl (teq hc229_71).2 ?_
                  show Steps p.tables e below (T45.setTop (mkF m 232 #[.val (.int pc0), .val (.int pc1), .val (.int pc2), .val (.int pd), .val (.int pf), .val (.int x0), .val (.int x1), .val (.int x2), .val (.int (pd &&& (3 : Int32))), .val (.int xe), .val (.int y0), .val (.int y1), .val (.int y2), .val (.int (pf &&& (3 : Int32))), .val (.int la), .val (.int lb), .val (.ref b26), .val (.ref b43), .unset] [])) _
                  refine XS.iload Xr45.here hx rfl (hb hby at_232) rfl ?_
                  show Steps p.tables e below (T45.setTop (mkF m 234 #[.val (.int pc0), .val (.int pc1), .val (.int pc2), .val (.int pd), .val (.int pf), .val (.int x0), .val (.int x1), .val (.int x2), .val (.int (pd &&& (3 : Int32))), .val (.int xe), .val (.int y0), .val (.int y1), .val (.int y2), .val (.int (pf &&& (3 : Int32))), .val (.int la), .val (.int lb), .val (.ref b26), .val (.ref b43), .unset] [(.int la)])) _
                  refine XS.iconst Xr45.here hx rfl (hb hby at_234) ?_
                  show Steps p.tables e below (T45.setTop (mkF m 235 #[.val (.int pc0), .val (.int pc1), .val (.int pc2), .val (.int pd), .val (.int pf), .val (.int x0), .val (.int x1), .val (.int x2), .val (.int (pd &&& (3 : Int32))), .val (.int xe), .val (.int y0), .val (.int y1), .val (.int y2), .val (.int (pf &&& (3 : Int32))), .val (.int la), .val (.int lb), .val (.ref b26), .val (.ref b43), .unset] [(.int (2 : Int32)), (.int la)])) _
                  exact kt
                by_cases hc235_73 : la < (2 : Int32)
                · have pre74 : ∀ tq, Steps p.tables e below (T45.setTop (mkF m 248 #[.val (.int pc0), .val (.int pc1), .val (.int pc2), .val (.int pd), .val (.int pf), .val (.int x0), .val (.int x1), .val (.int x2), .val (.int (pd &&& (3 : Int32))), .val (.int xe), .val (.int y0), .val (.int y1), .val (.int y2), .val (.int (pf &&& (3 : Int32))), .val (.int la), .val (.int lb), .val (.ref b26), .val (.ref b43), .unset] [(.int (3 : Int32)), (.int la)])) tq → Steps p.tables e below (s₁.setTop (entryFrame m #[(.int pc0), (.int pc1), (.int pc2), (.int pd), (.int pf)] maxLocals)) tq := by
                    intro tq kt
                    refine pre72 tq ?_
                    show Steps p.tables e below (T45.setTop (mkF m 235 #[.val (.int pc0), .val (.int pc1), .val (.int pc2), .val (.int pd), .val (.int pf), .val (.int x0), .val (.int x1), .val (.int x2), .val (.int (pd &&& (3 : Int32))), .val (.int xe), .val (.int y0), .val (.int y1), .val (.int y2), .val (.int (pf &&& (3 : Int32))), .val (.int la), .val (.int lb), .val (.ref b26), .val (.ref b43), .unset] [(.int (2 : Int32)), (.int la)])) _
                    refine XS.icmpYes Xr45.here hx rfl (pc0 := 235) (pc' := 245) rfl (hb hby at_235) rfl (tlt hc235_73).1 (by decide) (by decide) ?_
                    show Steps p.tables e below (T45.setTop (mkF m 245 #[.val (.int pc0), .val (.int pc1), .val (.int pc2), .val (.int pd), .val (.int pf), .val (.int x0), .val (.int x1), .val (.int x2), .val (.int (pd &&& (3 : Int32))), .val (.int xe), .val (.int y0), .val (.int y1), .val (.int y2), .val (.int (pf &&& (3 : Int32))), .val (.int la), .val (.int lb), .val (.ref b26), .val (.ref b43), .unset] [])) _
                    refine XS.iload Xr45.here hx rfl (hb hby at_245) rfl ?_
                    show Steps p.tables e below (T45.setTop (mkF m 247 #[.val (.int pc0), .val (.int pc1), .val (.int pc2), .val (.int pd), .val (.int pf), .val (.int x0), .val (.int x1), .val (.int x2), .val (.int (pd &&& (3 : Int32))), .val (.int xe), .val (.int y0), .val (.int y1), .val (.int y2), .val (.int (pf &&& (3 : Int32))), .val (.int la), .val (.int lb), .val (.ref b26), .val (.ref b43), .unset] [(.int la)])) _
                    refine XS.iconst Xr45.here hx rfl (hb hby at_247) ?_
                    show Steps p.tables e below (T45.setTop (mkF m 248 #[.val (.int pc0), .val (.int pc1), .val (.int pc2), .val (.int pd), .val (.int pf), .val (.int x0), .val (.int x1), .val (.int x2), .val (.int (pd &&& (3 : Int32))), .val (.int xe), .val (.int y0), .val (.int y1), .val (.int y2), .val (.int (pf &&& (3 : Int32))), .val (.int la), .val (.int lb), .val (.ref b26), .val (.ref b43), .unset] [(.int (3 : Int32)), (.int la)])) _
                    exact kt
                  by_cases hc248_75 : la < (3 : Int32)
                  · have pre76 : ∀ tq, Steps p.tables e below (T45.setTop (mkF m 263 #[.val (.int pc0), .val (.int pc1), .val (.int pc2), .val (.int pd), .val (.int pf), .val (.int x0), .val (.int x1), .val (.int x2), .val (.int (pd &&& (3 : Int32))), .val (.int xe), .val (.int y0), .val (.int y1), .val (.int y2), .val (.int (pf &&& (3 : Int32))), .val (.int la), .val (.int lb), .val (.ref b26), .val (.ref b43), .unset] [(.int (1 : Int32))])) tq → Steps p.tables e below (s₁.setTop (entryFrame m #[(.int pc0), (.int pc1), (.int pc2), (.int pd), (.int pf)] maxLocals)) tq := by
                      intro tq kt
                      refine pre74 tq ?_
                      show Steps p.tables e below (T45.setTop (mkF m 248 #[.val (.int pc0), .val (.int pc1), .val (.int pc2), .val (.int pd), .val (.int pf), .val (.int x0), .val (.int x1), .val (.int x2), .val (.int (pd &&& (3 : Int32))), .val (.int xe), .val (.int y0), .val (.int y1), .val (.int y2), .val (.int (pf &&& (3 : Int32))), .val (.int la), .val (.int lb), .val (.ref b26), .val (.ref b43), .unset] [(.int (3 : Int32)), (.int la)])) _
                      refine XS.icmpYes Xr45.here hx rfl (pc0 := 248) (pc' := 258) rfl (hb hby at_248) rfl (tlt hc248_75).1 (by decide) (by decide) ?_
                      show Steps p.tables e below (T45.setTop (mkF m 258 #[.val (.int pc0), .val (.int pc1), .val (.int pc2), .val (.int pd), .val (.int pf), .val (.int x0), .val (.int x1), .val (.int x2), .val (.int (pd &&& (3 : Int32))), .val (.int xe), .val (.int y0), .val (.int y1), .val (.int y2), .val (.int (pf &&& (3 : Int32))), .val (.int la), .val (.int lb), .val (.ref b26), .val (.ref b43), .unset] [])) _
                      refine XS.iconst Xr45.here hx rfl (hb hby at_258) ?_
                      show Steps p.tables e below (T45.setTop (mkF m 259 #[.val (.int pc0), .val (.int pc1), .val (.int pc2), .val (.int pd), .val (.int pf), .val (.int x0), .val (.int x1), .val (.int x2), .val (.int (pd &&& (3 : Int32))), .val (.int xe), .val (.int y0), .val (.int y1), .val (.int y2), .val (.int (pf &&& (3 : Int32))), .val (.int la), .val (.int lb), .val (.ref b26), .val (.ref b43), .unset] [(.int (1 : Int32))])) _
                      refine XS.goto Xr45.here hx rfl (pc0 := 259) (pc' := 263) rfl (hb hby at_259) (by decide) (by decide) ?_
                      show Steps p.tables e below (T45.setTop (mkF m 263 #[.val (.int pc0), .val (.int pc1), .val (.int pc2), .val (.int pd), .val (.int pf), .val (.int x0), .val (.int x1), .val (.int x2), .val (.int (pd &&& (3 : Int32))), .val (.int xe), .val (.int y0), .val (.int y1), .val (.int y2), .val (.int (pf &&& (3 : Int32))), .val (.int la), .val (.int lb), .val (.ref b26), .val (.ref b43), .unset] [(.int (1 : Int32))])) _
                      exact kt
                    exact ⟨(1 : Int32), by rw [if_pos hc216_48, if_neg hc222_50, if_pos hc229_71, if_pos hc235_73, if_pos hc248_75], pre76⟩
                  · have pre77 : ∀ tq, Steps p.tables e below (T45.setTop (mkF m 255 #[.val (.int pc0), .val (.int pc1), .val (.int pc2), .val (.int pd), .val (.int pf), .val (.int x0), .val (.int x1), .val (.int x2), .val (.int (pd &&& (3 : Int32))), .val (.int xe), .val (.int y0), .val (.int y1), .val (.int y2), .val (.int (pf &&& (3 : Int32))), .val (.int la), .val (.int lb), .val (.ref b26), .val (.ref b43), .unset] [(.int y2), (.int x2)])) tq → Steps p.tables e below (s₁.setTop (entryFrame m #[(.int pc0), (.int pc1), (.int pc2), (.int pd), (.int pf)] maxLocals)) tq := by
                      intro tq kt
                      refine pre74 tq ?_
                      show Steps p.tables e below (T45.setTop (mkF m 248 #[.val (.int pc0), .val (.int pc1), .val (.int pc2), .val (.int pd), .val (.int pf), .val (.int x0), .val (.int x1), .val (.int x2), .val (.int (pd &&& (3 : Int32))), .val (.int xe), .val (.int y0), .val (.int y1), .val (.int y2), .val (.int (pf &&& (3 : Int32))), .val (.int la), .val (.int lb), .val (.ref b26), .val (.ref b43), .unset] [(.int (3 : Int32)), (.int la)])) _
                      refine XS.icmpNo Xr45.here hx rfl (hb hby at_248) rfl (flt hc248_75).1 ?_
                      show Steps p.tables e below (T45.setTop (mkF m 251 #[.val (.int pc0), .val (.int pc1), .val (.int pc2), .val (.int pd), .val (.int pf), .val (.int x0), .val (.int x1), .val (.int x2), .val (.int (pd &&& (3 : Int32))), .val (.int xe), .val (.int y0), .val (.int y1), .val (.int y2), .val (.int (pf &&& (3 : Int32))), .val (.int la), .val (.int lb), .val (.ref b26), .val (.ref b43), .unset] [])) _
                      refine XS.iload Xr45.here hx rfl (hb hby at_251) rfl ?_
                      show Steps p.tables e below (T45.setTop (mkF m 253 #[.val (.int pc0), .val (.int pc1), .val (.int pc2), .val (.int pd), .val (.int pf), .val (.int x0), .val (.int x1), .val (.int x2), .val (.int (pd &&& (3 : Int32))), .val (.int xe), .val (.int y0), .val (.int y1), .val (.int y2), .val (.int (pf &&& (3 : Int32))), .val (.int la), .val (.int lb), .val (.ref b26), .val (.ref b43), .unset] [(.int x2)])) _
                      refine XS.iload Xr45.here hx rfl (hb hby at_253) rfl ?_
                      show Steps p.tables e below (T45.setTop (mkF m 255 #[.val (.int pc0), .val (.int pc1), .val (.int pc2), .val (.int pd), .val (.int pf), .val (.int x0), .val (.int x1), .val (.int x2), .val (.int (pd &&& (3 : Int32))), .val (.int xe), .val (.int y0), .val (.int y1), .val (.int y2), .val (.int (pf &&& (3 : Int32))), .val (.int la), .val (.int lb), .val (.ref b26), .val (.ref b43), .unset] [(.int y2), (.int x2)])) _
                      exact kt
                    by_cases hc255_78 : x2 = y2
                    · have pre79 : ∀ tq, Steps p.tables e below (T45.setTop (mkF m 263 #[.val (.int pc0), .val (.int pc1), .val (.int pc2), .val (.int pd), .val (.int pf), .val (.int x0), .val (.int x1), .val (.int x2), .val (.int (pd &&& (3 : Int32))), .val (.int xe), .val (.int y0), .val (.int y1), .val (.int y2), .val (.int (pf &&& (3 : Int32))), .val (.int la), .val (.int lb), .val (.ref b26), .val (.ref b43), .unset] [(.int (1 : Int32))])) tq → Steps p.tables e below (s₁.setTop (entryFrame m #[(.int pc0), (.int pc1), (.int pc2), (.int pd), (.int pf)] maxLocals)) tq := by
                        intro tq kt
                        refine pre77 tq ?_
                        show Steps p.tables e below (T45.setTop (mkF m 255 #[.val (.int pc0), .val (.int pc1), .val (.int pc2), .val (.int pd), .val (.int pf), .val (.int x0), .val (.int x1), .val (.int x2), .val (.int (pd &&& (3 : Int32))), .val (.int xe), .val (.int y0), .val (.int y1), .val (.int y2), .val (.int (pf &&& (3 : Int32))), .val (.int la), .val (.int lb), .val (.ref b26), .val (.ref b43), .unset] [(.int y2), (.int x2)])) _
                        refine XS.icmpNo Xr45.here hx rfl (hb hby at_255) rfl (teq hc255_78).2 ?_
                        show Steps p.tables e below (T45.setTop (mkF m 258 #[.val (.int pc0), .val (.int pc1), .val (.int pc2), .val (.int pd), .val (.int pf), .val (.int x0), .val (.int x1), .val (.int x2), .val (.int (pd &&& (3 : Int32))), .val (.int xe), .val (.int y0), .val (.int y1), .val (.int y2), .val (.int (pf &&& (3 : Int32))), .val (.int la), .val (.int lb), .val (.ref b26), .val (.ref b43), .unset] [])) _
                        refine XS.iconst Xr45.here hx rfl (hb hby at_258) ?_
                        show Steps p.tables e below (T45.setTop (mkF m 259 #[.val (.int pc0), .val (.int pc1), .val (.int pc2), .val (.int pd), .val (.int pf), .val (.int x0), .val (.int x1), .val (.int x2), .val (.int (pd &&& (3 : Int32))), .val (.int xe), .val (.int y0), .val (.int y1), .val (.int y2), .val (.int (pf &&& (3 : Int32))), .val (.int la), .val (.int lb), .val (.ref b26), .val (.ref b43), .unset] [(.int (1 : Int32))])) _
                        refine XS.goto Xr45.here hx rfl (pc0 := 259) (pc' := 263) rfl (hb hby at_259) (by decide) (by decide) ?_
                        show Steps p.tables e below (T45.setTop (mkF m 263 #[.val (.int pc0), .val (.int pc1), .val (.int pc2), .val (.int pd), .val (.int pf), .val (.int x0), .val (.int x1), .val (.int x2), .val (.int (pd &&& (3 : Int32))), .val (.int xe), .val (.int y0), .val (.int y1), .val (.int y2), .val (.int (pf &&& (3 : Int32))), .val (.int la), .val (.int lb), .val (.ref b26), .val (.ref b43), .unset] [(.int (1 : Int32))])) _
                        exact kt
                      exact ⟨(1 : Int32), by rw [if_pos hc216_48, if_neg hc222_50, if_pos hc229_71, if_pos hc235_73, if_neg hc248_75, if_pos hc255_78], pre79⟩
                    · have pre80 : ∀ tq, Steps p.tables e below (T45.setTop (mkF m 263 #[.val (.int pc0), .val (.int pc1), .val (.int pc2), .val (.int pd), .val (.int pf), .val (.int x0), .val (.int x1), .val (.int x2), .val (.int (pd &&& (3 : Int32))), .val (.int xe), .val (.int y0), .val (.int y1), .val (.int y2), .val (.int (pf &&& (3 : Int32))), .val (.int la), .val (.int lb), .val (.ref b26), .val (.ref b43), .unset] [(.int (0 : Int32))])) tq → Steps p.tables e below (s₁.setTop (entryFrame m #[(.int pc0), (.int pc1), (.int pc2), (.int pd), (.int pf)] maxLocals)) tq := by
                        intro tq kt
                        refine pre77 tq ?_
                        show Steps p.tables e below (T45.setTop (mkF m 255 #[.val (.int pc0), .val (.int pc1), .val (.int pc2), .val (.int pd), .val (.int pf), .val (.int x0), .val (.int x1), .val (.int x2), .val (.int (pd &&& (3 : Int32))), .val (.int xe), .val (.int y0), .val (.int y1), .val (.int y2), .val (.int (pf &&& (3 : Int32))), .val (.int la), .val (.int lb), .val (.ref b26), .val (.ref b43), .unset] [(.int y2), (.int x2)])) _
                        refine XS.icmpYes Xr45.here hx rfl (pc0 := 255) (pc' := 262) rfl (hb hby at_255) rfl (feq hc255_78).2 (by decide) (by decide) ?_
                        show Steps p.tables e below (T45.setTop (mkF m 262 #[.val (.int pc0), .val (.int pc1), .val (.int pc2), .val (.int pd), .val (.int pf), .val (.int x0), .val (.int x1), .val (.int x2), .val (.int (pd &&& (3 : Int32))), .val (.int xe), .val (.int y0), .val (.int y1), .val (.int y2), .val (.int (pf &&& (3 : Int32))), .val (.int la), .val (.int lb), .val (.ref b26), .val (.ref b43), .unset] [])) _
                        refine XS.iconst Xr45.here hx rfl (hb hby at_262) ?_
                        show Steps p.tables e below (T45.setTop (mkF m 263 #[.val (.int pc0), .val (.int pc1), .val (.int pc2), .val (.int pd), .val (.int pf), .val (.int x0), .val (.int x1), .val (.int x2), .val (.int (pd &&& (3 : Int32))), .val (.int xe), .val (.int y0), .val (.int y1), .val (.int y2), .val (.int (pf &&& (3 : Int32))), .val (.int la), .val (.int lb), .val (.ref b26), .val (.ref b43), .unset] [(.int (0 : Int32))])) _
                        exact kt
                      exact ⟨(0 : Int32), by rw [if_pos hc216_48, if_neg hc222_50, if_pos hc229_71, if_pos hc235_73, if_neg hc248_75, if_neg hc255_78], pre80⟩
                · have pre81 : ∀ tq, Steps p.tables e below (T45.setTop (mkF m 242 #[.val (.int pc0), .val (.int pc1), .val (.int pc2), .val (.int pd), .val (.int pf), .val (.int x0), .val (.int x1), .val (.int x2), .val (.int (pd &&& (3 : Int32))), .val (.int xe), .val (.int y0), .val (.int y1), .val (.int y2), .val (.int (pf &&& (3 : Int32))), .val (.int la), .val (.int lb), .val (.ref b26), .val (.ref b43), .unset] [(.int y1), (.int x1)])) tq → Steps p.tables e below (s₁.setTop (entryFrame m #[(.int pc0), (.int pc1), (.int pc2), (.int pd), (.int pf)] maxLocals)) tq := by
                    intro tq kt
                    refine pre72 tq ?_
                    show Steps p.tables e below (T45.setTop (mkF m 235 #[.val (.int pc0), .val (.int pc1), .val (.int pc2), .val (.int pd), .val (.int pf), .val (.int x0), .val (.int x1), .val (.int x2), .val (.int (pd &&& (3 : Int32))), .val (.int xe), .val (.int y0), .val (.int y1), .val (.int y2), .val (.int (pf &&& (3 : Int32))), .val (.int la), .val (.int lb), .val (.ref b26), .val (.ref b43), .unset] [(.int (2 : Int32)), (.int la)])) _
                    refine XS.icmpNo Xr45.here hx rfl (hb hby at_235) rfl (flt hc235_73).1 ?_
                    show Steps p.tables e below (T45.setTop (mkF m 238 #[.val (.int pc0), .val (.int pc1), .val (.int pc2), .val (.int pd), .val (.int pf), .val (.int x0), .val (.int x1), .val (.int x2), .val (.int (pd &&& (3 : Int32))), .val (.int xe), .val (.int y0), .val (.int y1), .val (.int y2), .val (.int (pf &&& (3 : Int32))), .val (.int la), .val (.int lb), .val (.ref b26), .val (.ref b43), .unset] [])) _
                    refine XS.iload Xr45.here hx rfl (hb hby at_238) rfl ?_
                    show Steps p.tables e below (T45.setTop (mkF m 240 #[.val (.int pc0), .val (.int pc1), .val (.int pc2), .val (.int pd), .val (.int pf), .val (.int x0), .val (.int x1), .val (.int x2), .val (.int (pd &&& (3 : Int32))), .val (.int xe), .val (.int y0), .val (.int y1), .val (.int y2), .val (.int (pf &&& (3 : Int32))), .val (.int la), .val (.int lb), .val (.ref b26), .val (.ref b43), .unset] [(.int x1)])) _
                    refine XS.iload Xr45.here hx rfl (hb hby at_240) rfl ?_
                    show Steps p.tables e below (T45.setTop (mkF m 242 #[.val (.int pc0), .val (.int pc1), .val (.int pc2), .val (.int pd), .val (.int pf), .val (.int x0), .val (.int x1), .val (.int x2), .val (.int (pd &&& (3 : Int32))), .val (.int xe), .val (.int y0), .val (.int y1), .val (.int y2), .val (.int (pf &&& (3 : Int32))), .val (.int la), .val (.int lb), .val (.ref b26), .val (.ref b43), .unset] [(.int y1), (.int x1)])) _
                    exact kt
                  by_cases hc242_82 : x1 = y1
                  · have pre83 : ∀ tq, Steps p.tables e below (T45.setTop (mkF m 248 #[.val (.int pc0), .val (.int pc1), .val (.int pc2), .val (.int pd), .val (.int pf), .val (.int x0), .val (.int x1), .val (.int x2), .val (.int (pd &&& (3 : Int32))), .val (.int xe), .val (.int y0), .val (.int y1), .val (.int y2), .val (.int (pf &&& (3 : Int32))), .val (.int la), .val (.int lb), .val (.ref b26), .val (.ref b43), .unset] [(.int (3 : Int32)), (.int la)])) tq → Steps p.tables e below (s₁.setTop (entryFrame m #[(.int pc0), (.int pc1), (.int pc2), (.int pd), (.int pf)] maxLocals)) tq := by
                      intro tq kt
                      refine pre81 tq ?_
                      show Steps p.tables e below (T45.setTop (mkF m 242 #[.val (.int pc0), .val (.int pc1), .val (.int pc2), .val (.int pd), .val (.int pf), .val (.int x0), .val (.int x1), .val (.int x2), .val (.int (pd &&& (3 : Int32))), .val (.int xe), .val (.int y0), .val (.int y1), .val (.int y2), .val (.int (pf &&& (3 : Int32))), .val (.int la), .val (.int lb), .val (.ref b26), .val (.ref b43), .unset] [(.int y1), (.int x1)])) _
                      refine XS.icmpNo Xr45.here hx rfl (hb hby at_242) rfl (teq hc242_82).2 ?_
                      show Steps p.tables e below (T45.setTop (mkF m 245 #[.val (.int pc0), .val (.int pc1), .val (.int pc2), .val (.int pd), .val (.int pf), .val (.int x0), .val (.int x1), .val (.int x2), .val (.int (pd &&& (3 : Int32))), .val (.int xe), .val (.int y0), .val (.int y1), .val (.int y2), .val (.int (pf &&& (3 : Int32))), .val (.int la), .val (.int lb), .val (.ref b26), .val (.ref b43), .unset] [])) _
                      refine XS.iload Xr45.here hx rfl (hb hby at_245) rfl ?_
                      show Steps p.tables e below (T45.setTop (mkF m 247 #[.val (.int pc0), .val (.int pc1), .val (.int pc2), .val (.int pd), .val (.int pf), .val (.int x0), .val (.int x1), .val (.int x2), .val (.int (pd &&& (3 : Int32))), .val (.int xe), .val (.int y0), .val (.int y1), .val (.int y2), .val (.int (pf &&& (3 : Int32))), .val (.int la), .val (.int lb), .val (.ref b26), .val (.ref b43), .unset] [(.int la)])) _
                      refine XS.iconst Xr45.here hx rfl (hb hby at_247) ?_
                      show Steps p.tables e below (T45.setTop (mkF m 248 #[.val (.int pc0), .val (.int pc1), .val (.int pc2), .val (.int pd), .val (.int pf), .val (.int x0), .val (.int x1), .val (.int x2), .val (.int (pd &&& (3 : Int32))), .val (.int xe), .val (.int y0), .val (.int y1), .val (.int y2), .val (.int (pf &&& (3 : Int32))), .val (.int la), .val (.int lb), .val (.ref b26), .val (.ref b43), .unset] [(.int (3 : Int32)), (.int la)])) _
                      exact kt
                    by_cases hc248_84 : la < (3 : Int32)
                    · have pre85 : ∀ tq, Steps p.tables e below (T45.setTop (mkF m 263 #[.val (.int pc0), .val (.int pc1), .val (.int pc2), .val (.int pd), .val (.int pf), .val (.int x0), .val (.int x1), .val (.int x2), .val (.int (pd &&& (3 : Int32))), .val (.int xe), .val (.int y0), .val (.int y1), .val (.int y2), .val (.int (pf &&& (3 : Int32))), .val (.int la), .val (.int lb), .val (.ref b26), .val (.ref b43), .unset] [(.int (1 : Int32))])) tq → Steps p.tables e below (s₁.setTop (entryFrame m #[(.int pc0), (.int pc1), (.int pc2), (.int pd), (.int pf)] maxLocals)) tq := by
                        intro tq kt
                        refine pre83 tq ?_
                        show Steps p.tables e below (T45.setTop (mkF m 248 #[.val (.int pc0), .val (.int pc1), .val (.int pc2), .val (.int pd), .val (.int pf), .val (.int x0), .val (.int x1), .val (.int x2), .val (.int (pd &&& (3 : Int32))), .val (.int xe), .val (.int y0), .val (.int y1), .val (.int y2), .val (.int (pf &&& (3 : Int32))), .val (.int la), .val (.int lb), .val (.ref b26), .val (.ref b43), .unset] [(.int (3 : Int32)), (.int la)])) _
                        refine XS.icmpYes Xr45.here hx rfl (pc0 := 248) (pc' := 258) rfl (hb hby at_248) rfl (tlt hc248_84).1 (by decide) (by decide) ?_
                        show Steps p.tables e below (T45.setTop (mkF m 258 #[.val (.int pc0), .val (.int pc1), .val (.int pc2), .val (.int pd), .val (.int pf), .val (.int x0), .val (.int x1), .val (.int x2), .val (.int (pd &&& (3 : Int32))), .val (.int xe), .val (.int y0), .val (.int y1), .val (.int y2), .val (.int (pf &&& (3 : Int32))), .val (.int la), .val (.int lb), .val (.ref b26), .val (.ref b43), .unset] [])) _
                        refine XS.iconst Xr45.here hx rfl (hb hby at_258) ?_
                        show Steps p.tables e below (T45.setTop (mkF m 259 #[.val (.int pc0), .val (.int pc1), .val (.int pc2), .val (.int pd), .val (.int pf), .val (.int x0), .val (.int x1), .val (.int x2), .val (.int (pd &&& (3 : Int32))), .val (.int xe), .val (.int y0), .val (.int y1), .val (.int y2), .val (.int (pf &&& (3 : Int32))), .val (.int la), .val (.int lb), .val (.ref b26), .val (.ref b43), .unset] [(.int (1 : Int32))])) _
                        refine XS.goto Xr45.here hx rfl (pc0 := 259) (pc' := 263) rfl (hb hby at_259) (by decide) (by decide) ?_
                        show Steps p.tables e below (T45.setTop (mkF m 263 #[.val (.int pc0), .val (.int pc1), .val (.int pc2), .val (.int pd), .val (.int pf), .val (.int x0), .val (.int x1), .val (.int x2), .val (.int (pd &&& (3 : Int32))), .val (.int xe), .val (.int y0), .val (.int y1), .val (.int y2), .val (.int (pf &&& (3 : Int32))), .val (.int la), .val (.int lb), .val (.ref b26), .val (.ref b43), .unset] [(.int (1 : Int32))])) _
                        exact kt
                      exact ⟨(1 : Int32), by rw [if_pos hc216_48, if_neg hc222_50, if_pos hc229_71, if_neg hc235_73, if_pos hc242_82, if_pos hc248_84], pre85⟩
                    · have pre86 : ∀ tq, Steps p.tables e below (T45.setTop (mkF m 255 #[.val (.int pc0), .val (.int pc1), .val (.int pc2), .val (.int pd), .val (.int pf), .val (.int x0), .val (.int x1), .val (.int x2), .val (.int (pd &&& (3 : Int32))), .val (.int xe), .val (.int y0), .val (.int y1), .val (.int y2), .val (.int (pf &&& (3 : Int32))), .val (.int la), .val (.int lb), .val (.ref b26), .val (.ref b43), .unset] [(.int y2), (.int x2)])) tq → Steps p.tables e below (s₁.setTop (entryFrame m #[(.int pc0), (.int pc1), (.int pc2), (.int pd), (.int pf)] maxLocals)) tq := by
                        intro tq kt
                        refine pre83 tq ?_
                        show Steps p.tables e below (T45.setTop (mkF m 248 #[.val (.int pc0), .val (.int pc1), .val (.int pc2), .val (.int pd), .val (.int pf), .val (.int x0), .val (.int x1), .val (.int x2), .val (.int (pd &&& (3 : Int32))), .val (.int xe), .val (.int y0), .val (.int y1), .val (.int y2), .val (.int (pf &&& (3 : Int32))), .val (.int la), .val (.int lb), .val (.ref b26), .val (.ref b43), .unset] [(.int (3 : Int32)), (.int la)])) _
                        refine XS.icmpNo Xr45.here hx rfl (hb hby at_248) rfl (flt hc248_84).1 ?_
                        show Steps p.tables e below (T45.setTop (mkF m 251 #[.val (.int pc0), .val (.int pc1), .val (.int pc2), .val (.int pd), .val (.int pf), .val (.int x0), .val (.int x1), .val (.int x2), .val (.int (pd &&& (3 : Int32))), .val (.int xe), .val (.int y0), .val (.int y1), .val (.int y2), .val (.int (pf &&& (3 : Int32))), .val (.int la), .val (.int lb), .val (.ref b26), .val (.ref b43), .unset] [])) _
                        refine XS.iload Xr45.here hx rfl (hb hby at_251) rfl ?_
                        show Steps p.tables e below (T45.setTop (mkF m 253 #[.val (.int pc0), .val (.int pc1), .val (.int pc2), .val (.int pd), .val (.int pf), .val (.int x0), .val (.int x1), .val (.int x2), .val (.int (pd &&& (3 : Int32))), .val (.int xe), .val (.int y0), .val (.int y1), .val (.int y2), .val (.int (pf &&& (3 : Int32))), .val (.int la), .val (.int lb), .val (.ref b26), .val (.ref b43), .unset] [(.int x2)])) _
                        refine XS.iload Xr45.here hx rfl (hb hby at_253) rfl ?_
                        show Steps p.tables e below (T45.setTop (mkF m 255 #[.val (.int pc0), .val (.int pc1), .val (.int pc2), .val (.int pd), .val (.int pf), .val (.int x0), .val (.int x1), .val (.int x2), .val (.int (pd &&& (3 : Int32))), .val (.int xe), .val (.int y0), .val (.int y1), .val (.int y2), .val (.int (pf &&& (3 : Int32))), .val (.int la), .val (.int lb), .val (.ref b26), .val (.ref b43), .unset] [(.int y2), (.int x2)])) _
                        exact kt
                      by_cases hc255_87 : x2 = y2
                      · have pre88 : ∀ tq, Steps p.tables e below (T45.setTop (mkF m 263 #[.val (.int pc0), .val (.int pc1), .val (.int pc2), .val (.int pd), .val (.int pf), .val (.int x0), .val (.int x1), .val (.int x2), .val (.int (pd &&& (3 : Int32))), .val (.int xe), .val (.int y0), .val (.int y1), .val (.int y2), .val (.int (pf &&& (3 : Int32))), .val (.int la), .val (.int lb), .val (.ref b26), .val (.ref b43), .unset] [(.int (1 : Int32))])) tq → Steps p.tables e below (s₁.setTop (entryFrame m #[(.int pc0), (.int pc1), (.int pc2), (.int pd), (.int pf)] maxLocals)) tq := by
                          intro tq kt
                          refine pre86 tq ?_
                          show Steps p.tables e below (T45.setTop (mkF m 255 #[.val (.int pc0), .val (.int pc1), .val (.int pc2), .val (.int pd), .val (.int pf), .val (.int x0), .val (.int x1), .val (.int x2), .val (.int (pd &&& (3 : Int32))), .val (.int xe), .val (.int y0), .val (.int y1), .val (.int y2), .val (.int (pf &&& (3 : Int32))), .val (.int la), .val (.int lb), .val (.ref b26), .val (.ref b43), .unset] [(.int y2), (.int x2)])) _
                          refine XS.icmpNo Xr45.here hx rfl (hb hby at_255) rfl (teq hc255_87).2 ?_
                          show Steps p.tables e below (T45.setTop (mkF m 258 #[.val (.int pc0), .val (.int pc1), .val (.int pc2), .val (.int pd), .val (.int pf), .val (.int x0), .val (.int x1), .val (.int x2), .val (.int (pd &&& (3 : Int32))), .val (.int xe), .val (.int y0), .val (.int y1), .val (.int y2), .val (.int (pf &&& (3 : Int32))), .val (.int la), .val (.int lb), .val (.ref b26), .val (.ref b43), .unset] [])) _
                          refine XS.iconst Xr45.here hx rfl (hb hby at_258) ?_
                          show Steps p.tables e below (T45.setTop (mkF m 259 #[.val (.int pc0), .val (.int pc1), .val (.int pc2), .val (.int pd), .val (.int pf), .val (.int x0), .val (.int x1), .val (.int x2), .val (.int (pd &&& (3 : Int32))), .val (.int xe), .val (.int y0), .val (.int y1), .val (.int y2), .val (.int (pf &&& (3 : Int32))), .val (.int la), .val (.int lb), .val (.ref b26), .val (.ref b43), .unset] [(.int (1 : Int32))])) _
                          refine XS.goto Xr45.here hx rfl (pc0 := 259) (pc' := 263) rfl (hb hby at_259) (by decide) (by decide) ?_
                          show Steps p.tables e below (T45.setTop (mkF m 263 #[.val (.int pc0), .val (.int pc1), .val (.int pc2), .val (.int pd), .val (.int pf), .val (.int x0), .val (.int x1), .val (.int x2), .val (.int (pd &&& (3 : Int32))), .val (.int xe), .val (.int y0), .val (.int y1), .val (.int y2), .val (.int (pf &&& (3 : Int32))), .val (.int la), .val (.int lb), .val (.ref b26), .val (.ref b43), .unset] [(.int (1 : Int32))])) _
                          exact kt
                        exact ⟨(1 : Int32), by rw [if_pos hc216_48, if_neg hc222_50, if_pos hc229_71, if_neg hc235_73, if_pos hc242_82, if_neg hc248_84, if_pos hc255_87], pre88⟩
                      · have pre89 : ∀ tq, Steps p.tables e below (T45.setTop (mkF m 263 #[.val (.int pc0), .val (.int pc1), .val (.int pc2), .val (.int pd), .val (.int pf), .val (.int x0), .val (.int x1), .val (.int x2), .val (.int (pd &&& (3 : Int32))), .val (.int xe), .val (.int y0), .val (.int y1), .val (.int y2), .val (.int (pf &&& (3 : Int32))), .val (.int la), .val (.int lb), .val (.ref b26), .val (.ref b43), .unset] [(.int (0 : Int32))])) tq → Steps p.tables e below (s₁.setTop (entryFrame m #[(.int pc0), (.int pc1), (.int pc2), (.int pd), (.int pf)] maxLocals)) tq := by
                          intro tq kt
                          refine pre86 tq ?_
                          show Steps p.tables e below (T45.setTop (mkF m 255 #[.val (.int pc0), .val (.int pc1), .val (.int pc2), .val (.int pd), .val (.int pf), .val (.int x0), .val (.int x1), .val (.int x2), .val (.int (pd &&& (3 : Int32))), .val (.int xe), .val (.int y0), .val (.int y1), .val (.int y2), .val (.int (pf &&& (3 : Int32))), .val (.int la), .val (.int lb), .val (.ref b26), .val (.ref b43), .unset] [(.int y2), (.int x2)])) _
                          refine XS.icmpYes Xr45.here hx rfl (pc0 := 255) (pc' := 262) rfl (hb hby at_255) rfl (feq hc255_87).2 (by decide) (by decide) ?_
                          show Steps p.tables e below (T45.setTop (mkF m 262 #[.val (.int pc0), .val (.int pc1), .val (.int pc2), .val (.int pd), .val (.int pf), .val (.int x0), .val (.int x1), .val (.int x2), .val (.int (pd &&& (3 : Int32))), .val (.int xe), .val (.int y0), .val (.int y1), .val (.int y2), .val (.int (pf &&& (3 : Int32))), .val (.int la), .val (.int lb), .val (.ref b26), .val (.ref b43), .unset] [])) _
                          refine XS.iconst Xr45.here hx rfl (hb hby at_262) ?_
                          show Steps p.tables e below (T45.setTop (mkF m 263 #[.val (.int pc0), .val (.int pc1), .val (.int pc2), .val (.int pd), .val (.int pf), .val (.int x0), .val (.int x1), .val (.int x2), .val (.int (pd &&& (3 : Int32))), .val (.int xe), .val (.int y0), .val (.int y1), .val (.int y2), .val (.int (pf &&& (3 : Int32))), .val (.int la), .val (.int lb), .val (.ref b26), .val (.ref b43), .unset] [(.int (0 : Int32))])) _
                          exact kt
                        exact ⟨(0 : Int32), by rw [if_pos hc216_48, if_neg hc222_50, if_pos hc229_71, if_neg hc235_73, if_pos hc242_82, if_neg hc248_84, if_neg hc255_87], pre89⟩
                  · have pre90 : ∀ tq, Steps p.tables e below (T45.setTop (mkF m 263 #[.val (.int pc0), .val (.int pc1), .val (.int pc2), .val (.int pd), .val (.int pf), .val (.int x0), .val (.int x1), .val (.int x2), .val (.int (pd &&& (3 : Int32))), .val (.int xe), .val (.int y0), .val (.int y1), .val (.int y2), .val (.int (pf &&& (3 : Int32))), .val (.int la), .val (.int lb), .val (.ref b26), .val (.ref b43), .unset] [(.int (0 : Int32))])) tq → Steps p.tables e below (s₁.setTop (entryFrame m #[(.int pc0), (.int pc1), (.int pc2), (.int pd), (.int pf)] maxLocals)) tq := by
                      intro tq kt
                      refine pre81 tq ?_
                      show Steps p.tables e below (T45.setTop (mkF m 242 #[.val (.int pc0), .val (.int pc1), .val (.int pc2), .val (.int pd), .val (.int pf), .val (.int x0), .val (.int x1), .val (.int x2), .val (.int (pd &&& (3 : Int32))), .val (.int xe), .val (.int y0), .val (.int y1), .val (.int y2), .val (.int (pf &&& (3 : Int32))), .val (.int la), .val (.int lb), .val (.ref b26), .val (.ref b43), .unset] [(.int y1), (.int x1)])) _
                      refine XS.icmpYes Xr45.here hx rfl (pc0 := 242) (pc' := 262) rfl (hb hby at_242) rfl (feq hc242_82).2 (by decide) (by decide) ?_
                      show Steps p.tables e below (T45.setTop (mkF m 262 #[.val (.int pc0), .val (.int pc1), .val (.int pc2), .val (.int pd), .val (.int pf), .val (.int x0), .val (.int x1), .val (.int x2), .val (.int (pd &&& (3 : Int32))), .val (.int xe), .val (.int y0), .val (.int y1), .val (.int y2), .val (.int (pf &&& (3 : Int32))), .val (.int la), .val (.int lb), .val (.ref b26), .val (.ref b43), .unset] [])) _
                      refine XS.iconst Xr45.here hx rfl (hb hby at_262) ?_
                      show Steps p.tables e below (T45.setTop (mkF m 263 #[.val (.int pc0), .val (.int pc1), .val (.int pc2), .val (.int pd), .val (.int pf), .val (.int x0), .val (.int x1), .val (.int x2), .val (.int (pd &&& (3 : Int32))), .val (.int xe), .val (.int y0), .val (.int y1), .val (.int y2), .val (.int (pf &&& (3 : Int32))), .val (.int la), .val (.int lb), .val (.ref b26), .val (.ref b43), .unset] [(.int (0 : Int32))])) _
                      exact kt
                    exact ⟨(0 : Int32), by rw [if_pos hc216_48, if_neg hc222_50, if_pos hc229_71, if_neg hc235_73, if_neg hc242_82], pre90⟩
              · have pre91 : ∀ tq, Steps p.tables e below (T45.setTop (mkF m 263 #[.val (.int pc0), .val (.int pc1), .val (.int pc2), .val (.int pd), .val (.int pf), .val (.int x0), .val (.int x1), .val (.int x2), .val (.int (pd &&& (3 : Int32))), .val (.int xe), .val (.int y0), .val (.int y1), .val (.int y2), .val (.int (pf &&& (3 : Int32))), .val (.int la), .val (.int lb), .val (.ref b26), .val (.ref b43), .unset] [(.int (0 : Int32))])) tq → Steps p.tables e below (s₁.setTop (entryFrame m #[(.int pc0), (.int pc1), (.int pc2), (.int pd), (.int pf)] maxLocals)) tq := by
                  intro tq kt
                  refine pre70 tq ?_
                  show Steps p.tables e below (T45.setTop (mkF m 229 #[.val (.int pc0), .val (.int pc1), .val (.int pc2), .val (.int pd), .val (.int pf), .val (.int x0), .val (.int x1), .val (.int x2), .val (.int (pd &&& (3 : Int32))), .val (.int xe), .val (.int y0), .val (.int y1), .val (.int y2), .val (.int (pf &&& (3 : Int32))), .val (.int la), .val (.int lb), .val (.ref b26), .val (.ref b43), .unset] [(.int y0), (.int x0)])) _
                  refine XS.icmpYes Xr45.here hx rfl (pc0 := 229) (pc' := 262) rfl (hb hby at_229) rfl (feq hc229_71).2 (by decide) (by decide) ?_
                  show Steps p.tables e below (T45.setTop (mkF m 262 #[.val (.int pc0), .val (.int pc1), .val (.int pc2), .val (.int pd), .val (.int pf), .val (.int x0), .val (.int x1), .val (.int x2), .val (.int (pd &&& (3 : Int32))), .val (.int xe), .val (.int y0), .val (.int y1), .val (.int y2), .val (.int (pf &&& (3 : Int32))), .val (.int la), .val (.int lb), .val (.ref b26), .val (.ref b43), .unset] [])) _
                  refine XS.iconst Xr45.here hx rfl (hb hby at_262) ?_
                  show Steps p.tables e below (T45.setTop (mkF m 263 #[.val (.int pc0), .val (.int pc1), .val (.int pc2), .val (.int pd), .val (.int pf), .val (.int x0), .val (.int x1), .val (.int x2), .val (.int (pd &&& (3 : Int32))), .val (.int xe), .val (.int y0), .val (.int y1), .val (.int y2), .val (.int (pf &&& (3 : Int32))), .val (.int la), .val (.int lb), .val (.ref b26), .val (.ref b43), .unset] [(.int (0 : Int32))])) _
                  exact kt
                exact ⟨(0 : Int32), by rw [if_pos hc216_48, if_neg hc222_50, if_neg hc229_71], pre91⟩
          · have pre92 : ∀ tq, Steps p.tables e below (T45.setTop (mkF m 263 #[.val (.int pc0), .val (.int pc1), .val (.int pc2), .val (.int pd), .val (.int pf), .val (.int x0), .val (.int x1), .val (.int x2), .val (.int (pd &&& (3 : Int32))), .val (.int xe), .val (.int y0), .val (.int y1), .val (.int y2), .val (.int (pf &&& (3 : Int32))), .val (.int la), .val (.int lb), .val (.ref b26), .val (.ref b43), .unset] [(.int (0 : Int32))])) tq → Steps p.tables e below (s₁.setTop (entryFrame m #[(.int pc0), (.int pc1), (.int pc2), (.int pd), (.int pf)] maxLocals)) tq := by
              intro tq kt
              refine pre46 tq ?_
              show Steps p.tables e below (T45.setTop (mkF m 216 #[.val (.int pc0), .val (.int pc1), .val (.int pc2), .val (.int pd), .val (.int pf), .val (.int x0), .val (.int x1), .val (.int x2), .val (.int (pd &&& (3 : Int32))), .val (.int xe), .val (.int y0), .val (.int y1), .val (.int y2), .val (.int (pf &&& (3 : Int32))), .val (.int la), .val (.int lb), .val (.ref b26), .val (.ref b43), .unset] [(.int lb), (.int la)])) _
              refine XS.icmpYes Xr45.here hx rfl (pc0 := 216) (pc' := 262) rfl (hb hby at_216) rfl (feq hc216_48).2 (by decide) (by decide) ?_
              show Steps p.tables e below (T45.setTop (mkF m 262 #[.val (.int pc0), .val (.int pc1), .val (.int pc2), .val (.int pd), .val (.int pf), .val (.int x0), .val (.int x1), .val (.int x2), .val (.int (pd &&& (3 : Int32))), .val (.int xe), .val (.int y0), .val (.int y1), .val (.int y2), .val (.int (pf &&& (3 : Int32))), .val (.int la), .val (.int lb), .val (.ref b26), .val (.ref b43), .unset] [])) _
              refine XS.iconst Xr45.here hx rfl (hb hby at_262) ?_
              show Steps p.tables e below (T45.setTop (mkF m 263 #[.val (.int pc0), .val (.int pc1), .val (.int pc2), .val (.int pd), .val (.int pf), .val (.int x0), .val (.int x1), .val (.int x2), .val (.int (pd &&& (3 : Int32))), .val (.int xe), .val (.int y0), .val (.int y1), .val (.int y2), .val (.int (pf &&& (3 : Int32))), .val (.int la), .val (.int lb), .val (.ref b26), .val (.ref b43), .unset] [(.int (0 : Int32))])) _
              exact kt
            exact ⟨(0 : Int32), by rw [if_neg hc216_48], pre92⟩
        obtain ⟨cq93, kq93, q93a, q93b, q93c⟩ := isOf hZ45 rfl (((A28c.ext E43).keep K44).keep K45)
        obtain ⟨_, _, ⟨T93, L93, k93, n93⟩, -, X93, ⟨Lc93, hQ93, l93, y93, z93⟩, st93⟩ := Xr45.virtualBack hx (y := (⟨"com/example/attestrail/attestrail/json/JsonString", "equals", "(Ljava/lang/Object;)Z"⟩ : MethodName)) (z := (⟨"com/example/attestrail/attestrail/json/JsonString", "equals", "(Ljava/lang/Object;)Z"⟩ : MethodName)) hown45 (mvT hZ45 (hw _ (List.mem_of_getElem? (i := 62) rfl))) (mvT hZ45 (hw _ (List.mem_of_getElem? (i := 63) rfl))) (notFace_of_selects (args := #[]) (mvT hZ45 (hw _ (List.mem_of_getElem? (i := 65) rfl)))) (mvT hZ45 (hw _ (List.mem_of_getElem? (i := 65) rfl))) (mvT hZ45 (hw _ (List.mem_of_getElem? (i := 64) rfl))) (by decide) (backOf (W := 0) (rm12 l Z a0 hw [] b26 b43 b27 b44 (csF la x0 x1 x2) (csF lb y0 y1 y2) zc T45.heap n0 (Nat.le_trans Z0 Kc45.1) (((A28c.ext E43).keep K44).keep K45) A45c (((Fv28.ext E43).keep K44 nin0).keep K45 (ninS ne_b26_b43 nin0)) Fv45 sr45_b27 Ss45 (fun c hc => own_well (own_cs (P := fun z => ¬ z < 0 ∧ z < (55296 : Int32)) k_x0 k_x1 k_x2 c hc)) (fun c hc => own_well (own_cs (P := fun z => ¬ z < 0 ∧ z < (55296 : Int32)) k_y0 k_y1 k_y2 c hc)) (own_csl _ _ _ _) (own_csl _ _ _ _) (S_c.ext Oc45.2) hzc) hZ45 (hw _ (List.mem_of_getElem? (i := 66) rfl)) (hw _ (List.mem_of_getElem? (i := 8) rfl)) (by decide) (by decide)) q93a q93c (g := (mkF m 269 #[.val (.int pc0), .val (.int pc1), .val (.int pc2), .val (.int pd), .val (.int pf), .val (.int x0), .val (.int x1), .val (.int x2), .val (.int (pd &&& (3 : Int32))), .val (.int xe), .val (.int y0), .val (.int y1), .val (.int y2), .val (.int (pf &&& (3 : Int32))), .val (.int la), .val (.int lb), .val (.ref b26), .val (.ref b43), .val (.int ex)] [(.ref b43), (.ref b26)])) rfl (by rw [hml]; rfl) (Steps.refl _) (argsL := [(.ref b43)]) (rest := []) (lenOf pd_20 rfl) rfl (by show 2 * 0 + _ ≤ _; exact Nat.le_of_eq rfl) (hb hby at_269) (fun _ _ => ⟨rfl, rfl, (by decide : 18 + 0 ≤ _), (by decide : 74 + 0 ≤ _)⟩)
        dsimp only [Pt.U, Pt.locs, Pt.cells, Pt.slots] at X93 l93 y93 z93 st93 hQ93
        subst l93 y93 z93
        obtain ⟨rfl, N93q, e93⟩ := hQ93
        have N93 := Fr.app N45 N93q
        obtain ⟨cq94, kq94, q94a, q94b, q94c⟩ := isOf hZ45 e93 A45c
        obtain ⟨_, _, ⟨T94, L94, k94, n94⟩, -, X94, ⟨Lc94, hQ94, l94, y94, z94⟩, st94⟩ := X93.virtualBack hx (y := (⟨"com/example/attestrail/attestrail/json/JsonString", "equals", "(Ljava/lang/Object;)Z"⟩ : MethodName)) (z := (⟨"com/example/attestrail/attestrail/json/JsonString", "equals", "(Ljava/lang/Object;)Z"⟩ : MethodName)) hown45 (mvT hZ45 (hw _ (List.mem_of_getElem? (i := 62) rfl))) (mvT hZ45 (hw _ (List.mem_of_getElem? (i := 63) rfl))) (notFace_of_selects (args := #[]) (mvT hZ45 (hw _ (List.mem_of_getElem? (i := 65) rfl)))) (mvT hZ45 (hw _ (List.mem_of_getElem? (i := 65) rfl))) (mvT hZ45 (hw _ (List.mem_of_getElem? (i := 64) rfl))) (by decide) (backOf (W := 0) (rm12 l Z a0 hw [] b43 b26 b44 b27 (csF lb y0 y1 y2) (csF la x0 x1 x2) zc T45.heap n0 (Nat.le_trans Z0 Kc45.1) A45c (((A28c.ext E43).keep K44).keep K45) Fv45 (((Fv28.ext E43).keep K44 nin0).keep K45 (ninS ne_b26_b43 nin0)) Ss45 sr45_b27 (fun c hc => own_well (own_cs (P := fun z => ¬ z < 0 ∧ z < (55296 : Int32)) k_y0 k_y1 k_y2 c hc)) (fun c hc => own_well (own_cs (P := fun z => ¬ z < 0 ∧ z < (55296 : Int32)) k_x0 k_x1 k_x2 c hc)) (own_csl _ _ _ _) (own_csl _ _ _ _) (S_c.ext Oc45.2) hzc) hZ45 (hw _ (List.mem_of_getElem? (i := 66) rfl)) (hw _ (List.mem_of_getElem? (i := 8) rfl)) (by decide) (by decide)) q94a q94c (g := (mkF m 281 #[.val (.int pc0), .val (.int pc1), .val (.int pc2), .val (.int pd), .val (.int pf), .val (.int x0), .val (.int x1), .val (.int x2), .val (.int (pd &&& (3 : Int32))), .val (.int xe), .val (.int y0), .val (.int y1), .val (.int y2), .val (.int (pf &&& (3 : Int32))), .val (.int la), .val (.int lb), .val (.ref b26), .val (.ref b43), .val (.int ex)] [(.ref b26), (.ref b43)])) rfl (by rw [hml]; rfl) (Steps.refl _) (argsL := [(.ref b26)]) (rest := []) (lenOf pd_20 rfl) rfl (by show 2 * 0 + _ ≤ _; exact Nat.le_of_eq rfl) (hb hby at_281) (fun _ _ => ⟨rfl, e93, (by decide : 18 + 0 ≤ _), (by decide : 74 + 0 ≤ _)⟩)
        dsimp only [Pt.U, Pt.locs, Pt.cells, Pt.slots] at X94 l94 y94 z94 st94 hQ94
        subst l94 y94 z94
        obtain ⟨rfl, N94q, e94⟩ := hQ94
        have N94 := Fr.app N93 N94q
        obtain ⟨cq95, kq95, q95a, q95b, q95c⟩ := isOf hZ45 e94 (((A28c.ext E43).keep K44).keep K45)
        obtain ⟨_, _, ⟨T95, L95, k95, n95⟩, -, X95, ⟨Lc95, hQ95, l95, y95, z95⟩, st95⟩ := X94.virtualBack hx (y := (⟨"com/example/attestrail/attestrail/json/JsonString", "equals", "(Ljava/lang/Object;)Z"⟩ : MethodName)) (z := (⟨"com/example/attestrail/attestrail/json/JsonString", "equals", "(Ljava/lang/Object;)Z"⟩ : MethodName)) hown45 (mvT hZ45 (hw _ (List.mem_of_getElem? (i := 62) rfl))) (mvT hZ45 (hw _ (List.mem_of_getElem? (i := 63) rfl))) (notFace_of_selects (args := #[]) (mvT hZ45 (hw _ (List.mem_of_getElem? (i := 65) rfl)))) (mvT hZ45 (hw _ (List.mem_of_getElem? (i := 65) rfl))) (mvT hZ45 (hw _ (List.mem_of_getElem? (i := 64) rfl))) (by decide) (backOf (W := 0) (rm12 l Z a0 hw [] b26 b26 b27 b27 (csF la x0 x1 x2) (csF la x0 x1 x2) zc T45.heap n0 (Nat.le_trans Z0 Kc45.1) (((A28c.ext E43).keep K44).keep K45) (((A28c.ext E43).keep K44).keep K45) (((Fv28.ext E43).keep K44 nin0).keep K45 (ninS ne_b26_b43 nin0)) (((Fv28.ext E43).keep K44 nin0).keep K45 (ninS ne_b26_b43 nin0)) sr45_b27 sr45_b27 (fun c hc => own_well (own_cs (P := fun z => ¬ z < 0 ∧ z < (55296 : Int32)) k_x0 k_x1 k_x2 c hc)) (fun c hc => own_well (own_cs (P := fun z => ¬ z < 0 ∧ z < (55296 : Int32)) k_x0 k_x1 k_x2 c hc)) (own_csl _ _ _ _) (own_csl _ _ _ _) (S_c.ext Oc45.2) hzc) hZ45 (hw _ (List.mem_of_getElem? (i := 66) rfl)) (hw _ (List.mem_of_getElem? (i := 8) rfl)) (by decide) (by decide)) q95a q95c (g := (mkF m 293 #[.val (.int pc0), .val (.int pc1), .val (.int pc2), .val (.int pd), .val (.int pf), .val (.int x0), .val (.int x1), .val (.int x2), .val (.int (pd &&& (3 : Int32))), .val (.int xe), .val (.int y0), .val (.int y1), .val (.int y2), .val (.int (pf &&& (3 : Int32))), .val (.int la), .val (.int lb), .val (.ref b26), .val (.ref b43), .val (.int ex)] [(.ref b26), (.ref b26)])) rfl (by rw [hml]; rfl) (Steps.refl _) (argsL := [(.ref b26)]) (rest := []) (lenOf pd_20 rfl) rfl (by show 2 * 0 + _ ≤ _; exact Nat.le_of_eq rfl) (hb hby at_293) (fun _ _ => ⟨rfl, e94, (by decide : 18 + 0 ≤ _), (by decide : 74 + 0 ≤ _)⟩)
        dsimp only [Pt.U, Pt.locs, Pt.cells, Pt.slots] at X95 l95 y95 z95 st95 hQ95
        subst l95 y95 z95
        obtain ⟨rfl, N95q, e95⟩ := hQ95
        have N95 := Fr.app N94 N95q
        rw [own_eqJ, if_pos rfl] at st95
        obtain ⟨fs, hr, hrun, hended, hend⟩ := Stand.leaveW (s := s) (vm₁ := T45.vm) X95 hS45 (by rw [e95]; exact (Nat.le_refl _)) (v := some (.int (1 : Int32))) (fun h => by rw [Bd.returns] at h; cases h)
        refine ⟨_, _, pre47 _ ?_, hrun, hended, _, _, rfl, ?_, hend.1, hend.2.1, hend.2.2.1, hend.2.2.2.mono (by decide) (by decide)⟩
        · show Steps p.tables e below (T45.setTop (mkF m 263 #[.val (.int pc0), .val (.int pc1), .val (.int pc2), .val (.int pd), .val (.int pf), .val (.int x0), .val (.int x1), .val (.int x2), .val (.int (pd &&& (3 : Int32))), .val (.int xe), .val (.int y0), .val (.int y1), .val (.int y2), .val (.int (pf &&& (3 : Int32))), .val (.int la), .val (.int lb), .val (.ref b26), .val (.ref b43), .unset] [(.int ex)])) _
          refine XS.istore Xr45.here hx rfl (hb hby at_263) rfl (l' := #[.val (.int pc0), .val (.int pc1), .val (.int pc2), .val (.int pd), .val (.int pf), .val (.int x0), .val (.int x1), .val (.int x2), .val (.int (pd &&& (3 : Int32))), .val (.int xe), .val (.int y0), .val (.int y1), .val (.int y2), .val (.int (pf &&& (3 : Int32))), .val (.int la), .val (.int lb), .val (.ref b26), .val (.ref b43), .val (.int ex)]) rfl ?_
          show Steps p.tables e below (T45.setTop (mkF m 265 #[.val (.int pc0), .val (.int pc1), .val (.int pc2), .val (.int pd), .val (.int pf), .val (.int x0), .val (.int x1), .val (.int x2), .val (.int (pd &&& (3 : Int32))), .val (.int xe), .val (.int y0), .val (.int y1), .val (.int y2), .val (.int (pf &&& (3 : Int32))), .val (.int la), .val (.int lb), .val (.ref b26), .val (.ref b43), .val (.int ex)] [])) _
          refine XS.aload Xr45.here hx rfl (hb hby at_265) rfl rfl ?_
          show Steps p.tables e below (T45.setTop (mkF m 267 #[.val (.int pc0), .val (.int pc1), .val (.int pc2), .val (.int pd), .val (.int pf), .val (.int x0), .val (.int x1), .val (.int x2), .val (.int (pd &&& (3 : Int32))), .val (.int xe), .val (.int y0), .val (.int y1), .val (.int y2), .val (.int (pf &&& (3 : Int32))), .val (.int la), .val (.int lb), .val (.ref b26), .val (.ref b43), .val (.int ex)] [(.ref b26)])) _
          refine XS.aload Xr45.here hx rfl (hb hby at_267) rfl rfl ?_
          show Steps p.tables e below (T45.setTop (mkF m 269 #[.val (.int pc0), .val (.int pc1), .val (.int pc2), .val (.int pd), .val (.int pf), .val (.int x0), .val (.int x1), .val (.int x2), .val (.int (pd &&& (3 : Int32))), .val (.int xe), .val (.int y0), .val (.int y1), .val (.int y2), .val (.int (pf &&& (3 : Int32))), .val (.int la), .val (.int lb), .val (.ref b26), .val (.ref b43), .val (.int ex)] [(.ref b43), (.ref b26)])) _
          refine st93.trans ?_
          show Steps p.tables e below (T93.setTop (mkF m 272 #[.val (.int pc0), .val (.int pc1), .val (.int pc2), .val (.int pd), .val (.int pf), .val (.int x0), .val (.int x1), .val (.int x2), .val (.int (pd &&& (3 : Int32))), .val (.int xe), .val (.int y0), .val (.int y1), .val (.int y2), .val (.int (pf &&& (3 : Int32))), .val (.int la), .val (.int lb), .val (.ref b26), .val (.ref b43), .val (.int ex)] [(.int (eqJ (csF la x0 x1 x2) (csF lb y0 y1 y2)))])) _
          refine XS.iload X93.here hx rfl (hb hby at_272) rfl ?_
          show Steps p.tables e below (T93.setTop (mkF m 274 #[.val (.int pc0), .val (.int pc1), .val (.int pc2), .val (.int pd), .val (.int pf), .val (.int x0), .val (.int x1), .val (.int x2), .val (.int (pd &&& (3 : Int32))), .val (.int xe), .val (.int y0), .val (.int y1), .val (.int y2), .val (.int (pf &&& (3 : Int32))), .val (.int la), .val (.int lb), .val (.ref b26), .val (.ref b43), .val (.int ex)] [(.int ex), (.int (eqJ (csF la x0 x1 x2) (csF lb y0 y1 y2)))])) _
          refine XS.icmpNo X93.here hx rfl (hb hby at_274) rfl (teq (by rw [own_eqJ]; exact own_fin0 (h_la ▸ own_3 _) (h_lb ▸ own_3 _) hv_ex : (eqJ (csF la x0 x1 x2) (csF lb y0 y1 y2)) = ex)).2 ?_
          show Steps p.tables e below (T93.setTop (mkF m 277 #[.val (.int pc0), .val (.int pc1), .val (.int pc2), .val (.int pd), .val (.int pf), .val (.int x0), .val (.int x1), .val (.int x2), .val (.int (pd &&& (3 : Int32))), .val (.int xe), .val (.int y0), .val (.int y1), .val (.int y2), .val (.int (pf &&& (3 : Int32))), .val (.int la), .val (.int lb), .val (.ref b26), .val (.ref b43), .val (.int ex)] [])) _
          refine XS.aload X93.here hx rfl (hb hby at_277) rfl rfl ?_
          show Steps p.tables e below (T93.setTop (mkF m 279 #[.val (.int pc0), .val (.int pc1), .val (.int pc2), .val (.int pd), .val (.int pf), .val (.int x0), .val (.int x1), .val (.int x2), .val (.int (pd &&& (3 : Int32))), .val (.int xe), .val (.int y0), .val (.int y1), .val (.int y2), .val (.int (pf &&& (3 : Int32))), .val (.int la), .val (.int lb), .val (.ref b26), .val (.ref b43), .val (.int ex)] [(.ref b43)])) _
          refine XS.aload X93.here hx rfl (hb hby at_279) rfl rfl ?_
          show Steps p.tables e below (T93.setTop (mkF m 281 #[.val (.int pc0), .val (.int pc1), .val (.int pc2), .val (.int pd), .val (.int pf), .val (.int x0), .val (.int x1), .val (.int x2), .val (.int (pd &&& (3 : Int32))), .val (.int xe), .val (.int y0), .val (.int y1), .val (.int y2), .val (.int (pf &&& (3 : Int32))), .val (.int la), .val (.int lb), .val (.ref b26), .val (.ref b43), .val (.int ex)] [(.ref b26), (.ref b43)])) _
          refine st94.trans ?_
          show Steps p.tables e below (T94.setTop (mkF m 284 #[.val (.int pc0), .val (.int pc1), .val (.int pc2), .val (.int pd), .val (.int pf), .val (.int x0), .val (.int x1), .val (.int x2), .val (.int (pd &&& (3 : Int32))), .val (.int xe), .val (.int y0), .val (.int y1), .val (.int y2), .val (.int (pf &&& (3 : Int32))), .val (.int la), .val (.int lb), .val (.ref b26), .val (.ref b43), .val (.int ex)] [(.int (eqJ (csF lb y0 y1 y2) (csF la x0 x1 x2)))])) _
          refine XS.iload X94.here hx rfl (hb hby at_284) rfl ?_
          show Steps p.tables e below (T94.setTop (mkF m 286 #[.val (.int pc0), .val (.int pc1), .val (.int pc2), .val (.int pd), .val (.int pf), .val (.int x0), .val (.int x1), .val (.int x2), .val (.int (pd &&& (3 : Int32))), .val (.int xe), .val (.int y0), .val (.int y1), .val (.int y2), .val (.int (pf &&& (3 : Int32))), .val (.int la), .val (.int lb), .val (.ref b26), .val (.ref b43), .val (.int ex)] [(.int ex), (.int (eqJ (csF lb y0 y1 y2) (csF la x0 x1 x2)))])) _
          refine XS.icmpNo X94.here hx rfl (hb hby at_286) rfl (teq (by rw [own_eqJ, own_sym]; exact own_fin0 (h_la ▸ own_3 _) (h_lb ▸ own_3 _) hv_ex : (eqJ (csF lb y0 y1 y2) (csF la x0 x1 x2)) = ex)).2 ?_
          show Steps p.tables e below (T94.setTop (mkF m 289 #[.val (.int pc0), .val (.int pc1), .val (.int pc2), .val (.int pd), .val (.int pf), .val (.int x0), .val (.int x1), .val (.int x2), .val (.int (pd &&& (3 : Int32))), .val (.int xe), .val (.int y0), .val (.int y1), .val (.int y2), .val (.int (pf &&& (3 : Int32))), .val (.int la), .val (.int lb), .val (.ref b26), .val (.ref b43), .val (.int ex)] [])) _
          refine XS.aload X94.here hx rfl (hb hby at_289) rfl rfl ?_
          show Steps p.tables e below (T94.setTop (mkF m 291 #[.val (.int pc0), .val (.int pc1), .val (.int pc2), .val (.int pd), .val (.int pf), .val (.int x0), .val (.int x1), .val (.int x2), .val (.int (pd &&& (3 : Int32))), .val (.int xe), .val (.int y0), .val (.int y1), .val (.int y2), .val (.int (pf &&& (3 : Int32))), .val (.int la), .val (.int lb), .val (.ref b26), .val (.ref b43), .val (.int ex)] [(.ref b26)])) _
          refine XS.aload X94.here hx rfl (hb hby at_291) rfl rfl ?_
          show Steps p.tables e below (T94.setTop (mkF m 293 #[.val (.int pc0), .val (.int pc1), .val (.int pc2), .val (.int pd), .val (.int pf), .val (.int x0), .val (.int x1), .val (.int x2), .val (.int (pd &&& (3 : Int32))), .val (.int xe), .val (.int y0), .val (.int y1), .val (.int y2), .val (.int (pf &&& (3 : Int32))), .val (.int la), .val (.int lb), .val (.ref b26), .val (.ref b43), .val (.int ex)] [(.ref b26), (.ref b26)])) _
          refine st95.trans ?_
          show Steps p.tables e below (T95.setTop (mkF m 296 #[.val (.int pc0), .val (.int pc1), .val (.int pc2), .val (.int pd), .val (.int pf), .val (.int x0), .val (.int x1), .val (.int x2), .val (.int (pd &&& (3 : Int32))), .val (.int xe), .val (.int y0), .val (.int y1), .val (.int y2), .val (.int (pf &&& (3 : Int32))), .val (.int la), .val (.int lb), .val (.ref b26), .val (.ref b43), .val (.int ex)] [(.int (1 : Int32))])) _
          refine XS.ifNo X95.here hx rfl (hb hby at_296) rfl ((if0 _ _).trans (feq (by decide : ¬ ((1 : Int32) = (0 : Int32)))).1) ?_
          show Steps p.tables e below (T95.setTop (mkF m 299 #[.val (.int pc0), .val (.int pc1), .val (.int pc2), .val (.int pd), .val (.int pf), .val (.int x0), .val (.int x1), .val (.int x2), .val (.int (pd &&& (3 : Int32))), .val (.int xe), .val (.int y0), .val (.int y1), .val (.int y2), .val (.int (pf &&& (3 : Int32))), .val (.int la), .val (.int lb), .val (.ref b26), .val (.ref b43), .val (.int ex)] [])) _
          refine XS.iconst X95.here hx rfl (hb hby at_299) ?_
          show Steps p.tables e below (T95.setTop (mkF m 300 #[.val (.int pc0), .val (.int pc1), .val (.int pc2), .val (.int pd), .val (.int pf), .val (.int x0), .val (.int x1), .val (.int x2), .val (.int (pd &&& (3 : Int32))), .val (.int xe), .val (.int y0), .val (.int y1), .val (.int y2), .val (.int (pf &&& (3 : Int32))), .val (.int la), .val (.int lb), .val (.ref b26), .val (.ref b43), .val (.int ex)] [(.int (1 : Int32))])) _
          refine XS.goto X95.here hx rfl (pc0 := 300) (pc' := 304) rfl (hb hby at_300) (by decide) (by decide) ?_
          show Steps p.tables e below (T95.setTop (mkF m 304 #[.val (.int pc0), .val (.int pc1), .val (.int pc2), .val (.int pd), .val (.int pf), .val (.int x0), .val (.int x1), .val (.int x2), .val (.int (pd &&& (3 : Int32))), .val (.int xe), .val (.int y0), .val (.int y1), .val (.int y2), .val (.int (pf &&& (3 : Int32))), .val (.int la), .val (.int lb), .val (.ref b26), .val (.ref b43), .val (.int ex)] [(.int (1 : Int32))])) _
          exact retN X95 hx (t := .boolean) Bd.returns (by simp) (hb hby at_304) hr
        · show Q0 Z pc0 pc1 pc2 pd pf zc fm wN h0 n0 _ T95.heap _
          rw [e95]
          exact ⟨rfl, N95⟩
set_option maxRecDepth 65536 in
set_option maxHeartbeats 40000000 in
theorem comes_1 {Post : Tables → Env → Array Value → State → Outcome → State → Prop} (hpost : ∀ tb e args s v u, (limb_1_1.after args s (.returned v) u = true ∧ limb_1_2.after args s (.returned v) u = true ∧ True) → ReturnedEndW s (.returned v) u (Jvm.fieldLocs frame_1_writes args s ++ Jvm.arrayLocs frame_1_arrays args s ++ Jvm.staticLocs frame_1_statics s) 32 2240 → Post tb e args s (.returned v) u) :
    ArmFor flags0 classFile x code maxLocals ret World_1 tables_1 room_1 Calls_1 rest_1 Pre_1 Post := by
  intro l hfl _ _ p e ha hc hk s m args below hf hA hF happ hP
  obtain ⟨hcalls, hrest, hpre⟩ := hP
  obtain ⟨-, -, -, hnamed, -, -, -, hat⟩ := (Spec.applies_iff hf).mp happ
  obtain ⟨hg, hn⟩ := and_e (Cond.before_iff.mp (show (Jvm.Cond.and given_1 narrow_1).before args s = true from hpre))
  obtain ⟨g1, g2⟩ := and_e hg
  obtain ⟨g3, g4⟩ := and_e g2
  obtain ⟨g5, g6⟩ := and_e g4
  obtain ⟨g7, g8⟩ := and_e g6
  obtain ⟨g9, g10⟩ := and_e g8
  obtain ⟨w0, w1, w2, w3, w4, rfl⟩ : ∃ w0 w1 w2 w3 w4 : Value, args = #[w0, w1, w2, w3, w4] := by
    have hs : args.size = 5 := by simpa [Cond.value, given_1] using g1
    obtain ⟨L⟩ := args
    match L, hs with
    | [w0, w1, w2, w3, w4], _ => exact ⟨w0, w1, w2, w3, w4, rfl⟩
  have hw := fun d (hd : d ∈ tables_1) => atoms_spec (ws := Jvm.Cond.code x code maxLocals ret :: tables_1) hat d (List.mem_cons_of_mem _ hd)
  have hfit : Fit s := fun {y c} hc i hi => by
    obtain ⟨ha, rfl⟩ := Array.getElem?_eq_some_iff.mp hc
    have q := List.all_eq_true.mp ((Array.all_eq_true_iff_forall_mem.mp hF) _ (Array.getElem_mem ha)) i (List.mem_range.mpr hi)
    simpa [Array.getElem?_eq_getElem hi] using q
  obtain ⟨hsets, hown0⟩ := atoms_of _ (rest_1_c_eq ▸ (show rest_1_c.before _ s = true from hrest))
  have hr0 := Cond.before_iff.mp hown0
  obtain ⟨i0, ei0⟩ := is_v g3
  obtain rfl : w0 = (.int i0) := Option.some.inj ei0
  obtain ⟨i1, ei1⟩ := is_v g5
  obtain rfl : w1 = (.int i1) := Option.some.inj ei1
  obtain ⟨i2, ei2⟩ := is_v g7
  obtain rfl : w2 = (.int i2) := Option.some.inj ei2
  obtain ⟨i3, ei3⟩ := is_v g9
  obtain rfl : w3 = (.int i3) := Option.some.inj ei3
  obtain ⟨i4, ei4⟩ := is_v g10
  obtain rfl : w4 = (.int i4) := Option.some.inj ei4
  obtain ⟨zc, ezc⟩ := is_v (Cond.before_iff.mp (hsets _ (List.mem_of_getElem? (i := 1) rfl)))
  have S_c := Sta.start ezc (Or.inl (hsets _ (List.mem_of_getElem? (i := 0) rfl)))
  have hzc : ¬ zc = (0 : Int32) := gotF (Cond.eq_ints ezc (Term.int_eval (0))) (not_v (Cond.before_iff.mp (hsets _ (List.mem_of_getElem? (i := 2) rfl))))
  obtain ⟨fm, efm, rfm⟩ := isR_v (Cond.before_iff.mp (hsets _ (List.mem_of_getElem? (i := 8) rfl)))
  have S_f := Sta.start efm (Or.inl (hsets _ (List.mem_of_getElem? (i := 7) rfl)))
  have S_ad := Sta.start (eqv_i (Term.int_eval 1) (Cond.before_iff.mp (hsets _ (List.mem_of_getElem? (i := 12) rfl)))) (Or.inl (hsets _ (List.mem_of_getElem? (i := 11) rfl)))
  have S_hi := Sta.start (eqv_i (Term.int_eval 0) (Cond.before_iff.mp (hsets _ (List.mem_of_getElem? (i := 15) rfl)))) (Or.inl (hsets _ (List.mem_of_getElem? (i := 14) rfl)))
  have S_lo := Sta.start (eqv_i (Term.int_eval 8) (Cond.before_iff.mp (hsets _ (List.mem_of_getElem? (i := 18) rfl)))) (Or.inl (hsets _ (List.mem_of_getElem? (i := 17) rfl)))
  obtain ⟨wN, ewN⟩ := exa_v hn
  have E_N := Exa.start ewN hn
  have S_N := Sta.start ewN (Or.inr ⟨(hw _ (List.mem_of_getElem? (i := 150) rfl)), (hw _ (List.mem_of_getElem? (i := 151) rfl))⟩)
  have hCHs : CHv s EL0 s.vm s.heap := CHv.start (own_EW hw) (fun p hp => by rw [show p = ("java/lang/String", 7) from by simpa [EL0] using hp]; exact hcalls.1 ("java/lang/String", 7) (by simp [consts_1])) (show Jvm.Lit.compactW.before _ s = true from (hsets _ (List.mem_of_getElem? (i := 2) rfl))) (hw _ (List.mem_of_getElem? (i := 27) rfl)) (hw _ (List.mem_of_getElem? (i := 13) rfl))
  obtain ⟨n, o, h1, h2, h3, _, L, rfl, ⟨rfl, N⟩, hq⟩ := rm0 l s _ hw tables_1 i0 i1 i2 i3 i4 zc fm wN s.heap s.heap.size (Nat.le_refl _) (Old.start s) S_ad S_hi S_lo S_c hzc S_f rfm S_N E_N p e ha hc hk s m _ below hf ((Spec.applies_iff_loose hf).mp happ).1 ⟨rfl, State.Warmed39.refl s, rfl, hCHs⟩ trivial
  refine ⟨n, _, h1, h2, h3, hpost _ _ _ _ _ _ ⟨Cond.after_iff.mpr rfl, Cond.after_iff.mpr (eq_i res_at (Term.int_eval (1)) rfl), trivial⟩ ⟨hq.1, hq.2.1, hq.2.2.1, (hq.2.2.2.sift fun y hy => Or.inr (N y hy)).mono (by decide) (by decide)⟩⟩
theorem main_1_1 : Claimed_1_1 := comes_1 fun _ _ _ _ _ _ h hF => ⟨h.1, hF⟩
theorem main_1_2 : Claimed_1_2 := comes_1 fun _ _ _ _ _ _ h hF => ⟨h.2.1, hF⟩
end Jvm.Pilot.@@N@@
namespace Jvm.Pilot.@@N@@
open Jvm Jvm.ClassFile Sem Op Lib Jvm.Free Jvm.Stand Jvm.Pilot.@@N@@.Jvm.D
/-! MADE BY PROGRAM (witnessworld.py) out of the Statement's table words and the real class files: 25 classes; the members and pool entries that the words name. The judged class is class 1, her method 3. -/
namespace start1
open Jvm.ClassFile
def u (s : String) : CpInfo := .utf8 (stringToUtf16 s)
/-- a pool by its gaps: so many unusable entries, then the entry; so many at the end -/
def gap : Nat → List CpInfo → List CpInfo
  | 0, r => r
  | n + 1, r => .unusable :: gap n r
def poolList (es : List (Nat × CpInfo)) (last : Nat) : List CpInfo := es.foldr (fun e r => gap e.1 (e.2 :: r)) (gap last [])
def pool (es : List (Nat × CpInfo)) (last : Nat) : Array CpInfo := ⟨poolList es last⟩
def fileOf (pool : Array CpInfo) (this : Nat) (attrs : Array Attribute := #[]) (ms : Array MethodInfo := #[]) (fl : Nat := 33) (sup : Nat := 0) (ifs : Array Nat := #[]) (fds : Array FieldInfo := #[]) : ClassFile where
  minorVersion := 0
  majorVersion := 65
  constantPool := pool
  accessFlags := fl
  thisClass := this
  superClass := sup
  interfaces := ifs
  fields := fds
  methods := ms
  attributes := attrs
def plain (name : String) (sup : Option ClassId) : Class where
  name := name
  kind := .ordinary
  loader := none
  accessFlags := 33
  super := sup
  interfaces := #[]
  cf := none
  fields := #[]
  methods := #[]
  instanceTypes := #[]
  staticTypes := #[]
  resolved := #[]
  callSites := []
  init := .initialized
  statics := none
  mirror := none

def pool0 : Array CpInfo := pool [(5, u "<init>"), (0, u "()V"), (1, .class_ 10), (1, u "java/lang/Object")] 113

def k0c0 : Code := { maxStack := 0, maxLocals := 1, code := object_method_1_code, exceptionTable := #[], attributes := #[] }
def k0m0 : Method := { name := "<init>", desc := "()V", sig := { parameters := [], returnType := none }, accessFlags := 1, code := some k0c0 }
/-- java/lang/Object -/
def k0 : Class := { plain "java/lang/Object" none with
  accessFlags := 33
  interfaces := #[]
  cf := some (fileOf pool0 8 #[] #[{ accessFlags := 1, nameIndex := 5, descriptorIndex := 6, attributes := #[] }] 33 0 #[] #[])
  fields := #[]
  methods := #[k0m0]
  instanceTypes := #[]
  staticTypes := #[]
  resolved := Array.replicate 124 none
  statics := none }

def pool1 : Array CpInfo := pool [(2, .class_ 4), (1, u "java/lang/Object"), (0, u "<init>"), (0, u "()V"), (0, .integer 65535), (0, .integer 55296), (0, .class_ 10), (0, u "java/lang/String"), (0, .methodref 9 12), (0, .nameAndType 5 13), (0, u "([C)V"), (0, .methodref 15 16), (0, .class_ 17), (0, .nameAndType 18 19), (0, u "com/example/attestrail/attestrail/json/JsonStringEqualsPinLaw"), (0, u "ch"), (0, u "(I)C"), (0, .class_ 21), (0, u "com/example/attestrail/attestrail/json/JsonString"), (0, .methodref 15 23), (0, .nameAndType 24 25), (0, u "str"), (0, u "(CCCI)Ljava/lang/String;"), (0, .methodref 20 27), (0, .nameAndType 5 28), (0, u "(Ljava/lang/String;)V"), (0, .methodref 20 30), (0, .nameAndType 31 32), (0, u "equals"), (0, u "(Ljava/lang/Object;)Z"), (0, .fieldref 34 35), (0, .class_ 36), (0, .nameAndType 37 38), (0, u "com/example/attestrail/attestrail/json/JsonLiteral"), (0, u "NULL"), (0, u "Lcom/example/attestrail/attestrail/json/JsonLiteral;"), (3, u "law"), (0, u "(IIIII)Z")] 2

def k1m0 : Method := { name := "<init>", desc := "()V", sig := { parameters := [], returnType := none }, accessFlags := 1, code := none }
def k1c1 : Code := { maxStack := 2, maxLocals := 1, code := method_2_code, exceptionTable := #[], attributes := #[] }
def k1m1 : Method := { name := "ch", desc := "(I)C", sig := { parameters := [.int], returnType := some .char }, accessFlags := 10, code := some k1c1 }
def k1c2 : Code := { maxStack := 6, maxLocals := 4, code := method_3_code, exceptionTable := #[], attributes := #[] }
def k1m2 : Method := { name := "str", desc := "(CCCI)Ljava/lang/String;", sig := { parameters := [.char, .char, .char, .int], returnType := some (.object "java/lang/String") }, accessFlags := 10, code := some k1c2 }
def k1c3 : Code := { maxStack := 6, maxLocals := 19, code := code, exceptionTable := #[], attributes := #[] }
def k1m3 : Method := { name := "law", desc := "(IIIII)Z", sig := { parameters := [.int, .int, .int, .int, .int], returnType := some .boolean }, accessFlags := 9, code := some k1c3 }
/-- com/example/attestrail/attestrail/json/JsonStringEqualsPinLaw -/
def k1 : Class := { plain "com/example/attestrail/attestrail/json/JsonStringEqualsPinLaw" (some 0) with
  accessFlags := 49
  interfaces := #[]
  cf := some (fileOf pool1 15 #[] #[{ accessFlags := 1, nameIndex := 5, descriptorIndex := 6, attributes := #[] }, { accessFlags := 10, nameIndex := 18, descriptorIndex := 19, attributes := #[] }, { accessFlags := 10, nameIndex := 24, descriptorIndex := 25, attributes := #[] }, { accessFlags := 9, nameIndex := 42, descriptorIndex := 43, attributes := #[] }] 49 2 #[] #[])
  fields := #[]
  methods := #[k1m0, k1m1, k1m2, k1m3]
  instanceTypes := #[]
  staticTypes := #[]
  resolved := Array.replicate 46 none
  statics := none }

def pool2 : Array CpInfo := pool [(1, .class_ 2), (0, u "com/example/attestrail/attestrail/json/JsonValue"), (0, .class_ 4), (0, u "java/lang/Object")] 13

/-- com/example/attestrail/attestrail/json/JsonValue -/
def k2 : Class := { plain "com/example/attestrail/attestrail/json/JsonValue" (some 0) with
  accessFlags := 1537
  interfaces := #[]
  cf := some (fileOf pool2 1 #[] #[] 1537 3 #[] #[])
  fields := #[]
  methods := #[]
  instanceTypes := #[]
  staticTypes := #[]
  resolved := Array.replicate 18 none
  statics := none }

def pool3 : Array CpInfo := pool [(1, .methodref 2 3), (0, .class_ 4), (0, .nameAndType 5 6), (0, u "com/example/attestrail/attestrail/json/JsonString"), (0, u "<init>"), (0, u "(Ljava/lang/String;Z)V"), (0, .methodref 8 9), (0, .class_ 10), (0, .nameAndType 5 11), (0, u "java/lang/Object"), (0, u "()V"), (0, .methodref 2 13), (0, .nameAndType 14 15), (0, u "requireWellFormed"), (0, u "(Ljava/lang/String;)Ljava/lang/String;"), (0, .fieldref 2 17), (0, .nameAndType 18 19), (0, u "value"), (0, u "Ljava/lang/String;"), (0, .methodref 21 22), (0, .class_ 23), (0, .nameAndType 24 25), (0, u "java/lang/String"), (0, u "equals"), (0, u "(Ljava/lang/Object;)Z"), (3, u "()I"), (4, u "text"), (1, .string 34), (0, .methodref 38 39), (0, .class_ 40), (0, .nameAndType 41 42), (0, u "java/util/Objects"), (0, u "requireNonNull"), (0, u "(Ljava/lang/Object;Ljava/lang/String;)Ljava/lang/Object;"), (0, .methodref 21 44), (0, .nameAndType 45 29), (0, u "length"), (0, .methodref 21 47), (0, .nameAndType 48 49), (0, u "charAt"), (0, u "(I)C"), (0, .methodref 51 52), (0, .class_ 53), (0, .nameAndType 54 55), (0, u "java/lang/Character"), (0, u "isHighSurrogate"), (0, u "(C)Z"), (3, .methodref 51 60), (0, .nameAndType 61 55), (0, u "isSurrogate"), (8, u "(Ljava/lang/String;)V"), (0, .class_ 72), (0, u "com/example/attestrail/attestrail/json/JsonValue")] 24

def k3c0 : Code := { maxStack := 3, maxLocals := 2, code := prog_134_method_1_code, exceptionTable := #[], attributes := #[] }
def k3m0 : Method := { name := "<init>", desc := "(Ljava/lang/String;)V", sig := { parameters := [(.object "java/lang/String")], returnType := none }, accessFlags := 1, code := some k3c0 }
def k3c1 : Code := { maxStack := 2, maxLocals := 3, code := prog_134_method_2_code, exceptionTable := #[], attributes := #[] }
def k3m1 : Method := { name := "<init>", desc := "(Ljava/lang/String;Z)V", sig := { parameters := [(.object "java/lang/String"), .boolean], returnType := none }, accessFlags := 2, code := some k3c1 }
def k3c2 : Code := { maxStack := 2, maxLocals := 3, code := prog_134_method_5_code, exceptionTable := #[], attributes := #[] }
def k3m2 : Method := { name := "equals", desc := "(Ljava/lang/Object;)Z", sig := { parameters := [(.object "java/lang/Object")], returnType := some .boolean }, accessFlags := 1, code := some k3c2 }
def k3c3 : Code := { maxStack := 3, maxLocals := 3, code := prog_134_method_8_code, exceptionTable := #[], attributes := #[] }
def k3m3 : Method := { name := "requireWellFormed", desc := "(Ljava/lang/String;)Ljava/lang/String;", sig := { parameters := [(.object "java/lang/String")], returnType := some (.object "java/lang/String") }, accessFlags := 8, code := some k3c3 }
/-- com/example/attestrail/attestrail/json/JsonString -/
def k3 : Class := { plain "com/example/attestrail/attestrail/json/JsonString" (some 0) with
  accessFlags := 49
  interfaces := #[2]
  cf := some (fileOf pool3 2 #[] #[{ accessFlags := 1, nameIndex := 5, descriptorIndex := 70, attributes := #[] }, { accessFlags := 2, nameIndex := 5, descriptorIndex := 6, attributes := #[] }, { accessFlags := 1, nameIndex := 24, descriptorIndex := 25, attributes := #[] }, { accessFlags := 8, nameIndex := 14, descriptorIndex := 15, attributes := #[] }] 49 8 #[71] #[{ accessFlags := 18, nameIndex := 18, descriptorIndex := 19, attributes := #[] }])
  fields := #[{ name := "value", type := (.object "java/lang/String"), accessFlags := 18, slot := 0, constantValue := 0 }]
  methods := #[k3m0, k3m1, k3m2, k3m3]
  instanceTypes := #[(.object "java/lang/String")]
  staticTypes := #[]
  resolved := Array.replicate 97 none
  statics := none }

def pool4 : Array CpInfo := pool [(1, .class_ 2), (0, u "java/io/Serializable"), (0, .class_ 4), (0, u "java/lang/Object")] 2

/-- java/io/Serializable -/
def k4 : Class := { plain "java/io/Serializable" (some 0) with
  accessFlags := 1537
  interfaces := #[]
  cf := some (fileOf pool4 1 #[] #[] 1537 3 #[] #[])
  fields := #[]
  methods := #[]
  instanceTypes := #[]
  staticTypes := #[]
  resolved := Array.replicate 7 none
  statics := none }

def pool5 : Array CpInfo := pool [(1, .class_ 2), (0, u "java/lang/Comparable"), (0, .class_ 4), (0, u "java/lang/Object")] 7

/-- java/lang/Comparable -/
def k5 : Class := { plain "java/lang/Comparable" (some 0) with
  accessFlags := 1537
  interfaces := #[]
  cf := some (fileOf pool5 1 #[] #[] 1537 3 #[] #[])
  fields := #[]
  methods := #[]
  instanceTypes := #[]
  staticTypes := #[]
  resolved := Array.replicate 12 none
  statics := none }

def pool6 : Array CpInfo := pool [(2, .class_ 4), (1, u "java/lang/CharSequence"), (42, .class_ 48), (0, u "java/lang/CharSequence$1CodePointIterator"), (10, .class_ 60), (0, u "java/lang/CharSequence$1CharIterator"), (5, .class_ 67), (0, u "java/lang/Object")] 63

/-- java/lang/CharSequence -/
def k6 : Class := { plain "java/lang/CharSequence" (some 0) with
  accessFlags := 1537
  interfaces := #[]
  cf := some (fileOf pool6 2 #[.nestMembers #[47, 59]] #[] 1537 66 #[] #[])
  fields := #[]
  methods := #[]
  instanceTypes := #[]
  staticTypes := #[]
  resolved := Array.replicate 131 none
  statics := none }

def pool7 : Array CpInfo := pool [(1, .class_ 2), (0, u "java/lang/constant/Constable"), (0, .class_ 4), (0, u "java/lang/Object")] 6

/-- java/lang/constant/Constable -/
def k7 : Class := { plain "java/lang/constant/Constable" (some 0) with
  accessFlags := 1537
  interfaces := #[]
  cf := some (fileOf pool7 1 #[] #[] 1537 3 #[] #[])
  fields := #[]
  methods := #[]
  instanceTypes := #[]
  staticTypes := #[]
  resolved := Array.replicate 11 none
  statics := none }

def pool8 : Array CpInfo := pool [(1, .class_ 2), (0, u "java/lang/constant/ConstantDesc"), (0, .class_ 4), (0, u "java/lang/Object")] 32

/-- java/lang/constant/ConstantDesc -/
def k8 : Class := { plain "java/lang/constant/ConstantDesc" (some 0) with
  accessFlags := 1537
  interfaces := #[]
  cf := some (fileOf pool8 1 #[] #[] 1537 3 #[] #[])
  fields := #[]
  methods := #[]
  instanceTypes := #[]
  staticTypes := #[]
  resolved := Array.replicate 37 none
  statics := none }

def pool9 : Array CpInfo := pool [(1, .methodref 2 3), (0, .class_ 4), (0, .nameAndType 5 6), (0, u "java/lang/Object"), (0, u "<init>"), (0, u "()V"), (0, .string 8), (0, u ""), (0, .fieldref 10 11), (0, .class_ 12), (0, .nameAndType 13 14), (0, u "java/lang/String"), (0, u "value"), (0, u "[B"), (0, .fieldref 10 16), (0, .nameAndType 17 18), (0, u "coder"), (0, u "B"), (2, u "hash"), (0, u "I"), (2, u "hashIsZero"), (0, u "Z"), (0, .methodref 10 28), (0, .nameAndType 5 29), (0, u "([CIILjava/lang/Void;)V"), (8, .fieldref 10 39), (0, .nameAndType 40 26), (0, u "COMPACT_STRINGS"), (1, .class_ 44), (1, u "java/lang/StringUTF16"), (0, u "compress"), (1, .methodref 42 48), (0, .nameAndType 49 50), (0, u "coderFromArrayLen"), (0, u "([BI)B"), (56, .class_ 109), (1, u "java/lang/StringLatin1"), (32, u "()Z"), (34, .methodref 42 178), (0, .nameAndType 45 179), (0, u "([CII)[B"), (154, u "()I"), (0, .methodref 10 336), (0, .nameAndType 17 337), (0, u "()B"), (25, u "([BI)C"), (27, u "(II)V"), (35, u "(I)C"), (64, .methodref 10 493), (0, .nameAndType 494 142), (0, u "isLatin1"), (0, .methodref 107 496), (0, .nameAndType 497 363), (0, u "charAt"), (0, .methodref 42 496), (2, u "checkIndex"), (5, u "length"), (33, .methodref 107 542), (0, .nameAndType 543 544), (0, u "equals"), (0, u "([B[B)Z"), (28, u "(Ljava/lang/Object;)Z"), (1, .class_ 576), (0, u "java/lang/CharSequence"), (22, u "CASE_INSENSITIVE_ORDER"), (0, u "Ljava/util/Comparator;"), (409, u "([C)V"), (42, .fieldref 1054 1055), (0, .class_ 1056), (0, .nameAndType 1057 1058), (0, u "jdk/internal/util/Preconditions"), (0, u "SIOOBE_FORMATTER"), (0, u "Ljava/util/function/BiFunction;"), (0, .methodref 1054 1060), (0, .nameAndType 501 1061), (0, u "(IILjava/util/function/BiFunction;)I"), (39, u "serialPersistentFields"), (0, u "[Ljava/io/ObjectStreamField;"), (0, .class_ 1104), (0, u "java/lang/String$CaseInsensitiveComparator"), (1, .class_ 1107), (0, u "java/io/Serializable"), (0, .class_ 1109), (0, u "java/lang/Comparable"), (0, .class_ 1111), (0, u "java/lang/constant/Constable"), (0, .class_ 1113), (0, u "java/lang/constant/ConstantDesc"), (2, u "serialVersionUID"), (0, u "J"), (3, u "REPL"), (0, u "C"), (2, u "LATIN1"), (1, u "UTF16")] 323

def k9m0 : Method := { name := "<init>", desc := "()V", sig := { parameters := [], returnType := none }, accessFlags := 1, code := none }
def k9c1 : Code := { maxStack := 5, maxLocals := 2, code := jdk_42_method_3_code, exceptionTable := #[], attributes := #[] }
def k9m1 : Method := { name := "<init>", desc := "([C)V", sig := { parameters := [(.array .char)], returnType := none }, accessFlags := 1, code := some k9c1 }
def k9c2 : Code := { maxStack := 2, maxLocals := 1, code := jdk_42_method_54_code, exceptionTable := #[], attributes := #[] }
def k9m2 : Method := { name := "length", desc := "()I", sig := { parameters := [], returnType := some .int }, accessFlags := 1, code := some k9c2 }
def k9c3 : Code := { maxStack := 2, maxLocals := 2, code := jdk_42_method_56_code, exceptionTable := #[], attributes := #[] }
def k9m3 : Method := { name := "charAt", desc := "(I)C", sig := { parameters := [.int], returnType := some .char }, accessFlags := 1, code := some k9c3 }
def k9c4 : Code := { maxStack := 2, maxLocals := 3, code := jdk_42_method_66_code, exceptionTable := #[], attributes := #[] }
def k9m4 : Method := { name := "equals", desc := "(Ljava/lang/Object;)Z", sig := { parameters := [(.object "java/lang/Object")], returnType := some .boolean }, accessFlags := 1, code := some k9c4 }
def k9c5 : Code := { maxStack := 4, maxLocals := 6, code := jdk_42_method_149_code, exceptionTable := #[], attributes := #[] }
def k9m5 : Method := { name := "<init>", desc := "([CIILjava/lang/Void;)V", sig := { parameters := [(.array .char), .int, .int, (.object "java/lang/Void")], returnType := none }, accessFlags := 2, code := some k9c5 }
def k9c6 : Code := { maxStack := 1, maxLocals := 1, code := jdk_42_method_152_code, exceptionTable := #[], attributes := #[] }
def k9m6 : Method := { name := "coder", desc := "()B", sig := { parameters := [], returnType := some .byte }, accessFlags := 0, code := some k9c6 }
def k9c7 : Code := { maxStack := 1, maxLocals := 1, code := jdk_42_method_154_code, exceptionTable := #[], attributes := #[] }
def k9m7 : Method := { name := "isLatin1", desc := "()Z", sig := { parameters := [], returnType := some .boolean }, accessFlags := 0, code := some k9c7 }
def k9c8 : Code := { maxStack := 3, maxLocals := 2, code := jdk_42_method_155_code, exceptionTable := #[], attributes := #[] }
def k9m8 : Method := { name := "checkIndex", desc := "(II)V", sig := { parameters := [.int, .int], returnType := none }, accessFlags := 8, code := some k9c8 }
/-- java/lang/String -/
def k9 : Class := { plain "java/lang/String" (some 0) with
  accessFlags := 49
  interfaces := #[4, 5, 6, 7, 8]
  cf := some (fileOf pool9 10 #[.nestMembers #[1103]] #[{ accessFlags := 1, nameIndex := 5, descriptorIndex := 6, attributes := #[] }, { accessFlags := 1, nameIndex := 5, descriptorIndex := 1010, attributes := #[] }, { accessFlags := 1, nameIndex := 507, descriptorIndex := 334, attributes := #[] }, { accessFlags := 1, nameIndex := 497, descriptorIndex := 427, attributes := #[] }, { accessFlags := 1, nameIndex := 543, descriptorIndex := 573, attributes := #[] }, { accessFlags := 2, nameIndex := 5, descriptorIndex := 29, attributes := #[] }, { accessFlags := 0, nameIndex := 17, descriptorIndex := 337, attributes := #[] }, { accessFlags := 0, nameIndex := 494, descriptorIndex := 142, attributes := #[] }, { accessFlags := 8, nameIndex := 501, descriptorIndex := 391, attributes := #[] }] 49 2 #[1106, 1108, 575, 1110, 1112] #[{ accessFlags := 18, nameIndex := 13, descriptorIndex := 14, attributes := #[] }, { accessFlags := 18, nameIndex := 17, descriptorIndex := 18, attributes := #[] }, { accessFlags := 2, nameIndex := 21, descriptorIndex := 22, attributes := #[] }, { accessFlags := 2, nameIndex := 25, descriptorIndex := 26, attributes := #[] }, { accessFlags := 26, nameIndex := 1116, descriptorIndex := 1117, attributes := #[] }, { accessFlags := 24, nameIndex := 40, descriptorIndex := 26, attributes := #[] }, { accessFlags := 26, nameIndex := 1101, descriptorIndex := 1102, attributes := #[] }, { accessFlags := 26, nameIndex := 1121, descriptorIndex := 1122, attributes := #[] }, { accessFlags := 25, nameIndex := 599, descriptorIndex := 600, attributes := #[] }, { accessFlags := 24, nameIndex := 1125, descriptorIndex := 18, attributes := #[] }, { accessFlags := 24, nameIndex := 1127, descriptorIndex := 18, attributes := #[] }])
  fields := #[{ name := "value", type := (.array .byte), accessFlags := 18, slot := 0, constantValue := 0 }, { name := "coder", type := .byte, accessFlags := 18, slot := 1, constantValue := 0 }, { name := "hash", type := .int, accessFlags := 2, slot := 2, constantValue := 0 }, { name := "hashIsZero", type := .boolean, accessFlags := 2, slot := 3, constantValue := 0 }, { name := "serialVersionUID", type := .long, accessFlags := 26, slot := 0, constantValue := 0 }, { name := "COMPACT_STRINGS", type := .boolean, accessFlags := 24, slot := 1, constantValue := 0 }, { name := "serialPersistentFields", type := (.array (.object "java/io/ObjectStreamField")), accessFlags := 26, slot := 2, constantValue := 0 }, { name := "REPL", type := .char, accessFlags := 26, slot := 3, constantValue := 0 }, { name := "CASE_INSENSITIVE_ORDER", type := (.object "java/util/Comparator"), accessFlags := 25, slot := 4, constantValue := 0 }, { name := "LATIN1", type := .byte, accessFlags := 24, slot := 5, constantValue := 0 }, { name := "UTF16", type := .byte, accessFlags := 24, slot := 6, constantValue := 0 }]
  methods := #[k9m0, k9m1, k9m2, k9m3, k9m4, k9m5, k9m6, k9m7, k9m8]
  instanceTypes := #[(.array .byte), .byte, .int, .boolean]
  staticTypes := #[.long, .boolean, (.array (.object "java/io/ObjectStreamField")), .char, (.object "java/util/Comparator"), .byte, .byte]
  resolved := Array.replicate 1451 none
  statics := some 0 }

def pool10 : Array CpInfo := pool [(2, .class_ 4), (1, u "java/lang/Object"), (0, u "<init>"), (0, u "()V"), (35, .class_ 44), (1, u "java/util/Objects"), (0, u "requireNonNull"), (48, u "(Ljava/lang/Object;Ljava/lang/String;)Ljava/lang/Object;")] 89

def k10m0 : Method := { name := "<init>", desc := "()V", sig := { parameters := [], returnType := none }, accessFlags := 2, code := none }
def k10c1 : Code := { maxStack := 3, maxLocals := 2, code := jdk_31_method_11_code, exceptionTable := #[], attributes := #[] }
def k10m1 : Method := { name := "requireNonNull", desc := "(Ljava/lang/Object;Ljava/lang/String;)Ljava/lang/Object;", sig := { parameters := [(.object "java/lang/Object"), (.object "java/lang/String")], returnType := some (.object "java/lang/Object") }, accessFlags := 9, code := some k10c1 }
/-- java/util/Objects -/
def k10 : Class := { plain "java/util/Objects" (some 0) with
  accessFlags := 49
  interfaces := #[]
  cf := some (fileOf pool10 42 #[] #[{ accessFlags := 2, nameIndex := 5, descriptorIndex := 6, attributes := #[] }, { accessFlags := 9, nameIndex := 45, descriptorIndex := 94, attributes := #[] }] 49 2 #[] #[])
  fields := #[]
  methods := #[k10m0, k10m1]
  instanceTypes := #[]
  staticTypes := #[]
  resolved := Array.replicate 184 none
  statics := none }

def pool11 : Array CpInfo := pool [(1, .class_ 2), (0, u "java/lang/String"), (1, .class_ 6), (1, u "java/lang/Object"), (0, u "<init>"), (0, u "()V"), (0, .methodref 1 10), (0, .nameAndType 11 12), (0, u "checkIndex"), (0, u "(II)V"), (1, .class_ 16), (1, u "java/lang/StringLatin1"), (36, u "([BI)C"), (67, u "$assertionsDisabled"), (0, u "Z"), (98, .class_ 223), (1, u "java/lang/StringLatin1$LinesSpliterator"), (28, u "charAt"), (28, u "equals"), (0, u "([B[B)Z"), (107, .class_ 391), (0, u "java/lang/StringLatin1$CharsSpliterator")] 3

def k11m0 : Method := { name := "<init>", desc := "()V", sig := { parameters := [], returnType := none }, accessFlags := 0, code := none }
def k11c1 : Code := { maxStack := 2, maxLocals := 2, code := jdk_43_method_2_code, exceptionTable := #[], attributes := #[] }
def k11m1 : Method := { name := "charAt", desc := "([BI)C", sig := { parameters := [(.array .byte), .int], returnType := some .char }, accessFlags := 9, code := some k11c1 }
def k11c2 : Code := { maxStack := 3, maxLocals := 3, code := jdk_43_method_13_code, exceptionTable := #[], attributes := #[] }
def k11m2 : Method := { name := "equals", desc := "([B[B)Z", sig := { parameters := [(.array .byte), (.array .byte)], returnType := some .boolean }, accessFlags := 9, code := some k11c2 }
/-- java/lang/StringLatin1 -/
def k11 : Class := { plain "java/lang/StringLatin1" (some 0) with
  accessFlags := 48
  interfaces := #[]
  cf := some (fileOf pool11 14 #[.nestMembers #[390, 221]] #[{ accessFlags := 0, nameIndex := 7, descriptorIndex := 8, attributes := #[] }, { accessFlags := 9, nameIndex := 252, descriptorIndex := 53, attributes := #[] }, { accessFlags := 9, nameIndex := 281, descriptorIndex := 282, attributes := #[] }] 48 4 #[] #[{ accessFlags := 4120, nameIndex := 121, descriptorIndex := 122, attributes := #[] }])
  fields := #[{ name := "$assertionsDisabled", type := .boolean, accessFlags := 4120, slot := 0, constantValue := 0 }]
  methods := #[k11m0, k11m1, k11m2]
  instanceTypes := #[]
  staticTypes := #[.boolean]
  resolved := Array.replicate 395 none
  statics := none }

def pool12 : Array CpInfo := pool [(3, .class_ 4), (0, u "java/lang/String"), (1, .class_ 8), (1, u "java/lang/Object"), (0, u "<init>"), (0, u "()V"), (0, .methodref 12 13), (0, .class_ 14), (0, .nameAndType 15 16), (0, u "java/lang/StringUTF16"), (0, u "newBytesLength"), (0, u "(I)I"), (3, .integer 1073741823), (23, .fieldref 12 45), (0, .nameAndType 46 47), (0, u "$assertionsDisabled"), (0, u "Z"), (0, .methodref 12 49), (0, .nameAndType 50 51), (0, u "length"), (0, u "([B)I"), (7, .fieldref 12 60), (0, .nameAndType 61 62), (0, u "HI_BYTE_SHIFT"), (0, u "I"), (0, .fieldref 12 64), (0, .nameAndType 65 62), (0, u "LO_BYTE_SHIFT"), (1, .methodref 12 68), (0, .nameAndType 69 70), (0, u "checkIndex"), (0, u "(I[B)V"), (0, .methodref 12 72), (0, .nameAndType 73 74), (0, u "getChar"), (0, u "([BI)C"), (32, .methodref 12 108), (0, .nameAndType 109 110), (0, u "newBytesFor"), (0, u "(I)[B"), (0, .methodref 12 112), (0, .nameAndType 113 114), (0, u "putChar"), (0, u "([BII)V"), (0, .methodref 12 116), (0, .nameAndType 117 118), (0, u "compress"), (0, u "([CI[BII)I"), (0, .methodref 12 120), (0, .nameAndType 121 122), (0, u "toBytes"), (0, u "([CII)[B"), (138, u "coderFromArrayLen"), (0, u "([BI)B"), (106, .class_ 371), (1, u "java/lang/StringUTF16$LinesSpliterator"), (20, u "charAt"), (21, .methodref 3 415), (0, .nameAndType 69 416), (0, u "(II)V"), (13, u "MAX_LENGTH"), (196, .class_ 628), (0, u "java/lang/StringUTF16$CodePointsSpliterator"), (0, .class_ 630), (0, u "java/lang/StringUTF16$CharsSpliterator")] 4

def k12m0 : Method := { name := "<init>", desc := "()V", sig := { parameters := [], returnType := none }, accessFlags := 0, code := none }
def k12c1 : Code := { maxStack := 1, maxLocals := 1, code := jdk_52_method_2_code, exceptionTable := #[], attributes := #[] }
def k12m1 : Method := { name := "newBytesFor", desc := "(I)[B", sig := { parameters := [.int], returnType := some (.array .byte) }, accessFlags := 9, code := some k12c1 }
def k12c2 : Code := { maxStack := 4, maxLocals := 1, code := jdk_52_method_3_code, exceptionTable := #[], attributes := #[] }
def k12m2 : Method := { name := "newBytesLength", desc := "(I)I", sig := { parameters := [.int], returnType := some .int }, accessFlags := 9, code := some k12c2 }
def k12c3 : Code := { maxStack := 4, maxLocals := 3, code := jdk_52_method_4_code, exceptionTable := #[], attributes := #[] }
def k12m3 : Method := { name := "putChar", desc := "([BII)V", sig := { parameters := [(.array .byte), .int, .int], returnType := none }, accessFlags := 8, code := some k12c3 }
def k12c4 : Code := { maxStack := 3, maxLocals := 2, code := jdk_52_method_5_code, exceptionTable := #[], attributes := #[] }
def k12m4 : Method := { name := "getChar", desc := "([BI)C", sig := { parameters := [(.array .byte), .int], returnType := some .char }, accessFlags := 8, code := some k12c4 }
def k12c5 : Code := { maxStack := 2, maxLocals := 1, code := jdk_52_method_6_code, exceptionTable := #[], attributes := #[] }
def k12m5 : Method := { name := "length", desc := "([B)I", sig := { parameters := [(.array .byte)], returnType := some .int }, accessFlags := 9, code := some k12c5 }
def k12c6 : Code := { maxStack := 4, maxLocals := 5, code := jdk_52_method_14_code, exceptionTable := #[], attributes := #[] }
def k12m6 : Method := { name := "toBytes", desc := "([CII)[B", sig := { parameters := [(.array .char), .int, .int], returnType := some (.array .byte) }, accessFlags := 9, code := some k12c6 }
def k12c7 : Code := { maxStack := 2, maxLocals := 2, code := jdk_52_method_15_code, exceptionTable := #[], attributes := #[] }
def k12m7 : Method := { name := "coderFromArrayLen", desc := "([BI)B", sig := { parameters := [(.array .byte), .int], returnType := some .byte }, accessFlags := 8, code := some k12c7 }
def k12c8 : Code := { maxStack := 5, maxLocals := 6, code := jdk_52_method_16_code, exceptionTable := #[], attributes := #[] }
def k12m8 : Method := { name := "compress", desc := "([CII)[B", sig := { parameters := [(.array .char), .int, .int], returnType := some (.array .byte) }, accessFlags := 9, code := some k12c8 }
def k12c9 : Code := { maxStack := 3, maxLocals := 7, code := jdk_52_method_21_code, exceptionTable := #[], attributes := #[] }
def k12m9 : Method := { name := "compress", desc := "([CI[BII)I", sig := { parameters := [(.array .char), .int, (.array .byte), .int, .int], returnType := some .int }, accessFlags := 9, code := some k12c9 }
def k12c10 : Code := { maxStack := 2, maxLocals := 2, code := jdk_52_method_83_code, exceptionTable := #[], attributes := #[] }
def k12m10 : Method := { name := "charAt", desc := "([BI)C", sig := { parameters := [(.array .byte), .int], returnType := some .char }, accessFlags := 9, code := some k12c10 }
def k12c11 : Code := { maxStack := 2, maxLocals := 2, code := jdk_52_method_91_code, exceptionTable := #[], attributes := #[] }
def k12m11 : Method := { name := "checkIndex", desc := "(I[B)V", sig := { parameters := [.int, (.array .byte)], returnType := none }, accessFlags := 9, code := some k12c11 }
/-- java/lang/StringUTF16 -/
def k12 : Class := { plain "java/lang/StringUTF16" (some 0) with
  accessFlags := 48
  interfaces := #[]
  cf := some (fileOf pool12 12 #[.nestMembers #[627, 629, 369]] #[{ accessFlags := 0, nameIndex := 9, descriptorIndex := 10, attributes := #[] }, { accessFlags := 9, nameIndex := 109, descriptorIndex := 110, attributes := #[] }, { accessFlags := 9, nameIndex := 15, descriptorIndex := 16, attributes := #[] }, { accessFlags := 8, nameIndex := 113, descriptorIndex := 114, attributes := #[] }, { accessFlags := 8, nameIndex := 73, descriptorIndex := 74, attributes := #[] }, { accessFlags := 9, nameIndex := 50, descriptorIndex := 51, attributes := #[] }, { accessFlags := 9, nameIndex := 121, descriptorIndex := 122, attributes := #[] }, { accessFlags := 8, nameIndex := 261, descriptorIndex := 262, attributes := #[] }, { accessFlags := 9, nameIndex := 117, descriptorIndex := 122, attributes := #[] }, { accessFlags := 9, nameIndex := 117, descriptorIndex := 118, attributes := #[] }, { accessFlags := 9, nameIndex := 392, descriptorIndex := 74, attributes := #[] }, { accessFlags := 9, nameIndex := 69, descriptorIndex := 70, attributes := #[] }] 48 6 #[] #[{ accessFlags := 26, nameIndex := 61, descriptorIndex := 62, attributes := #[] }, { accessFlags := 26, nameIndex := 65, descriptorIndex := 62, attributes := #[] }, { accessFlags := 24, nameIndex := 430, descriptorIndex := 62, attributes := #[] }, { accessFlags := 4120, nameIndex := 46, descriptorIndex := 47, attributes := #[] }])
  fields := #[{ name := "HI_BYTE_SHIFT", type := .int, accessFlags := 26, slot := 0, constantValue := 0 }, { name := "LO_BYTE_SHIFT", type := .int, accessFlags := 26, slot := 1, constantValue := 0 }, { name := "MAX_LENGTH", type := .int, accessFlags := 24, slot := 2, constantValue := 0 }, { name := "$assertionsDisabled", type := .boolean, accessFlags := 4120, slot := 3, constantValue := 0 }]
  methods := #[k12m0, k12m1, k12m2, k12m3, k12m4, k12m5, k12m6, k12m7, k12m8, k12m9, k12m10, k12m11]
  instanceTypes := #[]
  staticTypes := #[.int, .int, .int, .boolean]
  resolved := Array.replicate 635 none
  statics := some 1 }

def pool13 : Array CpInfo := pool [(2, .class_ 4), (1, u "java/lang/Object"), (0, u "<init>"), (0, u "()V"), (17, .class_ 26), (1, u "jdk/internal/util/Preconditions"), (6, u "checkIndex"), (21, .class_ 56), (0, u "jdk/internal/util/Preconditions$4"), (57, .class_ 115), (0, u "jdk/internal/util/Preconditions$1"), (7, u "SIOOBE_FORMATTER"), (0, u "Ljava/util/function/BiFunction;"), (0, .class_ 126), (0, u "jdk/internal/util/Preconditions$2"), (3, u "AIOOBE_FORMATTER"), (0, .class_ 132), (0, u "jdk/internal/util/Preconditions$3"), (3, u "IOOBE_FORMATTER"), (41, u "(IILjava/util/function/BiFunction;)I")] 15

def k13m0 : Method := { name := "<init>", desc := "()V", sig := { parameters := [], returnType := none }, accessFlags := 1, code := none }
def k13c1 : Code := { maxStack := 3, maxLocals := 3, code := jdk_41_method_11_code, exceptionTable := #[], attributes := #[] }
def k13m1 : Method := { name := "checkIndex", desc := "(IILjava/util/function/BiFunction;)I", sig := { parameters := [.int, .int, (.object "java/util/function/BiFunction")], returnType := some .int }, accessFlags := 9, code := some k13c1 }
/-- jdk/internal/util/Preconditions -/
def k13 : Class := { plain "jdk/internal/util/Preconditions" (some 0) with
  accessFlags := 33
  interfaces := #[]
  cf := some (fileOf pool13 24 #[.nestMembers #[55, 131, 125, 114]] #[{ accessFlags := 1, nameIndex := 5, descriptorIndex := 6, attributes := #[] }, { accessFlags := 9, nameIndex := 33, descriptorIndex := 178, attributes := #[] }] 33 2 #[] #[{ accessFlags := 25, nameIndex := 123, descriptorIndex := 124, attributes := #[] }, { accessFlags := 25, nameIndex := 130, descriptorIndex := 124, attributes := #[] }, { accessFlags := 25, nameIndex := 136, descriptorIndex := 124, attributes := #[] }])
  fields := #[{ name := "SIOOBE_FORMATTER", type := (.object "java/util/function/BiFunction"), accessFlags := 25, slot := 0, constantValue := 0 }, { name := "AIOOBE_FORMATTER", type := (.object "java/util/function/BiFunction"), accessFlags := 25, slot := 1, constantValue := 0 }, { name := "IOOBE_FORMATTER", type := (.object "java/util/function/BiFunction"), accessFlags := 25, slot := 2, constantValue := 0 }]
  methods := #[k13m0, k13m1]
  instanceTypes := #[]
  staticTypes := #[(.object "java/util/function/BiFunction"), (.object "java/util/function/BiFunction"), (.object "java/util/function/BiFunction")]
  resolved := Array.replicate 194 none
  statics := some 2 }

def pool14 : Array CpInfo := pool [(1, .class_ 2), (0, u "java/lang/Character"), (18, u "value"), (0, u "C"), (19, .class_ 44), (1, u "java/lang/Object"), (3, .class_ 50), (1, u "java/lang/Character$CharacterCache"), (24, .integer 55296), (4, u "isHighSurrogate"), (0, u "(C)Z"), (202, u "$assertionsDisabled"), (0, u "Z"), (21, .class_ 309), (1, u "java/lang/Character$UnicodeBlock"), (73, u "TYPE"), (0, u "Ljava/lang/Class;"), (0, .class_ 386), (0, u "java/io/Serializable"), (0, .class_ 388), (0, u "java/lang/Comparable"), (0, .class_ 390), (0, u "java/lang/constant/Constable"), (0, u "MIN_RADIX"), (0, u "I"), (2, u "MAX_RADIX"), (1, u "MIN_VALUE"), (1, u "MAX_VALUE"), (3, u "UNASSIGNED"), (0, u "B"), (0, u "UPPERCASE_LETTER"), (1, u "LOWERCASE_LETTER"), (0, u "TITLECASE_LETTER"), (1, u "MODIFIER_LETTER"), (1, u "OTHER_LETTER"), (1, u "NON_SPACING_MARK"), (1, u "ENCLOSING_MARK"), (1, u "COMBINING_SPACING_MARK"), (1, u "DECIMAL_DIGIT_NUMBER"), (1, u "LETTER_NUMBER"), (1, u "OTHER_NUMBER"), (1, u "SPACE_SEPARATOR"), (1, u "LINE_SEPARATOR"), (1, u "PARAGRAPH_SEPARATOR"), (1, u "CONTROL"), (1, u "FORMAT"), (1, u "PRIVATE_USE"), (1, u "SURROGATE"), (1, u "DASH_PUNCTUATION"), (1, u "START_PUNCTUATION"), (1, u "END_PUNCTUATION"), (1, u "CONNECTOR_PUNCTUATION"), (1, u "OTHER_PUNCTUATION"), (1, u "MATH_SYMBOL"), (1, u "CURRENCY_SYMBOL"), (1, u "MODIFIER_SYMBOL"), (1, u "OTHER_SYMBOL"), (1, u "INITIAL_QUOTE_PUNCTUATION"), (1, u "FINAL_QUOTE_PUNCTUATION"), (1, u "ERROR"), (1, u "DIRECTIONALITY_UNDEFINED"), (0, u "DIRECTIONALITY_LEFT_TO_RIGHT"), (0, u "DIRECTIONALITY_RIGHT_TO_LEFT"), (0, u "DIRECTIONALITY_RIGHT_TO_LEFT_ARABIC"), (0, u "DIRECTIONALITY_EUROPEAN_NUMBER"), (0, u "DIRECTIONALITY_EUROPEAN_NUMBER_SEPARATOR"), (0, u "DIRECTIONALITY_EUROPEAN_NUMBER_TERMINATOR"), (0, u "DIRECTIONALITY_ARABIC_NUMBER"), (0, u "DIRECTIONALITY_COMMON_NUMBER_SEPARATOR"), (0, u "DIRECTIONALITY_NONSPACING_MARK"), (0, u "DIRECTIONALITY_BOUNDARY_NEUTRAL"), (0, u "DIRECTIONALITY_PARAGRAPH_SEPARATOR"), (0, u "DIRECTIONALITY_SEGMENT_SEPARATOR"), (0, u "DIRECTIONALITY_WHITESPACE"), (0, u "DIRECTIONALITY_OTHER_NEUTRALS"), (0, u "DIRECTIONALITY_LEFT_TO_RIGHT_EMBEDDING"), (0, u "DIRECTIONALITY_LEFT_TO_RIGHT_OVERRIDE"), (0, u "DIRECTIONALITY_RIGHT_TO_LEFT_EMBEDDING"), (0, u "DIRECTIONALITY_RIGHT_TO_LEFT_OVERRIDE"), (1, u "DIRECTIONALITY_POP_DIRECTIONAL_FORMAT"), (0, u "DIRECTIONALITY_LEFT_TO_RIGHT_ISOLATE"), (0, u "DIRECTIONALITY_RIGHT_TO_LEFT_ISOLATE"), (0, u "DIRECTIONALITY_FIRST_STRONG_ISOLATE"), (0, u "DIRECTIONALITY_POP_DIRECTIONAL_ISOLATE"), (0, u "MIN_HIGH_SURROGATE"), (0, u "MAX_HIGH_SURROGATE"), (1, u "MIN_LOW_SURROGATE"), (0, u "MAX_LOW_SURROGATE"), (1, u "MIN_SURROGATE"), (0, u "MAX_SURROGATE"), (0, u "MIN_SUPPLEMENTARY_CODE_POINT"), (0, u "MIN_CODE_POINT"), (0, u "MAX_CODE_POINT"), (1, u "serialVersionUID"), (0, u "J"), (2, u "SIZE"), (0, u "BYTES"), (24, u "isSurrogate"), (63, .class_ 596), (0, u "java/lang/Character$UnicodeScript"), (0, .class_ 598), (0, u "java/lang/Character$Subset")] 5

def k14c0 : Code := { maxStack := 2, maxLocals := 1, code := jdk_89_method_14_code, exceptionTable := #[], attributes := #[] }
def k14m0 : Method := { name := "isHighSurrogate", desc := "(C)Z", sig := { parameters := [.char], returnType := some .boolean }, accessFlags := 9, code := some k14c0 }
def k14c1 : Code := { maxStack := 2, maxLocals := 1, code := jdk_89_method_16_code, exceptionTable := #[], attributes := #[] }
def k14m1 : Method := { name := "isSurrogate", desc := "(C)Z", sig := { parameters := [.char], returnType := some .boolean }, accessFlags := 9, code := some k14c1 }
/-- java/lang/Character -/
def k14 : Class := { plain "java/lang/Character" (some 0) with
  accessFlags := 49
  interfaces := #[4, 5, 7]
  cf := some (fileOf pool14 1 #[.nestMembers #[48, 595, 307, 597]] #[{ accessFlags := 9, nameIndex := 80, descriptorIndex := 81, attributes := #[] }, { accessFlags := 9, nameIndex := 531, descriptorIndex := 81, attributes := #[] }] 49 42 #[385, 387, 389] #[{ accessFlags := 25, nameIndex := 391, descriptorIndex := 392, attributes := #[] }, { accessFlags := 25, nameIndex := 395, descriptorIndex := 392, attributes := #[] }, { accessFlags := 25, nameIndex := 397, descriptorIndex := 22, attributes := #[] }, { accessFlags := 25, nameIndex := 399, descriptorIndex := 22, attributes := #[] }, { accessFlags := 25, nameIndex := 383, descriptorIndex := 384, attributes := #[] }, { accessFlags := 25, nameIndex := 403, descriptorIndex := 404, attributes := #[] }, { accessFlags := 25, nameIndex := 405, descriptorIndex := 404, attributes := #[] }, { accessFlags := 25, nameIndex := 407, descriptorIndex := 404, attributes := #[] }, { accessFlags := 25, nameIndex := 408, descriptorIndex := 404, attributes := #[] }, { accessFlags := 25, nameIndex := 410, descriptorIndex := 404, attributes := #[] }, { accessFlags := 25, nameIndex := 412, descriptorIndex := 404, attributes := #[] }, { accessFlags := 25, nameIndex := 414, descriptorIndex := 404, attributes := #[] }, { accessFlags := 25, nameIndex := 416, descriptorIndex := 404, attributes := #[] }, { accessFlags := 25, nameIndex := 418, descriptorIndex := 404, attributes := #[] }, { accessFlags := 25, nameIndex := 420, descriptorIndex := 404, attributes := #[] }, { accessFlags := 25, nameIndex := 422, descriptorIndex := 404, attributes := #[] }, { accessFlags := 25, nameIndex := 424, descriptorIndex := 404, attributes := #[] }, { accessFlags := 25, nameIndex := 426, descriptorIndex := 404, attributes := #[] }, { accessFlags := 25, nameIndex := 428, descriptorIndex := 404, attributes := #[] }, { accessFlags := 25, nameIndex := 430, descriptorIndex := 404, attributes := #[] }, { accessFlags := 25, nameIndex := 432, descriptorIndex := 404, attributes := #[] }, { accessFlags := 25, nameIndex := 434, descriptorIndex := 404, attributes := #[] }, { accessFlags := 25, nameIndex := 436, descriptorIndex := 404, attributes := #[] }, { accessFlags := 25, nameIndex := 438, descriptorIndex := 404, attributes := #[] }, { accessFlags := 25, nameIndex := 440, descriptorIndex := 404, attributes := #[] }, { accessFlags := 25, nameIndex := 442, descriptorIndex := 404, attributes := #[] }, { accessFlags := 25, nameIndex := 444, descriptorIndex := 404, attributes := #[] }, { accessFlags := 25, nameIndex := 446, descriptorIndex := 404, attributes := #[] }, { accessFlags := 25, nameIndex := 448, descriptorIndex := 404, attributes := #[] }, { accessFlags := 25, nameIndex := 450, descriptorIndex := 404, attributes := #[] }, { accessFlags := 25, nameIndex := 452, descriptorIndex := 404, attributes := #[] }, { accessFlags := 25, nameIndex := 454, descriptorIndex := 404, attributes := #[] }, { accessFlags := 25, nameIndex := 456, descriptorIndex := 404, attributes := #[] }, { accessFlags := 25, nameIndex := 458, descriptorIndex := 404, attributes := #[] }, { accessFlags := 25, nameIndex := 460, descriptorIndex := 404, attributes := #[] }, { accessFlags := 24, nameIndex := 462, descriptorIndex := 392, attributes := #[] }, { accessFlags := 25, nameIndex := 464, descriptorIndex := 404, attributes := #[] }, { accessFlags := 25, nameIndex := 465, descriptorIndex := 404, attributes := #[] }, { accessFlags := 25, nameIndex := 466, descriptorIndex := 404, attributes := #[] }, { accessFlags := 25, nameIndex := 467, descriptorIndex := 404, attributes := #[] }, { accessFlags := 25, nameIndex := 468, descriptorIndex := 404, attributes := #[] }, { accessFlags := 25, nameIndex := 469, descriptorIndex := 404, attributes := #[] }, { accessFlags := 25, nameIndex := 470, descriptorIndex := 404, attributes := #[] }, { accessFlags := 25, nameIndex := 471, descriptorIndex := 404, attributes := #[] }, { accessFlags := 25, nameIndex := 472, descriptorIndex := 404, attributes := #[] }, { accessFlags := 25, nameIndex := 473, descriptorIndex := 404, attributes := #[] }, { accessFlags := 25, nameIndex := 474, descriptorIndex := 404, attributes := #[] }, { accessFlags := 25, nameIndex := 475, descriptorIndex := 404, attributes := #[] }, { accessFlags := 25, nameIndex := 476, descriptorIndex := 404, attributes := #[] }, { accessFlags := 25, nameIndex := 477, descriptorIndex := 404, attributes := #[] }, { accessFlags := 25, nameIndex := 478, descriptorIndex := 404, attributes := #[] }, { accessFlags := 25, nameIndex := 479, descriptorIndex := 404, attributes := #[] }, { accessFlags := 25, nameIndex := 480, descriptorIndex := 404, attributes := #[] }, { accessFlags := 25, nameIndex := 481, descriptorIndex := 404, attributes := #[] }, { accessFlags := 25, nameIndex := 482, descriptorIndex := 404, attributes := #[] }, { accessFlags := 25, nameIndex := 484, descriptorIndex := 404, attributes := #[] }, { accessFlags := 25, nameIndex := 485, descriptorIndex := 404, attributes := #[] }, { accessFlags := 25, nameIndex := 486, descriptorIndex := 404, attributes := #[] }, { accessFlags := 25, nameIndex := 487, descriptorIndex := 404, attributes := #[] }, { accessFlags := 25, nameIndex := 488, descriptorIndex := 404, attributes := #[] }, { accessFlags := 25, nameIndex := 489, descriptorIndex := 22, attributes := #[] }, { accessFlags := 25, nameIndex := 490, descriptorIndex := 22, attributes := #[] }, { accessFlags := 25, nameIndex := 492, descriptorIndex := 22, attributes := #[] }, { accessFlags := 25, nameIndex := 493, descriptorIndex := 22, attributes := #[] }, { accessFlags := 25, nameIndex := 495, descriptorIndex := 22, attributes := #[] }, { accessFlags := 25, nameIndex := 496, descriptorIndex := 22, attributes := #[] }, { accessFlags := 25, nameIndex := 497, descriptorIndex := 392, attributes := #[] }, { accessFlags := 25, nameIndex := 498, descriptorIndex := 392, attributes := #[] }, { accessFlags := 25, nameIndex := 499, descriptorIndex := 392, attributes := #[] }, { accessFlags := 18, nameIndex := 21, descriptorIndex := 22, attributes := #[] }, { accessFlags := 26, nameIndex := 501, descriptorIndex := 502, attributes := #[] }, { accessFlags := 25, nameIndex := 505, descriptorIndex := 392, attributes := #[] }, { accessFlags := 25, nameIndex := 506, descriptorIndex := 392, attributes := #[] }, { accessFlags := 4120, nameIndex := 284, descriptorIndex := 285, attributes := #[] }])
  fields := #[{ name := "MIN_RADIX", type := .int, accessFlags := 25, slot := 0, constantValue := 0 }, { name := "MAX_RADIX", type := .int, accessFlags := 25, slot := 1, constantValue := 0 }, { name := "MIN_VALUE", type := .char, accessFlags := 25, slot := 2, constantValue := 0 }, { name := "MAX_VALUE", type := .char, accessFlags := 25, slot := 3, constantValue := 0 }, { name := "TYPE", type := (.object "java/lang/Class"), accessFlags := 25, slot := 4, constantValue := 0 }, { name := "UNASSIGNED", type := .byte, accessFlags := 25, slot := 5, constantValue := 0 }, { name := "UPPERCASE_LETTER", type := .byte, accessFlags := 25, slot := 6, constantValue := 0 }, { name := "LOWERCASE_LETTER", type := .byte, accessFlags := 25, slot := 7, constantValue := 0 }, { name := "TITLECASE_LETTER", type := .byte, accessFlags := 25, slot := 8, constantValue := 0 }, { name := "MODIFIER_LETTER", type := .byte, accessFlags := 25, slot := 9, constantValue := 0 }, { name := "OTHER_LETTER", type := .byte, accessFlags := 25, slot := 10, constantValue := 0 }, { name := "NON_SPACING_MARK", type := .byte, accessFlags := 25, slot := 11, constantValue := 0 }, { name := "ENCLOSING_MARK", type := .byte, accessFlags := 25, slot := 12, constantValue := 0 }, { name := "COMBINING_SPACING_MARK", type := .byte, accessFlags := 25, slot := 13, constantValue := 0 }, { name := "DECIMAL_DIGIT_NUMBER", type := .byte, accessFlags := 25, slot := 14, constantValue := 0 }, { name := "LETTER_NUMBER", type := .byte, accessFlags := 25, slot := 15, constantValue := 0 }, { name := "OTHER_NUMBER", type := .byte, accessFlags := 25, slot := 16, constantValue := 0 }, { name := "SPACE_SEPARATOR", type := .byte, accessFlags := 25, slot := 17, constantValue := 0 }, { name := "LINE_SEPARATOR", type := .byte, accessFlags := 25, slot := 18, constantValue := 0 }, { name := "PARAGRAPH_SEPARATOR", type := .byte, accessFlags := 25, slot := 19, constantValue := 0 }, { name := "CONTROL", type := .byte, accessFlags := 25, slot := 20, constantValue := 0 }, { name := "FORMAT", type := .byte, accessFlags := 25, slot := 21, constantValue := 0 }, { name := "PRIVATE_USE", type := .byte, accessFlags := 25, slot := 22, constantValue := 0 }, { name := "SURROGATE", type := .byte, accessFlags := 25, slot := 23, constantValue := 0 }, { name := "DASH_PUNCTUATION", type := .byte, accessFlags := 25, slot := 24, constantValue := 0 }, { name := "START_PUNCTUATION", type := .byte, accessFlags := 25, slot := 25, constantValue := 0 }, { name := "END_PUNCTUATION", type := .byte, accessFlags := 25, slot := 26, constantValue := 0 }, { name := "CONNECTOR_PUNCTUATION", type := .byte, accessFlags := 25, slot := 27, constantValue := 0 }, { name := "OTHER_PUNCTUATION", type := .byte, accessFlags := 25, slot := 28, constantValue := 0 }, { name := "MATH_SYMBOL", type := .byte, accessFlags := 25, slot := 29, constantValue := 0 }, { name := "CURRENCY_SYMBOL", type := .byte, accessFlags := 25, slot := 30, constantValue := 0 }, { name := "MODIFIER_SYMBOL", type := .byte, accessFlags := 25, slot := 31, constantValue := 0 }, { name := "OTHER_SYMBOL", type := .byte, accessFlags := 25, slot := 32, constantValue := 0 }, { name := "INITIAL_QUOTE_PUNCTUATION", type := .byte, accessFlags := 25, slot := 33, constantValue := 0 }, { name := "FINAL_QUOTE_PUNCTUATION", type := .byte, accessFlags := 25, slot := 34, constantValue := 0 }, { name := "ERROR", type := .int, accessFlags := 24, slot := 35, constantValue := 0 }, { name := "DIRECTIONALITY_UNDEFINED", type := .byte, accessFlags := 25, slot := 36, constantValue := 0 }, { name := "DIRECTIONALITY_LEFT_TO_RIGHT", type := .byte, accessFlags := 25, slot := 37, constantValue := 0 }, { name := "DIRECTIONALITY_RIGHT_TO_LEFT", type := .byte, accessFlags := 25, slot := 38, constantValue := 0 }, { name := "DIRECTIONALITY_RIGHT_TO_LEFT_ARABIC", type := .byte, accessFlags := 25, slot := 39, constantValue := 0 }, { name := "DIRECTIONALITY_EUROPEAN_NUMBER", type := .byte, accessFlags := 25, slot := 40, constantValue := 0 }, { name := "DIRECTIONALITY_EUROPEAN_NUMBER_SEPARATOR", type := .byte, accessFlags := 25, slot := 41, constantValue := 0 }, { name := "DIRECTIONALITY_EUROPEAN_NUMBER_TERMINATOR", type := .byte, accessFlags := 25, slot := 42, constantValue := 0 }, { name := "DIRECTIONALITY_ARABIC_NUMBER", type := .byte, accessFlags := 25, slot := 43, constantValue := 0 }, { name := "DIRECTIONALITY_COMMON_NUMBER_SEPARATOR", type := .byte, accessFlags := 25, slot := 44, constantValue := 0 }, { name := "DIRECTIONALITY_NONSPACING_MARK", type := .byte, accessFlags := 25, slot := 45, constantValue := 0 }, { name := "DIRECTIONALITY_BOUNDARY_NEUTRAL", type := .byte, accessFlags := 25, slot := 46, constantValue := 0 }, { name := "DIRECTIONALITY_PARAGRAPH_SEPARATOR", type := .byte, accessFlags := 25, slot := 47, constantValue := 0 }, { name := "DIRECTIONALITY_SEGMENT_SEPARATOR", type := .byte, accessFlags := 25, slot := 48, constantValue := 0 }, { name := "DIRECTIONALITY_WHITESPACE", type := .byte, accessFlags := 25, slot := 49, constantValue := 0 }, { name := "DIRECTIONALITY_OTHER_NEUTRALS", type := .byte, accessFlags := 25, slot := 50, constantValue := 0 }, { name := "DIRECTIONALITY_LEFT_TO_RIGHT_EMBEDDING", type := .byte, accessFlags := 25, slot := 51, constantValue := 0 }, { name := "DIRECTIONALITY_LEFT_TO_RIGHT_OVERRIDE", type := .byte, accessFlags := 25, slot := 52, constantValue := 0 }, { name := "DIRECTIONALITY_RIGHT_TO_LEFT_EMBEDDING", type := .byte, accessFlags := 25, slot := 53, constantValue := 0 }, { name := "DIRECTIONALITY_RIGHT_TO_LEFT_OVERRIDE", type := .byte, accessFlags := 25, slot := 54, constantValue := 0 }, { name := "DIRECTIONALITY_POP_DIRECTIONAL_FORMAT", type := .byte, accessFlags := 25, slot := 55, constantValue := 0 }, { name := "DIRECTIONALITY_LEFT_TO_RIGHT_ISOLATE", type := .byte, accessFlags := 25, slot := 56, constantValue := 0 }, { name := "DIRECTIONALITY_RIGHT_TO_LEFT_ISOLATE", type := .byte, accessFlags := 25, slot := 57, constantValue := 0 }, { name := "DIRECTIONALITY_FIRST_STRONG_ISOLATE", type := .byte, accessFlags := 25, slot := 58, constantValue := 0 }, { name := "DIRECTIONALITY_POP_DIRECTIONAL_ISOLATE", type := .byte, accessFlags := 25, slot := 59, constantValue := 0 }, { name := "MIN_HIGH_SURROGATE", type := .char, accessFlags := 25, slot := 60, constantValue := 0 }, { name := "MAX_HIGH_SURROGATE", type := .char, accessFlags := 25, slot := 61, constantValue := 0 }, { name := "MIN_LOW_SURROGATE", type := .char, accessFlags := 25, slot := 62, constantValue := 0 }, { name := "MAX_LOW_SURROGATE", type := .char, accessFlags := 25, slot := 63, constantValue := 0 }, { name := "MIN_SURROGATE", type := .char, accessFlags := 25, slot := 64, constantValue := 0 }, { name := "MAX_SURROGATE", type := .char, accessFlags := 25, slot := 65, constantValue := 0 }, { name := "MIN_SUPPLEMENTARY_CODE_POINT", type := .int, accessFlags := 25, slot := 66, constantValue := 0 }, { name := "MIN_CODE_POINT", type := .int, accessFlags := 25, slot := 67, constantValue := 0 }, { name := "MAX_CODE_POINT", type := .int, accessFlags := 25, slot := 68, constantValue := 0 }, { name := "value", type := .char, accessFlags := 18, slot := 0, constantValue := 0 }, { name := "serialVersionUID", type := .long, accessFlags := 26, slot := 69, constantValue := 0 }, { name := "SIZE", type := .int, accessFlags := 25, slot := 70, constantValue := 0 }, { name := "BYTES", type := .int, accessFlags := 25, slot := 71, constantValue := 0 }, { name := "$assertionsDisabled", type := .boolean, accessFlags := 4120, slot := 72, constantValue := 0 }]
  methods := #[k14m0, k14m1]
  instanceTypes := #[.char]
  staticTypes := #[.int, .int, .char, .char, (.object "java/lang/Class"), .byte, .byte, .byte, .byte, .byte, .byte, .byte, .byte, .byte, .byte, .byte, .byte, .byte, .byte, .byte, .byte, .byte, .byte, .byte, .byte, .byte, .byte, .byte, .byte, .byte, .byte, .byte, .byte, .byte, .byte, .int, .byte, .byte, .byte, .byte, .byte, .byte, .byte, .byte, .byte, .byte, .byte, .byte, .byte, .byte, .byte, .byte, .byte, .byte, .byte, .byte, .byte, .byte, .byte, .byte, .char, .char, .char, .char, .char, .char, .int, .int, .int, .long, .int, .int, .boolean]
  resolved := Array.replicate 604 none
  statics := none }

def pool15 : Array CpInfo := pool [(2, .class_ 4), (1, u "java/lang/Enum"), (0, u "name"), (0, u "Ljava/lang/String;"), (2, u "ordinal"), (0, u "I"), (1, .class_ 14), (1, u "java/lang/Object"), (4, u "hash"), (86, .class_ 108), (1, u "java/lang/Enum$EnumDesc"), (2, .class_ 112), (0, u "java/lang/constant/Constable"), (0, .class_ 114), (0, u "java/lang/Comparable"), (0, .class_ 116), (0, u "java/io/Serializable")] 87

/-- java/lang/Enum -/
def k15 : Class := { plain "java/lang/Enum" (some 0) with
  accessFlags := 1057
  interfaces := #[7, 5, 4]
  cf := some (fileOf pool15 2 #[.nestMembers #[106]] #[] 1057 12 #[111, 113, 115] #[{ accessFlags := 18, nameIndex := 5, descriptorIndex := 6, attributes := #[] }, { accessFlags := 18, nameIndex := 9, descriptorIndex := 10, attributes := #[] }, { accessFlags := 2, nameIndex := 19, descriptorIndex := 10, attributes := #[] }])
  fields := #[{ name := "name", type := (.object "java/lang/String"), accessFlags := 18, slot := 0, constantValue := 0 }, { name := "ordinal", type := .int, accessFlags := 18, slot := 1, constantValue := 0 }, { name := "hash", type := .int, accessFlags := 2, slot := 2, constantValue := 0 }]
  methods := #[]
  instanceTypes := #[(.object "java/lang/String"), .int, .int]
  staticTypes := #[]
  resolved := Array.replicate 204 none
  statics := none }

def pool16 : Array CpInfo := pool [(1, .class_ 2), (0, u "com/example/attestrail/attestrail/json/JsonLiteral"), (2, u "TRUE"), (0, u "Lcom/example/attestrail/attestrail/json/JsonLiteral;"), (2, u "FALSE"), (2, u "NULL"), (2, u "$VALUES"), (0, u "[Lcom/example/attestrail/attestrail/json/JsonLiteral;"), (6, .class_ 25), (1, u "java/lang/Enum"), (8, u "text"), (0, u "Ljava/lang/String;"), (16, .class_ 53), (0, u "com/example/attestrail/attestrail/json/JsonValue")] 17

/-- com/example/attestrail/attestrail/json/JsonLiteral -/
def k16 : Class := { plain "com/example/attestrail/attestrail/json/JsonLiteral" (some 15) with
  accessFlags := 16433
  interfaces := #[2]
  cf := some (fileOf pool16 1 #[] #[] 16433 23 #[52] #[{ accessFlags := 16409, nameIndex := 5, descriptorIndex := 6, attributes := #[] }, { accessFlags := 16409, nameIndex := 9, descriptorIndex := 6, attributes := #[] }, { accessFlags := 16409, nameIndex := 12, descriptorIndex := 6, attributes := #[] }, { accessFlags := 18, nameIndex := 34, descriptorIndex := 35, attributes := #[] }, { accessFlags := 4122, nameIndex := 15, descriptorIndex := 16, attributes := #[] }])
  fields := #[{ name := "TRUE", type := (.object "com/example/attestrail/attestrail/json/JsonLiteral"), accessFlags := 16409, slot := 0, constantValue := 0 }, { name := "FALSE", type := (.object "com/example/attestrail/attestrail/json/JsonLiteral"), accessFlags := 16409, slot := 1, constantValue := 0 }, { name := "NULL", type := (.object "com/example/attestrail/attestrail/json/JsonLiteral"), accessFlags := 16409, slot := 2, constantValue := 0 }, { name := "text", type := (.object "java/lang/String"), accessFlags := 18, slot := 3, constantValue := 0 }, { name := "$VALUES", type := (.array (.object "com/example/attestrail/attestrail/json/JsonLiteral")), accessFlags := 4122, slot := 3, constantValue := 0 }]
  methods := #[]
  instanceTypes := #[(.object "java/lang/String"), .int, .int, (.object "java/lang/String")]
  staticTypes := #[(.object "com/example/attestrail/attestrail/json/JsonLiteral"), (.object "com/example/attestrail/attestrail/json/JsonLiteral"), (.object "com/example/attestrail/attestrail/json/JsonLiteral"), (.array (.object "com/example/attestrail/attestrail/json/JsonLiteral"))]
  resolved := Array.replicate 71 none
  statics := some 3 }

def pool17 : Array CpInfo := pool [(9, u "<init>"), (6, .class_ 18), (1, u "java/lang/Object"), (0, u "()V"), (1, .class_ 23), (1, u "jdk/internal/util/ArraysSupport"), (0, u "LOG2_ARRAY_LONG_INDEX_SCALE"), (0, u "I"), (2, u "U"), (0, u "Ljdk/internal/misc/Unsafe;"), (8, u "BIG_ENDIAN"), (0, u "Z"), (8, u "LOG2_BYTE_BIT_SIZE"), (4, u "LOG2_ARRAY_INT_INDEX_SCALE"), (54, u "JLA"), (0, u "Ljdk/internal/access/JavaLangAccess;"), (11, u "LOG2_ARRAY_BOOLEAN_INDEX_SCALE"), (9, u "LOG2_ARRAY_BYTE_INDEX_SCALE"), (5, u "LOG2_ARRAY_CHAR_INDEX_SCALE"), (5, u "LOG2_ARRAY_SHORT_INDEX_SCALE"), (18, u "LOG2_ARRAY_FLOAT_INDEX_SCALE"), (24, u "LOG2_ARRAY_DOUBLE_INDEX_SCALE"), (89, u "T_BOOLEAN"), (2, u "T_CHAR"), (1, u "T_FLOAT"), (1, u "T_DOUBLE"), (1, u "T_BYTE"), (1, u "T_SHORT"), (1, u "T_INT"), (1, u "T_LONG"), (1, u "SOFT_MAX_ARRAY_LENGTH")] 83

def k17m0 : Method := { name := "<init>", desc := "()V", sig := { parameters := [], returnType := none }, accessFlags := 2, code := none }
/-- jdk/internal/util/ArraysSupport -/
def k17 : Class := { plain "jdk/internal/util/ArraysSupport" (some 0) with
  accessFlags := 33
  interfaces := #[]
  cf := some (fileOf pool17 21 #[] #[{ accessFlags := 2, nameIndex := 9, descriptorIndex := 19, attributes := #[] }] 33 16 #[] #[{ accessFlags := 24, nameIndex := 28, descriptorIndex := 29, attributes := #[] }, { accessFlags := 26, nameIndex := 38, descriptorIndex := 39, attributes := #[] }, { accessFlags := 25, nameIndex := 121, descriptorIndex := 25, attributes := #[] }, { accessFlags := 25, nameIndex := 131, descriptorIndex := 25, attributes := #[] }, { accessFlags := 25, nameIndex := 137, descriptorIndex := 25, attributes := #[] }, { accessFlags := 25, nameIndex := 143, descriptorIndex := 25, attributes := #[] }, { accessFlags := 25, nameIndex := 53, descriptorIndex := 25, attributes := #[] }, { accessFlags := 25, nameIndex := 24, descriptorIndex := 25, attributes := #[] }, { accessFlags := 25, nameIndex := 162, descriptorIndex := 25, attributes := #[] }, { accessFlags := 25, nameIndex := 187, descriptorIndex := 25, attributes := #[] }, { accessFlags := 26, nameIndex := 48, descriptorIndex := 25, attributes := #[] }, { accessFlags := 25, nameIndex := 277, descriptorIndex := 25, attributes := #[] }, { accessFlags := 25, nameIndex := 280, descriptorIndex := 25, attributes := #[] }, { accessFlags := 25, nameIndex := 282, descriptorIndex := 25, attributes := #[] }, { accessFlags := 25, nameIndex := 284, descriptorIndex := 25, attributes := #[] }, { accessFlags := 25, nameIndex := 286, descriptorIndex := 25, attributes := #[] }, { accessFlags := 25, nameIndex := 288, descriptorIndex := 25, attributes := #[] }, { accessFlags := 25, nameIndex := 290, descriptorIndex := 25, attributes := #[] }, { accessFlags := 25, nameIndex := 292, descriptorIndex := 25, attributes := #[] }, { accessFlags := 26, nameIndex := 108, descriptorIndex := 109, attributes := #[] }, { accessFlags := 25, nameIndex := 294, descriptorIndex := 25, attributes := #[] }])
  fields := #[{ name := "U", type := (.object "jdk/internal/misc/Unsafe"), accessFlags := 24, slot := 0, constantValue := 0 }, { name := "BIG_ENDIAN", type := .boolean, accessFlags := 26, slot := 1, constantValue := 0 }, { name := "LOG2_ARRAY_BOOLEAN_INDEX_SCALE", type := .int, accessFlags := 25, slot := 2, constantValue := 0 }, { name := "LOG2_ARRAY_BYTE_INDEX_SCALE", type := .int, accessFlags := 25, slot := 3, constantValue := 0 }, { name := "LOG2_ARRAY_CHAR_INDEX_SCALE", type := .int, accessFlags := 25, slot := 4, constantValue := 0 }, { name := "LOG2_ARRAY_SHORT_INDEX_SCALE", type := .int, accessFlags := 25, slot := 5, constantValue := 0 }, { name := "LOG2_ARRAY_INT_INDEX_SCALE", type := .int, accessFlags := 25, slot := 6, constantValue := 0 }, { name := "LOG2_ARRAY_LONG_INDEX_SCALE", type := .int, accessFlags := 25, slot := 7, constantValue := 0 }, { name := "LOG2_ARRAY_FLOAT_INDEX_SCALE", type := .int, accessFlags := 25, slot := 8, constantValue := 0 }, { name := "LOG2_ARRAY_DOUBLE_INDEX_SCALE", type := .int, accessFlags := 25, slot := 9, constantValue := 0 }, { name := "LOG2_BYTE_BIT_SIZE", type := .int, accessFlags := 26, slot := 10, constantValue := 0 }, { name := "T_BOOLEAN", type := .int, accessFlags := 25, slot := 11, constantValue := 0 }, { name := "T_CHAR", type := .int, accessFlags := 25, slot := 12, constantValue := 0 }, { name := "T_FLOAT", type := .int, accessFlags := 25, slot := 13, constantValue := 0 }, { name := "T_DOUBLE", type := .int, accessFlags := 25, slot := 14, constantValue := 0 }, { name := "T_BYTE", type := .int, accessFlags := 25, slot := 15, constantValue := 0 }, { name := "T_SHORT", type := .int, accessFlags := 25, slot := 16, constantValue := 0 }, { name := "T_INT", type := .int, accessFlags := 25, slot := 17, constantValue := 0 }, { name := "T_LONG", type := .int, accessFlags := 25, slot := 18, constantValue := 0 }, { name := "JLA", type := (.object "jdk/internal/access/JavaLangAccess"), accessFlags := 26, slot := 19, constantValue := 0 }, { name := "SOFT_MAX_ARRAY_LENGTH", type := .int, accessFlags := 25, slot := 20, constantValue := 0 }]
  methods := #[k17m0]
  instanceTypes := #[]
  staticTypes := #[(.object "jdk/internal/misc/Unsafe"), .boolean, .int, .int, .int, .int, .int, .int, .int, .int, .int, .int, .int, .int, .int, .int, .int, .int, .int, (.object "jdk/internal/access/JavaLangAccess"), .int]
  resolved := Array.replicate 378 none
  statics := none }

def pool18 : Array CpInfo := pool [(1, u "java/lang/Cloneable"), (0, .class_ 1), (0, u "java/lang/Object"), (0, .class_ 3)] 3

/-- java/lang/Cloneable -/
def k18 : Class := { plain "java/lang/Cloneable" (some 0) with
  accessFlags := 1537
  interfaces := #[]
  cf := some (fileOf pool18 2 #[] #[] 1537 4 #[] #[])
  fields := #[]
  methods := #[]
  instanceTypes := #[]
  staticTypes := #[]
  resolved := Array.replicate 8 none
  statics := none }

/-- the primitive byte -/
def k19 : Class := { plain "byte" none with kind := .primitive 'B', accessFlags := 0x411 }
/-- [B -/
def k20 : Class := { plain "[B" (some 0) with kind := .array 19 .byte, interfaces := #[18, 4], accessFlags := 1041 }

/-- the primitive char -/
def k21 : Class := { plain "char" none with kind := .primitive 'C', accessFlags := 0x411 }
/-- [C -/
def k22 : Class := { plain "[C" (some 0) with kind := .array 21 .char, interfaces := #[18, 4], accessFlags := 1041 }

/-- the primitive int -/
def k23 : Class := { plain "int" none with kind := .primitive 'I', accessFlags := 0x411 }
/-- [I -/
def k24 : Class := { plain "[I" (some 0) with kind := .array 23 .int, interfaces := #[18, 4], accessFlags := 1041 }

def heap : Heap := #[{ cls := 9, slots := #[.long 0, .int 1, .null, .int 0, .null, .int 0, .int 0], vm := .statics 9 },
  { cls := 12, slots := #[.int 0, .int 8, .int 0, .int 1], vm := .statics 12 },
  { cls := 13, slots := #[.null, .null, .null], vm := .statics 13 },
  { cls := 16, slots := #[.null, .null, .ref 4, .null], vm := .statics 16 },
  { cls := 16, slots := #[.null, .int 2, .int 0, .null], vm := .none }]
def classes : Array Class := #[k0, k1, k2, k3, k4, k5, k6, k7, k8, k9, k10, k11, k12, k13, k14, k15, k16, k17, k18, k19, k20, k21, k22, k23, k24]
def interned : List (Array UInt16 × Addr) := []
def slotsUsed : Nat := 22
def theMethod : MethodId := ⟨1, 3⟩
def args0 : Array Value := #[.int 0, .int 3, .int 2, .int 1, .int 0]
def aboutOver (below : List Frame) : State where
  vm := { classes := classes, interned := interned.toArray }
  heap := heap
  slotsUsed := slotsUsed
  threads := #[{ frames := .invoking theMethod args0 :: below }]
def below0 : List Frame := [.native { method := ⟨0, 0⟩, args := #[] }]
def about1 : State := aboutOver below0
def p0 : Program := .bare "" "" ""
def e0 : Env := launch0.env 0 0 0
theorem w_frames : about1.frames = Frame.invoking theMethod args0 :: below0 := rfl
set_option maxRecDepth 65536 in
theorem w_args : argsFit about1.vm theMethod args0 = true := by decide +kernel
set_option maxRecDepth 65536 in
theorem w_heap : heapFits about1 = true := by decide +kernel
set_option maxRecDepth 65536 in
theorem w_runnable : about1.curStatus? = some .runnable := by decide +kernel
set_option maxRecDepth 65536 in
theorem w_alone : about1.alone = true := by decide +kernel
set_option maxRecDepth 65536 in
theorem w_named : about1.methodNamed? x = some theMethod := by decide +kernel
set_option maxRecDepth 65536 in
theorem w_hears : about1.hears theMethod below0 = true := by decide +kernel
set_option maxRecDepth 65536 in
theorem w_ripe : about1.ripe theMethod args0 below0 = true := by decide +kernel
theorem w_running : about1.status = .running := rfl
set_option maxRecDepth 65536 in
theorem w_room : about1.hasRoom e0.platform room_1 = true :=
  launch0.hasRoom_least _ room_1 (by decide +kernel) (by decide +kernel) (by decide +kernel) (by decide +kernel) (by decide +kernel) (by decide +kernel)
theorem allAtoms_all (ts : List Jvm.Cond) (a : Array Jvm.Value) (st : Jvm.State) : (allAtoms ts).before a st = ts.all (fun c => c.before a st) := by
  induction ts with
  | nil => rfl
  | cons c t ih =>
    show (Jvm.Cond.and c (allAtoms t)).before a st = _
    rw [Jvm.Cond.before_and, ih, List.all_cons]
def words1 : List Jvm.Cond := Jvm.Cond.code x code maxLocals ret :: tables_1
/-- a 'code' word, met by the world's own term for the bytes: nothing is compared byte by byte -/
theorem code_word {y : MethodName} {bytes : ByteArray} {mx : Nat} {rt : Option FieldType} {a : Array Value} {s : State} {m : MethodId} {meth : Method} {c : Code} (h1 : s.methodNamed? y = some m) (h2 : s.vm.method? m = some meth) (h3 : meth.code = some c) (h4 : c.code = bytes)
    (h5 : (c.maxLocals == mx && c.exceptionTable.isEmpty && decide (c.maxStack ≤ mostOperands) && decide (meth.sig.returnType = rt) && !meth.locks && decide (parseMethodDescriptor y.desc = some meth.sig)) = true) : (Jvm.Cond.code y bytes mx rt).before a s = true := by
  simp only [Bool.and_eq_true, beq_iff_eq, Bool.not_eq_true', decide_eq_true_eq] at h5
  obtain ⟨⟨⟨⟨⟨g1, g2⟩, g3⟩, g4⟩, g5⟩, g6⟩ := h5
  simp [Cond.before, Cond.holds, Cond.value, h1, h2, h3, h4, g1, g2, g3, g4, g5, g6]
def isCode : Jvm.Cond → Bool
  | .code _ _ _ _ => true
  | _ => false
theorem all_split {L : List Jvm.Cond} {P : Jvm.Cond → Bool} (h1 : L.all (fun c => isCode c || P c) = true) (h2 : ∀ c ∈ L.filter isCode, P c = true) : L.all P = true := by
  refine List.all_eq_true.mpr fun c hc => ?_
  have h := List.all_eq_true.mp h1 c hc
  rcases Bool.eq_false_or_eq_true (isCode c) with hi | hi
  · exact h2 c (List.mem_filter.mpr ⟨hc, hi⟩)
  · simpa [hi] using h
set_option maxRecDepth 65536 in
theorem w_c0 : (Jvm.Cond.code x code maxLocals ret).before args0 about1 = true := code_word (m := ⟨1, 3⟩) (meth := k1m3) (c := k1c3) (by decide +kernel) rfl rfl rfl (by decide +kernel)
set_option maxRecDepth 65536 in
theorem w_c1 : (Jvm.Cond.code ({ cls := "com/example/attestrail/attestrail/json/JsonStringEqualsPinLaw", name := "ch", desc := "(I)C" } : Jvm.MethodName) method_2_code (1 : Nat) (Option.some Jvm.ClassFile.FieldType.char)).before args0 about1 = true := code_word (m := ⟨1, 1⟩) (meth := k1m1) (c := k1c1) (by decide +kernel) rfl rfl rfl (by decide +kernel)
set_option maxRecDepth 65536 in
theorem w_c2 : (Jvm.Cond.code ({ cls := "com/example/attestrail/attestrail/json/JsonStringEqualsPinLaw", name := "str", desc := "(CCCI)Ljava/lang/String;" } : Jvm.MethodName) method_3_code (4 : Nat) (Option.some (Jvm.ClassFile.FieldType.object "java/lang/String"))).before args0 about1 = true := code_word (m := ⟨1, 2⟩) (meth := k1m2) (c := k1c2) (by decide +kernel) rfl rfl rfl (by decide +kernel)
set_option maxRecDepth 65536 in
theorem w_c3 : (Jvm.Cond.code ({ cls := "java/lang/String", name := "<init>", desc := "([C)V" } : Jvm.MethodName) jdk_42_method_3_code (2 : Nat) (Option.none : Option Jvm.ClassFile.FieldType)).before args0 about1 = true := code_word (m := ⟨9, 1⟩) (meth := k9m1) (c := k9c1) (by decide +kernel) rfl rfl rfl (by decide +kernel)
set_option maxRecDepth 65536 in
theorem w_c4 : (Jvm.Cond.code ({ cls := "java/lang/String", name := "<init>", desc := "([CIILjava/lang/Void;)V" } : Jvm.MethodName) jdk_42_method_149_code (6 : Nat) (Option.none : Option Jvm.ClassFile.FieldType)).before args0 about1 = true := code_word (m := ⟨9, 5⟩) (meth := k9m5) (c := k9c5) (by decide +kernel) rfl rfl rfl (by decide +kernel)
set_option maxRecDepth 65536 in
theorem w_c5 : (Jvm.Cond.code ({ cls := "java/lang/Object", name := "<init>", desc := "()V" } : Jvm.MethodName) object_method_1_code (1 : Nat) (Option.none : Option Jvm.ClassFile.FieldType)).before args0 about1 = true := code_word (m := ⟨0, 0⟩) (meth := k0m0) (c := k0c0) (by decide +kernel) rfl rfl rfl (by decide +kernel)
set_option maxRecDepth 65536 in
theorem w_c6 : (Jvm.Cond.code ({ cls := "com/example/attestrail/attestrail/json/JsonString", name := "<init>", desc := "(Ljava/lang/String;)V" } : Jvm.MethodName) prog_134_method_1_code (2 : Nat) (Option.none : Option Jvm.ClassFile.FieldType)).before args0 about1 = true := code_word (m := ⟨3, 0⟩) (meth := k3m0) (c := k3c0) (by decide +kernel) rfl rfl rfl (by decide +kernel)
set_option maxRecDepth 65536 in
theorem w_c7 : (Jvm.Cond.code ({ cls := "com/example/attestrail/attestrail/json/JsonString", name := "<init>", desc := "(Ljava/lang/String;Z)V" } : Jvm.MethodName) prog_134_method_2_code (3 : Nat) (Option.none : Option Jvm.ClassFile.FieldType)).before args0 about1 = true := code_word (m := ⟨3, 1⟩) (meth := k3m1) (c := k3c1) (by decide +kernel) rfl rfl rfl (by decide +kernel)
set_option maxRecDepth 65536 in
theorem w_c8 : (Jvm.Cond.code ({ cls := "com/example/attestrail/attestrail/json/JsonString", name := "requireWellFormed", desc := "(Ljava/lang/String;)Ljava/lang/String;" } : Jvm.MethodName) prog_134_method_8_code (3 : Nat) (Option.some (Jvm.ClassFile.FieldType.object "java/lang/String"))).before args0 about1 = true := code_word (m := ⟨3, 3⟩) (meth := k3m3) (c := k3c3) (by decide +kernel) rfl rfl rfl (by decide +kernel)
set_option maxRecDepth 65536 in
theorem w_c9 : (Jvm.Cond.code ({ cls := "java/util/Objects", name := "requireNonNull", desc := "(Ljava/lang/Object;Ljava/lang/String;)Ljava/lang/Object;" } : Jvm.MethodName) jdk_31_method_11_code (2 : Nat) (Option.some (Jvm.ClassFile.FieldType.object "java/lang/Object"))).before args0 about1 = true := code_word (m := ⟨10, 1⟩) (meth := k10m1) (c := k10c1) (by decide +kernel) rfl rfl rfl (by decide +kernel)
set_option maxRecDepth 65536 in
theorem w_c10 : (Jvm.Cond.code ({ cls := "java/lang/String", name := "length", desc := "()I" } : Jvm.MethodName) jdk_42_method_54_code (1 : Nat) (Option.some Jvm.ClassFile.FieldType.int)).before args0 about1 = true := code_word (m := ⟨9, 2⟩) (meth := k9m2) (c := k9c2) (by decide +kernel) rfl rfl rfl (by decide +kernel)
set_option maxRecDepth 65536 in
theorem w_c11 : (Jvm.Cond.code ({ cls := "java/lang/String", name := "coder", desc := "()B" } : Jvm.MethodName) jdk_42_method_152_code (1 : Nat) (Option.some Jvm.ClassFile.FieldType.byte)).before args0 about1 = true := code_word (m := ⟨9, 6⟩) (meth := k9m6) (c := k9c6) (by decide +kernel) rfl rfl rfl (by decide +kernel)
set_option maxRecDepth 65536 in
theorem w_c12 : (Jvm.Cond.code ({ cls := "com/example/attestrail/attestrail/json/JsonString", name := "equals", desc := "(Ljava/lang/Object;)Z" } : Jvm.MethodName) prog_134_method_5_code (3 : Nat) (Option.some Jvm.ClassFile.FieldType.boolean)).before args0 about1 = true := code_word (m := ⟨3, 2⟩) (meth := k3m2) (c := k3c2) (by decide +kernel) rfl rfl rfl (by decide +kernel)
set_option maxRecDepth 65536 in
theorem w_c13 : (Jvm.Cond.code ({ cls := "java/lang/String", name := "equals", desc := "(Ljava/lang/Object;)Z" } : Jvm.MethodName) jdk_42_method_66_code (3 : Nat) (Option.some Jvm.ClassFile.FieldType.boolean)).before args0 about1 = true := code_word (m := ⟨9, 4⟩) (meth := k9m4) (c := k9c4) (by decide +kernel) rfl rfl rfl (by decide +kernel)
set_option maxRecDepth 65536 in
theorem w_c14 : (Jvm.Cond.code ({ cls := "java/lang/StringLatin1", name := "equals", desc := "([B[B)Z" } : Jvm.MethodName) jdk_43_method_13_code (3 : Nat) (Option.some Jvm.ClassFile.FieldType.boolean)).before args0 about1 = true := code_word (m := ⟨11, 2⟩) (meth := k11m2) (c := k11c2) (by decide +kernel) rfl rfl rfl (by decide +kernel)
set_option maxRecDepth 65536 in
theorem w_c15 : (Jvm.Cond.code ({ cls := "java/lang/StringUTF16", name := "compress", desc := "([CII)[B" } : Jvm.MethodName) jdk_52_method_16_code (6 : Nat) (Option.some (Jvm.ClassFile.FieldType.array Jvm.ClassFile.FieldType.byte))).before args0 about1 = true := code_word (m := ⟨12, 8⟩) (meth := k12m8) (c := k12c8) (by decide +kernel) rfl rfl rfl (by decide +kernel)
set_option maxRecDepth 65536 in
theorem w_c16 : (Jvm.Cond.code ({ cls := "java/lang/StringUTF16", name := "compress", desc := "([CI[BII)I" } : Jvm.MethodName) jdk_52_method_21_code (7 : Nat) (Option.some Jvm.ClassFile.FieldType.int)).before args0 about1 = true := code_word (m := ⟨12, 9⟩) (meth := k12m9) (c := k12c9) (by decide +kernel) rfl rfl rfl (by decide +kernel)
set_option maxRecDepth 65536 in
theorem w_c17 : (Jvm.Cond.code ({ cls := "java/lang/StringUTF16", name := "coderFromArrayLen", desc := "([BI)B" } : Jvm.MethodName) jdk_52_method_15_code (2 : Nat) (Option.some Jvm.ClassFile.FieldType.byte)).before args0 about1 = true := code_word (m := ⟨12, 7⟩) (meth := k12m7) (c := k12c7) (by decide +kernel) rfl rfl rfl (by decide +kernel)
set_option maxRecDepth 65536 in
theorem w_c18 : (Jvm.Cond.code ({ cls := "java/lang/String", name := "charAt", desc := "(I)C" } : Jvm.MethodName) jdk_42_method_56_code (2 : Nat) (Option.some Jvm.ClassFile.FieldType.char)).before args0 about1 = true := code_word (m := ⟨9, 3⟩) (meth := k9m3) (c := k9c3) (by decide +kernel) rfl rfl rfl (by decide +kernel)
set_option maxRecDepth 65536 in
theorem w_c19 : (Jvm.Cond.code ({ cls := "java/lang/String", name := "isLatin1", desc := "()Z" } : Jvm.MethodName) jdk_42_method_154_code (1 : Nat) (Option.some Jvm.ClassFile.FieldType.boolean)).before args0 about1 = true := code_word (m := ⟨9, 7⟩) (meth := k9m7) (c := k9c7) (by decide +kernel) rfl rfl rfl (by decide +kernel)
set_option maxRecDepth 65536 in
theorem w_c20 : (Jvm.Cond.code ({ cls := "java/lang/StringLatin1", name := "charAt", desc := "([BI)C" } : Jvm.MethodName) jdk_43_method_2_code (2 : Nat) (Option.some Jvm.ClassFile.FieldType.char)).before args0 about1 = true := code_word (m := ⟨11, 1⟩) (meth := k11m1) (c := k11c1) (by decide +kernel) rfl rfl rfl (by decide +kernel)
set_option maxRecDepth 65536 in
theorem w_c21 : (Jvm.Cond.code ({ cls := "java/lang/String", name := "checkIndex", desc := "(II)V" } : Jvm.MethodName) jdk_42_method_155_code (2 : Nat) (Option.none : Option Jvm.ClassFile.FieldType)).before args0 about1 = true := code_word (m := ⟨9, 8⟩) (meth := k9m8) (c := k9c8) (by decide +kernel) rfl rfl rfl (by decide +kernel)
set_option maxRecDepth 65536 in
theorem w_c22 : (Jvm.Cond.code ({ cls := "jdk/internal/util/Preconditions", name := "checkIndex", desc := "(IILjava/util/function/BiFunction;)I" } : Jvm.MethodName) jdk_41_method_11_code (3 : Nat) (Option.some Jvm.ClassFile.FieldType.int)).before args0 about1 = true := code_word (m := ⟨13, 1⟩) (meth := k13m1) (c := k13c1) (by decide +kernel) rfl rfl rfl (by decide +kernel)
set_option maxRecDepth 65536 in
theorem w_c23 : (Jvm.Cond.code ({ cls := "java/lang/Character", name := "isHighSurrogate", desc := "(C)Z" } : Jvm.MethodName) jdk_89_method_14_code (1 : Nat) (Option.some Jvm.ClassFile.FieldType.boolean)).before args0 about1 = true := code_word (m := ⟨14, 0⟩) (meth := k14m0) (c := k14c0) (by decide +kernel) rfl rfl rfl (by decide +kernel)
set_option maxRecDepth 65536 in
theorem w_c24 : (Jvm.Cond.code ({ cls := "java/lang/Character", name := "isSurrogate", desc := "(C)Z" } : Jvm.MethodName) jdk_89_method_16_code (1 : Nat) (Option.some Jvm.ClassFile.FieldType.boolean)).before args0 about1 = true := code_word (m := ⟨14, 1⟩) (meth := k14m1) (c := k14c1) (by decide +kernel) rfl rfl rfl (by decide +kernel)
set_option maxRecDepth 65536 in
theorem w_c25 : (Jvm.Cond.code ({ cls := "java/lang/StringUTF16", name := "toBytes", desc := "([CII)[B" } : Jvm.MethodName) jdk_52_method_14_code (5 : Nat) (Option.some (Jvm.ClassFile.FieldType.array Jvm.ClassFile.FieldType.byte))).before args0 about1 = true := code_word (m := ⟨12, 6⟩) (meth := k12m6) (c := k12c6) (by decide +kernel) rfl rfl rfl (by decide +kernel)
set_option maxRecDepth 65536 in
theorem w_c26 : (Jvm.Cond.code ({ cls := "java/lang/StringUTF16", name := "newBytesFor", desc := "(I)[B" } : Jvm.MethodName) jdk_52_method_2_code (1 : Nat) (Option.some (Jvm.ClassFile.FieldType.array Jvm.ClassFile.FieldType.byte))).before args0 about1 = true := code_word (m := ⟨12, 1⟩) (meth := k12m1) (c := k12c1) (by decide +kernel) rfl rfl rfl (by decide +kernel)
set_option maxRecDepth 65536 in
theorem w_c27 : (Jvm.Cond.code ({ cls := "java/lang/StringUTF16", name := "newBytesLength", desc := "(I)I" } : Jvm.MethodName) jdk_52_method_3_code (1 : Nat) (Option.some Jvm.ClassFile.FieldType.int)).before args0 about1 = true := code_word (m := ⟨12, 2⟩) (meth := k12m2) (c := k12c2) (by decide +kernel) rfl rfl rfl (by decide +kernel)
set_option maxRecDepth 65536 in
theorem w_c28 : (Jvm.Cond.code ({ cls := "java/lang/StringUTF16", name := "putChar", desc := "([BII)V" } : Jvm.MethodName) jdk_52_method_4_code (3 : Nat) (Option.none : Option Jvm.ClassFile.FieldType)).before args0 about1 = true := code_word (m := ⟨12, 3⟩) (meth := k12m3) (c := k12c3) (by decide +kernel) rfl rfl rfl (by decide +kernel)
set_option maxRecDepth 65536 in
theorem w_c29 : (Jvm.Cond.code ({ cls := "java/lang/StringUTF16", name := "getChar", desc := "([BI)C" } : Jvm.MethodName) jdk_52_method_5_code (2 : Nat) (Option.some Jvm.ClassFile.FieldType.char)).before args0 about1 = true := code_word (m := ⟨12, 4⟩) (meth := k12m4) (c := k12c4) (by decide +kernel) rfl rfl rfl (by decide +kernel)
set_option maxRecDepth 65536 in
theorem w_c30 : (Jvm.Cond.code ({ cls := "java/lang/StringUTF16", name := "charAt", desc := "([BI)C" } : Jvm.MethodName) jdk_52_method_83_code (2 : Nat) (Option.some Jvm.ClassFile.FieldType.char)).before args0 about1 = true := code_word (m := ⟨12, 10⟩) (meth := k12m10) (c := k12c10) (by decide +kernel) rfl rfl rfl (by decide +kernel)
set_option maxRecDepth 65536 in
theorem w_c31 : (Jvm.Cond.code ({ cls := "java/lang/StringUTF16", name := "checkIndex", desc := "(I[B)V" } : Jvm.MethodName) jdk_52_method_91_code (2 : Nat) (Option.none : Option Jvm.ClassFile.FieldType)).before args0 about1 = true := code_word (m := ⟨12, 11⟩) (meth := k12m11) (c := k12c11) (by decide +kernel) rfl rfl rfl (by decide +kernel)
set_option maxRecDepth 65536 in
theorem w_c32 : (Jvm.Cond.code ({ cls := "java/lang/StringUTF16", name := "length", desc := "([B)I" } : Jvm.MethodName) jdk_52_method_6_code (1 : Nat) (Option.some Jvm.ClassFile.FieldType.int)).before args0 about1 = true := code_word (m := ⟨12, 5⟩) (meth := k12m5) (c := k12c5) (by decide +kernel) rfl rfl rfl (by decide +kernel)
def codes1 : List Jvm.Cond := [Jvm.Cond.code x code maxLocals ret, Jvm.Cond.code ({ cls := "com/example/attestrail/attestrail/json/JsonStringEqualsPinLaw", name := "ch", desc := "(I)C" } : Jvm.MethodName) method_2_code (1 : Nat) (Option.some Jvm.ClassFile.FieldType.char), Jvm.Cond.code ({ cls := "com/example/attestrail/attestrail/json/JsonStringEqualsPinLaw", name := "str", desc := "(CCCI)Ljava/lang/String;" } : Jvm.MethodName) method_3_code (4 : Nat) (Option.some (Jvm.ClassFile.FieldType.object "java/lang/String")), Jvm.Cond.code ({ cls := "java/lang/String", name := "<init>", desc := "([C)V" } : Jvm.MethodName) jdk_42_method_3_code (2 : Nat) (Option.none : Option Jvm.ClassFile.FieldType), Jvm.Cond.code ({ cls := "java/lang/String", name := "<init>", desc := "([CIILjava/lang/Void;)V" } : Jvm.MethodName) jdk_42_method_149_code (6 : Nat) (Option.none : Option Jvm.ClassFile.FieldType), Jvm.Cond.code ({ cls := "java/lang/Object", name := "<init>", desc := "()V" } : Jvm.MethodName) object_method_1_code (1 : Nat) (Option.none : Option Jvm.ClassFile.FieldType), Jvm.Cond.code ({ cls := "com/example/attestrail/attestrail/json/JsonString", name := "<init>", desc := "(Ljava/lang/String;)V" } : Jvm.MethodName) prog_134_method_1_code (2 : Nat) (Option.none : Option Jvm.ClassFile.FieldType), Jvm.Cond.code ({ cls := "com/example/attestrail/attestrail/json/JsonString", name := "<init>", desc := "(Ljava/lang/String;Z)V" } : Jvm.MethodName) prog_134_method_2_code (3 : Nat) (Option.none : Option Jvm.ClassFile.FieldType), Jvm.Cond.code ({ cls := "com/example/attestrail/attestrail/json/JsonString", name := "requireWellFormed", desc := "(Ljava/lang/String;)Ljava/lang/String;" } : Jvm.MethodName) prog_134_method_8_code (3 : Nat) (Option.some (Jvm.ClassFile.FieldType.object "java/lang/String")), Jvm.Cond.code ({ cls := "java/util/Objects", name := "requireNonNull", desc := "(Ljava/lang/Object;Ljava/lang/String;)Ljava/lang/Object;" } : Jvm.MethodName) jdk_31_method_11_code (2 : Nat) (Option.some (Jvm.ClassFile.FieldType.object "java/lang/Object")), Jvm.Cond.code ({ cls := "java/lang/String", name := "length", desc := "()I" } : Jvm.MethodName) jdk_42_method_54_code (1 : Nat) (Option.some Jvm.ClassFile.FieldType.int), Jvm.Cond.code ({ cls := "java/lang/String", name := "coder", desc := "()B" } : Jvm.MethodName) jdk_42_method_152_code (1 : Nat) (Option.some Jvm.ClassFile.FieldType.byte), Jvm.Cond.code ({ cls := "com/example/attestrail/attestrail/json/JsonString", name := "equals", desc := "(Ljava/lang/Object;)Z" } : Jvm.MethodName) prog_134_method_5_code (3 : Nat) (Option.some Jvm.ClassFile.FieldType.boolean), Jvm.Cond.code ({ cls := "java/lang/String", name := "equals", desc := "(Ljava/lang/Object;)Z" } : Jvm.MethodName) jdk_42_method_66_code (3 : Nat) (Option.some Jvm.ClassFile.FieldType.boolean), Jvm.Cond.code ({ cls := "java/lang/StringLatin1", name := "equals", desc := "([B[B)Z" } : Jvm.MethodName) jdk_43_method_13_code (3 : Nat) (Option.some Jvm.ClassFile.FieldType.boolean), Jvm.Cond.code ({ cls := "java/lang/StringUTF16", name := "compress", desc := "([CII)[B" } : Jvm.MethodName) jdk_52_method_16_code (6 : Nat) (Option.some (Jvm.ClassFile.FieldType.array Jvm.ClassFile.FieldType.byte)), Jvm.Cond.code ({ cls := "java/lang/StringUTF16", name := "compress", desc := "([CI[BII)I" } : Jvm.MethodName) jdk_52_method_21_code (7 : Nat) (Option.some Jvm.ClassFile.FieldType.int), Jvm.Cond.code ({ cls := "java/lang/StringUTF16", name := "coderFromArrayLen", desc := "([BI)B" } : Jvm.MethodName) jdk_52_method_15_code (2 : Nat) (Option.some Jvm.ClassFile.FieldType.byte), Jvm.Cond.code ({ cls := "java/lang/String", name := "charAt", desc := "(I)C" } : Jvm.MethodName) jdk_42_method_56_code (2 : Nat) (Option.some Jvm.ClassFile.FieldType.char), Jvm.Cond.code ({ cls := "java/lang/String", name := "isLatin1", desc := "()Z" } : Jvm.MethodName) jdk_42_method_154_code (1 : Nat) (Option.some Jvm.ClassFile.FieldType.boolean), Jvm.Cond.code ({ cls := "java/lang/StringLatin1", name := "charAt", desc := "([BI)C" } : Jvm.MethodName) jdk_43_method_2_code (2 : Nat) (Option.some Jvm.ClassFile.FieldType.char), Jvm.Cond.code ({ cls := "java/lang/String", name := "checkIndex", desc := "(II)V" } : Jvm.MethodName) jdk_42_method_155_code (2 : Nat) (Option.none : Option Jvm.ClassFile.FieldType), Jvm.Cond.code ({ cls := "jdk/internal/util/Preconditions", name := "checkIndex", desc := "(IILjava/util/function/BiFunction;)I" } : Jvm.MethodName) jdk_41_method_11_code (3 : Nat) (Option.some Jvm.ClassFile.FieldType.int), Jvm.Cond.code ({ cls := "java/lang/Character", name := "isHighSurrogate", desc := "(C)Z" } : Jvm.MethodName) jdk_89_method_14_code (1 : Nat) (Option.some Jvm.ClassFile.FieldType.boolean), Jvm.Cond.code ({ cls := "java/lang/Character", name := "isSurrogate", desc := "(C)Z" } : Jvm.MethodName) jdk_89_method_16_code (1 : Nat) (Option.some Jvm.ClassFile.FieldType.boolean), Jvm.Cond.code ({ cls := "java/lang/StringUTF16", name := "toBytes", desc := "([CII)[B" } : Jvm.MethodName) jdk_52_method_14_code (5 : Nat) (Option.some (Jvm.ClassFile.FieldType.array Jvm.ClassFile.FieldType.byte)), Jvm.Cond.code ({ cls := "java/lang/StringUTF16", name := "newBytesFor", desc := "(I)[B" } : Jvm.MethodName) jdk_52_method_2_code (1 : Nat) (Option.some (Jvm.ClassFile.FieldType.array Jvm.ClassFile.FieldType.byte)), Jvm.Cond.code ({ cls := "java/lang/StringUTF16", name := "newBytesLength", desc := "(I)I" } : Jvm.MethodName) jdk_52_method_3_code (1 : Nat) (Option.some Jvm.ClassFile.FieldType.int), Jvm.Cond.code ({ cls := "java/lang/StringUTF16", name := "putChar", desc := "([BII)V" } : Jvm.MethodName) jdk_52_method_4_code (3 : Nat) (Option.none : Option Jvm.ClassFile.FieldType), Jvm.Cond.code ({ cls := "java/lang/StringUTF16", name := "getChar", desc := "([BI)C" } : Jvm.MethodName) jdk_52_method_5_code (2 : Nat) (Option.some Jvm.ClassFile.FieldType.char), Jvm.Cond.code ({ cls := "java/lang/StringUTF16", name := "charAt", desc := "([BI)C" } : Jvm.MethodName) jdk_52_method_83_code (2 : Nat) (Option.some Jvm.ClassFile.FieldType.char), Jvm.Cond.code ({ cls := "java/lang/StringUTF16", name := "checkIndex", desc := "(I[B)V" } : Jvm.MethodName) jdk_52_method_91_code (2 : Nat) (Option.none : Option Jvm.ClassFile.FieldType), Jvm.Cond.code ({ cls := "java/lang/StringUTF16", name := "length", desc := "([B)I" } : Jvm.MethodName) jdk_52_method_6_code (1 : Nat) (Option.some Jvm.ClassFile.FieldType.int)]
set_option maxRecDepth 65536 in
theorem codes_eq : words1.filter isCode = codes1 := rfl
theorem w_codes : ∀ c ∈ words1.filter isCode, c.before args0 about1 = true := by
  rw [codes_eq]
  intro c hc
  simp only [codes1, List.mem_cons, List.not_mem_nil, or_false] at hc
  rcases hc with rfl | rfl | rfl | rfl | rfl | rfl | rfl | rfl | rfl | rfl | rfl | rfl | rfl | rfl | rfl | rfl | rfl | rfl | rfl | rfl | rfl | rfl | rfl | rfl | rfl | rfl | rfl | rfl | rfl | rfl | rfl | rfl | rfl
  · exact w_c0
  · exact w_c1
  · exact w_c2
  · exact w_c3
  · exact w_c4
  · exact w_c5
  · exact w_c6
  · exact w_c7
  · exact w_c8
  · exact w_c9
  · exact w_c10
  · exact w_c11
  · exact w_c12
  · exact w_c13
  · exact w_c14
  · exact w_c15
  · exact w_c16
  · exact w_c17
  · exact w_c18
  · exact w_c19
  · exact w_c20
  · exact w_c21
  · exact w_c22
  · exact w_c23
  · exact w_c24
  · exact w_c25
  · exact w_c26
  · exact w_c27
  · exact w_c28
  · exact w_c29
  · exact w_c30
  · exact w_c31
  · exact w_c32
set_option maxRecDepth 65536 in
theorem w_t1 : (words1.take 24).all (fun c => isCode c || c.before args0 about1) = true := by decide +kernel
set_option maxRecDepth 65536 in
theorem w_t2 : ((words1.drop 24).take 24).all (fun c => isCode c || c.before args0 about1) = true := by decide +kernel
set_option maxRecDepth 65536 in
theorem w_t3 : (((words1.drop 24).drop 24).take 24).all (fun c => isCode c || c.before args0 about1) = true := by decide +kernel
set_option maxRecDepth 65536 in
theorem w_t4 : ((((words1.drop 24).drop 24).drop 24).take 24).all (fun c => isCode c || c.before args0 about1) = true := by decide +kernel
set_option maxRecDepth 65536 in
theorem w_t5 : (((((words1.drop 24).drop 24).drop 24).drop 24).take 24).all (fun c => isCode c || c.before args0 about1) = true := by decide +kernel
set_option maxRecDepth 65536 in
theorem w_t6 : ((((((words1.drop 24).drop 24).drop 24).drop 24).drop 24).take 24).all (fun c => isCode c || c.before args0 about1) = true := by decide +kernel
set_option maxRecDepth 65536 in
theorem w_t7 : ((((((words1.drop 24).drop 24).drop 24).drop 24).drop 24).drop 24).all (fun c => isCode c || c.before args0 about1) = true := by decide +kernel
theorem w_tables : (allAtoms (Jvm.Cond.code x code maxLocals ret :: tables_1)).before args0 about1 = true := by
  rw [allAtoms_all]
  show words1.all (fun c => c.before args0 about1) = true
  refine all_split ?_ w_codes
  rw [← List.take_append_drop 24 words1, List.all_append, w_t1, ← List.take_append_drop 24 (words1.drop 24), List.all_append, w_t2, ← List.take_append_drop 24 ((words1.drop 24).drop 24), List.all_append, w_t3, ← List.take_append_drop 24 (((words1.drop 24).drop 24).drop 24), List.all_append, w_t4, ← List.take_append_drop 24 ((((words1.drop 24).drop 24).drop 24).drop 24), List.all_append, w_t5, ← List.take_append_drop 24 (((((words1.drop 24).drop 24).drop 24).drop 24).drop 24), List.all_append, w_t6, w_t7]
  rfl
set_option maxRecDepth 65536 in
theorem w_rest : rest_1_c.before args0 about1 = true := by decide +kernel
set_option maxRecDepth 65536 in
theorem w_case : (Jvm.Cond.and given_1 narrow_1).before args0 about1 = true := by decide +kernel
set_option maxRecDepth 65536 in
theorem w_consts : constsHeld consts_1 about1 := Jvm.Lit.constsHeldB_iff.mp (by decide +kernel)
theorem w_applies : (headSpec (Jvm.Cond.code x code maxLocals ret :: tables_1) room_1).applies x e0.platform about1 = true :=
  (Spec.applies_iff w_frames).mpr ⟨w_running, w_runnable, w_alone, w_named, w_hears, w_ripe, w_room, w_tables⟩
theorem atStart : AtStart classFile x code maxLocals ret World_1 tables_1 room_1 Calls_1 rest_1 Pre_1 launch0 p0 e0 about1 theMethod args0 below0 :=
  ⟨lists_1, trivial, launch0.admits_env _ _ _, launch0.least_env, fairChoices_fair.cas, fairChoices_fair.clock, w_frames, w_args, w_heap, w_applies, ⟨w_consts, trivial⟩, w_rest, w_case⟩
end start1
theorem witness_1 : WitnessClaimed_1 := ⟨start1.p0, start1.e0, start1.about1, start1.theMethod, start1.args0, start1.below0, start1.atStart⟩
end Jvm.Pilot.@@N@@
