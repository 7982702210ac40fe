import JvmDerived
import JvmDerived.Pilot.@@N@@Statement
import JvmDerived.Pilot.@@N@@Code
set_option linter.unusedVariables false
set_option linter.unusedSimpArgs false
namespace Jvm.RoadKit
open Sem ClassFile Op Lib Jvm.Stand Jvm.Free Jvm.LawKit
section New
variable {p : Program} {l : Launch} {e : Env} {R : Room} {s : State} {m : MethodId} {args : Array Value} {below : List Frame} {meth : Method} {c : Code} {T : State} {locs : List Loc} {cells slots : Nat}
theorem retI (X : Stand p l e R s m args below meth c T locs cells slots) (hx : p.tables.exec = Jvm.exec) {pc : Nat} {Ls : Array Slot} {z : Int32} {rest : List Value} (hret : meth.sig.returnType = some .int) (hd : decode c.code pc = .ok (.ireturn, 1)) {fs : List Frame}
    (hl : ∀ (f : JFrame) (acts : List Action), f.method = m → f.locked = none → f.entered = [] → (doReturn e (T.setTop f) acts (some (.int z))).1 = T.setFrames fs) : Steps p.tables e below (T.setTop (mkF m pc Ls (.int z :: rest))) (T.setFrames fs) :=
  retOut X hx hret rfl (Or.inl ⟨rfl, Or.inl rfl, _, rfl⟩) hd hl
end New
end Jvm.RoadKit
namespace Jvm.Pilot.@@N@@
open Jvm Jvm.ClassFile Sem Op Lib Jvm.Free Jvm.Stand Jvm.LawKit Jvm.RoadKit Bundle Jvm.Pilot.@@N@@.Jvm.D
def unitSrc (j : Int32) : Int32 :=
  if j = (0 : Int32) then (35 : Int32) else if j = (1 : Int32) then (63 : Int32) else if j = (2 : Int32) then (7 : Int32) else if j = (3 : Int32) then (63 : Int32) else if j = (4 : Int32) then (14 : Int32) else if j = (5 : Int32) then (63 : Int32) else if j = (6 : Int32) then (28 : Int32) else if j = (7 : Int32) then (63 : Int32) else if j = (8 : Int32) then (56 : Int32) else if j = (9 : Int32) then (63 : Int32) else if j = (10 : Int32) then (49 : Int32) else if j = (11 : Int32) then (63 : Int32) else 0
theorem own_cases (j : Int32) (h1 : ¬ j < 0) (h2 : j < 12) : j = (0 : Int32) ∨ j = (1 : Int32) ∨ j = (2 : Int32) ∨ j = (3 : Int32) ∨ j = (4 : Int32) ∨ j = (5 : Int32) ∨ j = (6 : Int32) ∨ j = (7 : Int32) ∨ j = (8 : Int32) ∨ j = (9 : Int32) ∨ j = (10 : Int32) ∨ j = (11 : Int32) := by
  rw [Int32.lt_iff_toInt_lt] at h1 h2
  have e0 : (0 : Int32).toInt = 0 := rfl
  have e12 : (12 : Int32).toInt = 12 := rfl
  rw [e0] at h1
  rw [e12] at h2
  have key : ∀ k : Int32, (j = k) ↔ j.toInt = k.toInt := fun k => Int32.toInt_inj.symm
  simp only [key]
  rw [show (0 : Int32).toInt = 0 from rfl]
  rw [show (1 : Int32).toInt = 1 from rfl]
  rw [show (2 : Int32).toInt = 2 from rfl]
  rw [show (3 : Int32).toInt = 3 from rfl]
  rw [show (4 : Int32).toInt = 4 from rfl]
  rw [show (5 : Int32).toInt = 5 from rfl]
  rw [show (6 : Int32).toInt = 6 from rfl]
  rw [show (7 : Int32).toInt = 7 from rfl]
  rw [show (8 : Int32).toInt = 8 from rfl]
  rw [show (9 : Int32).toInt = 9 from rfl]
  rw [show (10 : Int32).toInt = 10 from rfl]
  rw [show (11 : Int32).toInt = 11 from rfl]
  omega
theorem own_in {cl : Cell} {j : Int32} (hsz : cl.slots.size = 12) (h1 : ¬ j < 0) (h2 : j < 12) : ¬ (j < 0 ∨ cl.slots.size ≤ j.toNatClampNeg) := inb_of (z := 12) (hsz.trans rfl) ⟨h1, h2⟩
theorem d1_0 : decode prog_42_method_17_code 0 = .ok (.iload_n 0, 1) := by decide +kernel
theorem d1_1 : decode prog_42_method_17_code 1 = .ok (.ifCond .eq 11, 3) := by decide +kernel
theorem d1_12 : decode prog_42_method_17_code 12 = .ok (.getstatic 183, 3) := by decide +kernel
theorem d1_15 : decode prog_42_method_17_code 15 = .ok (.iload_n 1, 1) := by decide +kernel
theorem d1_16 : decode prog_42_method_17_code 16 = .ok (.ishr, 1) := by decide +kernel
theorem d1_17 : decode prog_42_method_17_code 17 = .ok (.iconst 1, 1) := by decide +kernel
theorem d1_18 : decode prog_42_method_17_code 18 = .ok (.iand, 1) := by decide +kernel
theorem d1_19 : decode prog_42_method_17_code 19 = .ok (.ireturn, 1) := by decide +kernel
theorem d1_4 : decode prog_42_method_17_code 4 = .ok (.getstatic 298, 3) := by decide +kernel
theorem d1_7 : decode prog_42_method_17_code 7 = .ok (.iload_n 1, 1) := by decide +kernel
theorem d1_8 : decode prog_42_method_17_code 8 = .ok (.iaload, 1) := by decide +kernel
theorem d1_9 : decode prog_42_method_17_code 9 = .ok (.goto 10, 3) := by decide +kernel
theorem pn_0 : plainName "com/example/ticinus/ticinus/battle/Movement" = true := by first | (simp [plainName, overriddenIn]; done) | decide +kernel
theorem ef_rm1 (m : MethodId) (x0 : Int32) (x1 : Int32) : entryFrame m #[(.int x0), (.int x1)] 2 = mkF m 0 #[.val (.int x0), .val (.int x1)] [] := by first | (simp [entryFrame, mkF, argsToLocals, Value.category]; done) | rfl
def srcF (p1 : Int32) (p2 : Int32) : Int32 :=
  if p1 = (0 : Int32) then (((1365 : Int32) >>> (p2 &&& 31)) &&& (1 : Int32))
  else (unitSrc p2)
def Q1 (Z : State) (p1 : Int32) (p2 : Int32) (aU : Addr) (cl : Cell) (h0 : Heap) (n0 : Nat) (v : Option Value) (h : Heap) (L : List Loc) : Prop := v = some (.int (srcF p1 p2)) ∧ Fr n0 L ∧ h = h0
set_option maxRecDepth 65536 in
set_option maxHeartbeats 40000000 in
theorem rm1 (l : Launch) (Z : State) (a0 : Array Value) (hw : ∀ d ∈ tables_1, d.before a0 Z = true) (ws : List Jvm.Cond) (p1 : Int32) (p2 : Int32) (aU : Addr) (cl : Cell) (h0 : Heap) (n0 : Nat) (Z0 : n0 ≤ h0.size) (S_U : Sta Z h0 "com/example/ticinus/ticinus/battle/Movement" "UNIT_SOURCES" "[I" (.ref aU)) (S_L : Sta Z h0 "com/example/ticinus/ticinus/battle/Movement" "LEADER_STEPS" "I" (.int (1365 : Int32))) (Ar : Arr Z h0 aU cl .int) (hsz : cl.slots.size = 12) (hat : ∀ j : Int32, ¬ j < 0 → j < 12 → cl.slots[j.toNatClampNeg]? = some (.int (unitSrc j))) (hj1 : ¬ p2 < 0) (hj2 : p2 < 12) :
    MetFree l (⟨"com/example/ticinus/ticinus/battle/Movement", "sources", "(ZI)I"⟩ : MethodName) (head1 (Jvm.Cond.code (⟨"com/example/ticinus/ticinus/battle/Movement", "sources", "(ZI)I"⟩ : MethodName) prog_42_method_17_code 2 (some .int) :: ws) ({ frames := 0, cells := 0, slots := 0, locals := 0 } : Room)) (fun a U => a = #[(.int p1), (.int p2)] ∧ Z.Warmed39 U.vm ∧ U.heap = h0) (fun _ _ _ _ _ => True) (fun _ U o U' => ∃ v L, o = .returned v ∧ Q1 Z p1 p2 aU cl h0 n0 v U'.heap L ∧ FrameEnd U o U' L ({ frames := 0, cells := 0, slots := 0, locals := 0 } : Room).cells ({ frames := 0, cells := 0, slots := 0, locals := 0 } : Room).slots) := by
  refine MetFree.of_bodySF (plainFor_of_name pn_0) hisR ?_
  intro p e s m args below meth c s₁ Bd hml0 hP hK
  obtain ⟨rfl, hZ, hh⟩ := hP
  have hx := Bd.exec
  have hby := Bd.bytes
  have hml : c.maxLocals = 2 := hml0
  have hown : s.vm.findClass "com/example/ticinus/ticinus/battle/Movement" = some m.cls := findClass_of_methodNamed Bd.named
  have hnm := (name_of_methodNamed Bd.named Bd.method).1
  have X0 : Stand p l e ({ frames := 0, cells := 0, slots := 0, locals := 0 } : Room) s m #[(.int p1), (.int p2)] below meth c s₁ [] 0 0 := Stand.of_body Bd
  have e0 : s₁.heap = h0 := by rw [← hh, Bd.state]; rfl
  have N0 := Fr.nil n0
  have pre0 : ∀ t, Steps p.tables e below (s₁.setTop (mkF m 0 #[.val (.int p1), .val (.int p2)] [])) t → Steps p.tables e below (s₁.setTop (entryFrame m #[(.int p1), (.int p2)] 2)) t := fun t k => castTop (ef_rm1 m p1 p2) k
  have pre1 : ∀ t, Steps p.tables e below (s₁.setTop (mkF m 1 #[.val (.int p1), .val (.int p2)] [(.int p1)])) t → Steps p.tables e below (s₁.setTop (entryFrame m #[(.int p1), (.int p2)] 2)) t := by
    intro t kt
    refine pre0 t ?_
    show Steps p.tables e below (s₁.setTop (mkF m 0 #[.val (.int p1), .val (.int p2)] [])) _
    refine XS.iloadN X0.here hx rfl (hb hby d1_0) rfl ?_
    show Steps p.tables e below (s₁.setTop (mkF m 1 #[.val (.int p1), .val (.int p2)] [(.int p1)])) _
    exact kt
  by_cases hc1_2 : p1 = (0 : Int32)
  · obtain ⟨T3, X3, e3, st3⟩ := getS2 X0 hx hZ hown (host := "") (Or.inl (hw _ (List.mem_of_getElem? (i := 5) rfl))) Via.refl e0 S_L (g := (mkF m 12 #[.val (.int p1), .val (.int p2)] [])) rfl (hb hby d1_12)
    obtain ⟨fs, hr, hrun, hended, hW, hsame⟩ := X3.leave (v := some (.int (((1365 : Int32) >>> (p2 &&& 31)) &&& (1 : Int32)))) (fun h => by rw [Bd.returns] at h; cases h)
    refine ⟨_, _, pre1 _ ?_, hrun, hended, _, _, rfl, ?_, ⟨_, rfl⟩, hW, hsame.mono (by decide) (by decide)⟩
    · show Steps p.tables e below (s₁.setTop (mkF m 1 #[.val (.int p1), .val (.int p2)] [(.int p1)])) _
      refine XS.ifYes X0.here hx rfl (pc0 := 1) (pc' := 12) rfl (hb hby d1_1) rfl ((if0 _ _).trans (teq hc1_2).1) (by decide) (by decide) ?_
      show Steps p.tables e below (s₁.setTop (mkF m 12 #[.val (.int p1), .val (.int p2)] [])) _
      refine st3 _ ?_
      show Steps p.tables e below (T3.setTop (mkF m 15 #[.val (.int p1), .val (.int p2)] [(.int (1365 : Int32))])) _
      refine XS.iloadN X3.here hx rfl (hb hby d1_15) rfl ?_
      show Steps p.tables e below (T3.setTop (mkF m 16 #[.val (.int p1), .val (.int p2)] [(.int p2), (.int (1365 : Int32))])) _
      refine XS.ishr X3.here hx rfl (hb hby d1_16) rfl ?_
      show Steps p.tables e below (T3.setTop (mkF m 17 #[.val (.int p1), .val (.int p2)] [(.int ((1365 : Int32) >>> (p2 &&& 31)))])) _
      refine XS.iconst X3.here hx rfl (hb hby d1_17) ?_
      show Steps p.tables e below (T3.setTop (mkF m 18 #[.val (.int p1), .val (.int p2)] [(.int (1 : Int32)), (.int ((1365 : Int32) >>> (p2 &&& 31)))])) _
      refine XS.iand X3.here hx rfl (hb hby d1_18) rfl ?_
      show Steps p.tables e below (T3.setTop (mkF m 19 #[.val (.int p1), .val (.int p2)] [(.int (((1365 : Int32) >>> (p2 &&& 31)) &&& (1 : Int32)))])) _
      exact retI X3 hx Bd.returns (hb hby d1_19) hr
    · show Q1 Z p1 p2 aU cl h0 n0 _ T3.heap _
      rw [e3]
      refine ⟨?_, N0, rfl⟩
      show (some (.int (((1365 : Int32) >>> (p2 &&& 31)) &&& (1 : Int32))) : Option Value) = some (.int (srcF p1 p2))
      rw [show (srcF p1 p2) = (((1365 : Int32) >>> (p2 &&& 31)) &&& (1 : Int32)) from by unfold srcF; rw [if_pos hc1_2]]
  · obtain ⟨T5, X5, e5, st5⟩ := getS2 X0 hx hZ hown (host := "") (Or.inl (hw _ (List.mem_of_getElem? (i := 11) rfl))) Via.refl e0 S_U (g := (mkF m 4 #[.val (.int p1), .val (.int p2)] [])) rfl (hb hby d1_4)
    obtain ⟨fs, hr, hrun, hended, hW, hsame⟩ := X5.leave (v := some (.int (unitSrc p2))) (fun h => by rw [Bd.returns] at h; cases h)
    refine ⟨_, _, pre1 _ ?_, hrun, hended, _, _, rfl, ?_, ⟨_, rfl⟩, hW, hsame.mono (by decide) (by decide)⟩
    · show Steps p.tables e below (s₁.setTop (mkF m 1 #[.val (.int p1), .val (.int p2)] [(.int p1)])) _
      refine XS.ifNo X0.here hx rfl (hb hby d1_1) rfl ((if0 _ _).trans (feq hc1_2).1) ?_
      show Steps p.tables e below (s₁.setTop (mkF m 4 #[.val (.int p1), .val (.int p2)] [])) _
      refine st5 _ ?_
      show Steps p.tables e below (T5.setTop (mkF m 7 #[.val (.int p1), .val (.int p2)] [(.ref aU)])) _
      refine XS.iloadN X5.here hx rfl (hb hby d1_7) rfl ?_
      show Steps p.tables e below (T5.setTop (mkF m 8 #[.val (.int p1), .val (.int p2)] [(.int p2), (.ref aU)])) _
      refine X5.iaload hx (j := p2) (v := (.int (unitSrc p2))) (by rw [e5]; exact Ar.1) (State.isArrayOf_alike (hZ).alike Ar.2.1) Ar.2.2 (own_in hsz hj1 hj2) (hat _ hj1 hj2) (g := (mkF m 8 #[.val (.int p1), .val (.int p2)] [(.int p2), (.ref aU)])) rfl rfl (hb hby d1_8) _ ?_
      show Steps p.tables e below (T5.setTop (mkF m 9 #[.val (.int p1), .val (.int p2)] [(.int (unitSrc p2))])) _
      refine XS.goto X5.here hx rfl (pc0 := 9) (pc' := 19) rfl (hb hby d1_9) (by decide) (by decide) ?_
      show Steps p.tables e below (T5.setTop (mkF m 19 #[.val (.int p1), .val (.int p2)] [(.int (unitSrc p2))])) _
      exact retI X5 hx Bd.returns (hb hby d1_19) hr
    · show Q1 Z p1 p2 aU cl h0 n0 _ T5.heap _
      rw [e5]
      refine ⟨?_, N0, rfl⟩
      show (some (.int (unitSrc p2)) : Option Value) = some (.int (srcF p1 p2))
      rw [show (srcF p1 p2) = (unitSrc p2) from by unfold srcF; rw [if_neg hc1_2]]
theorem d2_0 : decode method_3_code 0 = .ok (.iload_n 1, 1) := by decide +kernel
theorem d2_1 : decode method_3_code 1 = .ok (.iconst 2, 1) := by decide +kernel
theorem d2_2 : decode method_3_code 2 = .ok (.irem, 1) := by decide +kernel
theorem d2_3 : decode method_3_code 3 = .ok (.iconst 1, 1) := by decide +kernel
theorem d2_4 : decode method_3_code 4 = .ok (.if_icmp .ne 7, 3) := by decide +kernel
theorem d2_7 : decode method_3_code 7 = .ok (.iconst 1, 1) := by decide +kernel
theorem d2_8 : decode method_3_code 8 = .ok (.goto 4, 3) := by decide +kernel
theorem d2_12 : decode method_3_code 12 = .ok (.istore_n 2, 1) := by decide +kernel
theorem d2_13 : decode method_3_code 13 = .ok (.iload_n 0, 1) := by decide +kernel
theorem d2_14 : decode method_3_code 14 = .ok (.ifCond .ne 13, 3) := by decide +kernel
theorem d2_17 : decode method_3_code 17 = .ok (.iload_n 2, 1) := by decide +kernel
theorem d2_18 : decode method_3_code 18 = .ok (.ifCond .eq 7, 3) := by decide +kernel
theorem d2_21 : decode method_3_code 21 = .ok (.iconst 0, 1) := by decide +kernel
theorem d2_22 : decode method_3_code 22 = .ok (.goto 4, 3) := by decide +kernel
theorem d2_26 : decode method_3_code 26 = .ok (.ireturn, 1) := by decide +kernel
theorem d2_27 : decode method_3_code 27 = .ok (.iload_n 2, 1) := by decide +kernel
theorem d2_28 : decode method_3_code 28 = .ok (.ifCond .eq 6, 3) := by decide +kernel
theorem d2_31 : decode method_3_code 31 = .ok (.bipush 63, 2) := by decide +kernel
theorem d2_33 : decode method_3_code 33 = .ok (.ireturn, 1) := by decide +kernel
theorem d2_11 : decode method_3_code 11 = .ok (.iconst 0, 1) := by decide +kernel
theorem d2_25 : decode method_3_code 25 = .ok (.iconst 1, 1) := by decide +kernel
theorem d2_34 : decode method_3_code 34 = .ok (.iload_n 1, 1) := by decide +kernel
theorem d2_35 : decode method_3_code 35 = .ok (.iconst 2, 1) := by decide +kernel
theorem d2_36 : decode method_3_code 36 = .ok (.idiv, 1) := by decide +kernel
theorem d2_37 : decode method_3_code 37 = .ok (.istore_n 3, 1) := by decide +kernel
theorem d2_38 : decode method_3_code 38 = .ok (.iconst 1, 1) := by decide +kernel
theorem d2_39 : decode method_3_code 39 = .ok (.iload_n 3, 1) := by decide +kernel
theorem d2_40 : decode method_3_code 40 = .ok (.ishl, 1) := by decide +kernel
theorem d2_41 : decode method_3_code 41 = .ok (.iconst 1, 1) := by decide +kernel
theorem d2_42 : decode method_3_code 42 = .ok (.iload_n 3, 1) := by decide +kernel
theorem d2_43 : decode method_3_code 43 = .ok (.iconst 1, 1) := by decide +kernel
theorem d2_44 : decode method_3_code 44 = .ok (.iadd, 1) := by decide +kernel
theorem d2_45 : decode method_3_code 45 = .ok (.bipush 6, 2) := by decide +kernel
theorem d2_47 : decode method_3_code 47 = .ok (.irem, 1) := by decide +kernel
theorem d2_48 : decode method_3_code 48 = .ok (.ishl, 1) := by decide +kernel
theorem d2_49 : decode method_3_code 49 = .ok (.ior, 1) := by decide +kernel
theorem d2_50 : decode method_3_code 50 = .ok (.iconst 1, 1) := by decide +kernel
theorem d2_51 : decode method_3_code 51 = .ok (.iload_n 3, 1) := by decide +kernel
theorem d2_52 : decode method_3_code 52 = .ok (.iconst 5, 1) := by decide +kernel
theorem d2_53 : decode method_3_code 53 = .ok (.iadd, 1) := by decide +kernel
theorem d2_54 : decode method_3_code 54 = .ok (.bipush 6, 2) := by decide +kernel
theorem d2_56 : decode method_3_code 56 = .ok (.irem, 1) := by decide +kernel
theorem d2_57 : decode method_3_code 57 = .ok (.ishl, 1) := by decide +kernel
theorem d2_58 : decode method_3_code 58 = .ok (.ior, 1) := by decide +kernel
theorem d2_59 : decode method_3_code 59 = .ok (.ireturn, 1) := by decide +kernel
theorem pn_1 : plainName "com/example/ticinus/ticinus/battle/MovementSourcesPinLaw" = true := by first | (simp [plainName, overriddenIn]; done) | decide +kernel
theorem ef_rm2 (m : MethodId) (x0 : Int32) (x1 : Int32) : entryFrame m #[(.int x0), (.int x1)] 4 = mkF m 0 #[.val (.int x0), .val (.int x1), .unset, .unset] [] := by first | (simp [entryFrame, mkF, argsToLocals, Value.category]; done) | rfl
def expF (p1 : Int32) (p2 : Int32) : Int32 :=
  if (p2 % (2 : Int32)) = (1 : Int32) then (if p1 = (0 : Int32) then (0 : Int32)
    else (63 : Int32))
  else if p1 = (0 : Int32) then (1 : Int32)
    else ((((1 : Int32) <<< ((p2 / (2 : Int32)) &&& 31)) ||| ((1 : Int32) <<< ((((p2 / (2 : Int32)) + (1 : Int32)) % (6 : Int32)) &&& 31))) ||| ((1 : Int32) <<< ((((p2 / (2 : Int32)) + (5 : Int32)) % (6 : Int32)) &&& 31)))
def Q2 (Z : State) (p1 : Int32) (p2 : Int32) (h0 : Heap) (n0 : Nat) (v : Option Value) (h : Heap) (L : List Loc) : Prop := v = some (.int (expF p1 p2)) ∧ Fr n0 L ∧ h = h0
set_option maxRecDepth 65536 in
set_option maxHeartbeats 40000000 in
theorem rm2 (l : Launch) (Z : State) (a0 : Array Value) (hw : ∀ d ∈ tables_1, d.before a0 Z = true) (ws : List Jvm.Cond) (p1 : Int32) (p2 : Int32) (h0 : Heap) (n0 : Nat) (Z0 : n0 ≤ h0.size) :
    MetFree l (⟨"com/example/ticinus/ticinus/battle/MovementSourcesPinLaw", "expected", "(ZI)I"⟩ : MethodName) (head1 (Jvm.Cond.code (⟨"com/example/ticinus/ticinus/battle/MovementSourcesPinLaw", "expected", "(ZI)I"⟩ : MethodName) method_3_code 4 (some .int) :: ws) ({ frames := 0, cells := 0, slots := 0, locals := 0 } : Room)) (fun a U => a = #[(.int p1), (.int p2)] ∧ Z.Warmed39 U.vm ∧ U.heap = h0) (fun _ _ _ _ _ => True) (fun _ U o U' => ∃ v L, o = .returned v ∧ Q2 Z p1 p2 h0 n0 v U'.heap L ∧ FrameEnd U o U' L ({ frames := 0, cells := 0, slots := 0, locals := 0 } : Room).cells ({ frames := 0, cells := 0, slots := 0, locals := 0 } : Room).slots) := by
  refine MetFree.of_bodySF (plainFor_of_name pn_1) hisR ?_
  intro p e s m args below meth c s₁ Bd hml0 hP hK
  obtain ⟨rfl, hZ, hh⟩ := hP
  have hx := Bd.exec
  have hby := Bd.bytes
  have hml : c.maxLocals = 4 := hml0
  have hown : s.vm.findClass "com/example/ticinus/ticinus/battle/MovementSourcesPinLaw" = some m.cls := findClass_of_methodNamed Bd.named
  have hnm := (name_of_methodNamed Bd.named Bd.method).1
  have X0 : Stand p l e ({ frames := 0, cells := 0, slots := 0, locals := 0 } : Room) s m #[(.int p1), (.int p2)] below meth c s₁ [] 0 0 := Stand.of_body Bd
  have e0 : s₁.heap = h0 := by rw [← hh, Bd.state]; rfl
  have N0 := Fr.nil n0
  have pre0 : ∀ t, Steps p.tables e below (s₁.setTop (mkF m 0 #[.val (.int p1), .val (.int p2), .unset, .unset] [])) t → Steps p.tables e below (s₁.setTop (entryFrame m #[(.int p1), (.int p2)] 4)) t := fun t k => castTop (ef_rm2 m p1 p2) k
  have pre1 : ∀ t, Steps p.tables e below (s₁.setTop (mkF m 4 #[.val (.int p1), .val (.int p2), .unset, .unset] [(.int (1 : Int32)), (.int (p2 % (2 : Int32)))])) t → Steps p.tables e below (s₁.setTop (entryFrame m #[(.int p1), (.int p2)] 4)) t := by
    intro t kt
    refine pre0 t ?_
    show Steps p.tables e below (s₁.setTop (mkF m 0 #[.val (.int p1), .val (.int p2), .unset, .unset] [])) _
    refine XS.iloadN X0.here hx rfl (hb hby d2_0) rfl ?_
    show Steps p.tables e below (s₁.setTop (mkF m 1 #[.val (.int p1), .val (.int p2), .unset, .unset] [(.int p2)])) _
    refine XS.iconst X0.here hx rfl (hb hby d2_1) ?_
    show Steps p.tables e below (s₁.setTop (mkF m 2 #[.val (.int p1), .val (.int p2), .unset, .unset] [(.int (2 : Int32)), (.int p2)])) _
    refine iremM X0 hx rfl (hb hby d2_2) rfl (by decide) ?_
    show Steps p.tables e below (s₁.setTop (mkF m 3 #[.val (.int p1), .val (.int p2), .unset, .unset] [(.int (p2 % (2 : Int32)))])) _
    refine XS.iconst X0.here hx rfl (hb hby d2_3) ?_
    show Steps p.tables e below (s₁.setTop (mkF m 4 #[.val (.int p1), .val (.int p2), .unset, .unset] [(.int (1 : Int32)), (.int (p2 % (2 : Int32)))])) _
    exact kt
  by_cases hc4_2 : (p2 % (2 : Int32)) = (1 : Int32)
  · have pre3 : ∀ t, Steps p.tables e below (s₁.setTop (mkF m 14 #[.val (.int p1), .val (.int p2), .val (.int (1 : Int32)), .unset] [(.int p1)])) t → Steps p.tables e below (s₁.setTop (entryFrame m #[(.int p1), (.int p2)] 4)) t := by
      intro t kt
      refine pre1 t ?_
      show Steps p.tables e below (s₁.setTop (mkF m 4 #[.val (.int p1), .val (.int p2), .unset, .unset] [(.int (1 : Int32)), (.int (p2 % (2 : Int32)))])) _
      refine XS.icmpNo X0.here hx rfl (hb hby d2_4) rfl (teq hc4_2).2 ?_
      show Steps p.tables e below (s₁.setTop (mkF m 7 #[.val (.int p1), .val (.int p2), .unset, .unset] [])) _
      refine XS.iconst X0.here hx rfl (hb hby d2_7) ?_
      show Steps p.tables e below (s₁.setTop (mkF m 8 #[.val (.int p1), .val (.int p2), .unset, .unset] [(.int (1 : Int32))])) _
      refine XS.goto X0.here hx rfl (pc0 := 8) (pc' := 12) rfl (hb hby d2_8) (by decide) (by decide) ?_
      show Steps p.tables e below (s₁.setTop (mkF m 12 #[.val (.int p1), .val (.int p2), .unset, .unset] [(.int (1 : Int32))])) _
      refine XS.istoreN X0.here hx rfl (hb hby d2_12) rfl (l' := #[.val (.int p1), .val (.int p2), .val (.int (1 : Int32)), .unset]) rfl ?_
      show Steps p.tables e below (s₁.setTop (mkF m 13 #[.val (.int p1), .val (.int p2), .val (.int (1 : Int32)), .unset] [])) _
      refine XS.iloadN X0.here hx rfl (hb hby d2_13) rfl ?_
      show Steps p.tables e below (s₁.setTop (mkF m 14 #[.val (.int p1), .val (.int p2), .val (.int (1 : Int32)), .unset] [(.int p1)])) _
      exact kt
    by_cases hc14_4 : p1 = (0 : Int32)
    · obtain ⟨fs, hr, hrun, hended, hW, hsame⟩ := X0.leave (v := some (.int (0 : Int32))) (fun h => by rw [Bd.returns] at h; cases h)
      refine ⟨_, _, pre3 _ ?_, hrun, hended, _, _, rfl, ?_, ⟨_, rfl⟩, hW, hsame.mono (by decide) (by decide)⟩
      · show Steps p.tables e below (s₁.setTop (mkF m 14 #[.val (.int p1), .val (.int p2), .val (.int (1 : Int32)), .unset] [(.int p1)])) _
        refine XS.ifNo X0.here hx rfl (hb hby d2_14) rfl ((if0 _ _).trans (teq hc14_4).2) ?_
        show Steps p.tables e below (s₁.setTop (mkF m 17 #[.val (.int p1), .val (.int p2), .val (.int (1 : Int32)), .unset] [])) _
        refine XS.iloadN X0.here hx rfl (hb hby d2_17) rfl ?_
        show Steps p.tables e below (s₁.setTop (mkF m 18 #[.val (.int p1), .val (.int p2), .val (.int (1 : Int32)), .unset] [(.int (1 : Int32))])) _
        refine XS.ifNo X0.here hx rfl (hb hby d2_18) rfl ((if0 _ _).trans (feq (by decide : ¬ ((1 : Int32) = (0 : Int32)))).1) ?_
        show Steps p.tables e below (s₁.setTop (mkF m 21 #[.val (.int p1), .val (.int p2), .val (.int (1 : Int32)), .unset] [])) _
        refine XS.iconst X0.here hx rfl (hb hby d2_21) ?_
        show Steps p.tables e below (s₁.setTop (mkF m 22 #[.val (.int p1), .val (.int p2), .val (.int (1 : Int32)), .unset] [(.int (0 : Int32))])) _
        refine XS.goto X0.here hx rfl (pc0 := 22) (pc' := 26) rfl (hb hby d2_22) (by decide) (by decide) ?_
        show Steps p.tables e below (s₁.setTop (mkF m 26 #[.val (.int p1), .val (.int p2), .val (.int (1 : Int32)), .unset] [(.int (0 : Int32))])) _
        exact retI X0 hx Bd.returns (hb hby d2_26) hr
      · show Q2 Z p1 p2 h0 n0 _ s₁.heap _
        rw [e0]
        refine ⟨?_, N0, rfl⟩
        show (some (.int (0 : Int32)) : Option Value) = some (.int (expF p1 p2))
        rw [show (expF p1 p2) = (0 : Int32) from by unfold expF; rw [if_pos hc4_2, if_pos hc14_4]]
    · obtain ⟨fs, hr, hrun, hended, hW, hsame⟩ := X0.leave (v := some (.int (63 : Int32))) (fun h => by rw [Bd.returns] at h; cases h)
      refine ⟨_, _, pre3 _ ?_, hrun, hended, _, _, rfl, ?_, ⟨_, rfl⟩, hW, hsame.mono (by decide) (by decide)⟩
      · show Steps p.tables e below (s₁.setTop (mkF m 14 #[.val (.int p1), .val (.int p2), .val (.int (1 : Int32)), .unset] [(.int p1)])) _
        refine XS.ifYes X0.here hx rfl (pc0 := 14) (pc' := 27) rfl (hb hby d2_14) rfl ((if0 _ _).trans (feq hc14_4).2) (by decide) (by decide) ?_
        show Steps p.tables e below (s₁.setTop (mkF m 27 #[.val (.int p1), .val (.int p2), .val (.int (1 : Int32)), .unset] [])) _
        refine XS.iloadN X0.here hx rfl (hb hby d2_27) rfl ?_
        show Steps p.tables e below (s₁.setTop (mkF m 28 #[.val (.int p1), .val (.int p2), .val (.int (1 : Int32)), .unset] [(.int (1 : Int32))])) _
        refine XS.ifNo X0.here hx rfl (hb hby d2_28) rfl ((if0 _ _).trans (feq (by decide : ¬ ((1 : Int32) = (0 : Int32)))).1) ?_
        show Steps p.tables e below (s₁.setTop (mkF m 31 #[.val (.int p1), .val (.int p2), .val (.int (1 : Int32)), .unset] [])) _
        refine XS.bipush X0.here hx rfl (hb hby d2_31) ?_
        show Steps p.tables e below (s₁.setTop (mkF m 33 #[.val (.int p1), .val (.int p2), .val (.int (1 : Int32)), .unset] [(.int (63 : Int32))])) _
        exact retI X0 hx Bd.returns (hb hby d2_33) hr
      · show Q2 Z p1 p2 h0 n0 _ s₁.heap _
        rw [e0]
        refine ⟨?_, N0, rfl⟩
        show (some (.int (63 : Int32)) : Option Value) = some (.int (expF p1 p2))
        rw [show (expF p1 p2) = (63 : Int32) from by unfold expF; rw [if_pos hc4_2, if_neg hc14_4]]
  · have pre7 : ∀ t, Steps p.tables e below (s₁.setTop (mkF m 14 #[.val (.int p1), .val (.int p2), .val (.int (0 : Int32)), .unset] [(.int p1)])) t → Steps p.tables e below (s₁.setTop (entryFrame m #[(.int p1), (.int p2)] 4)) t := by
      intro t kt
      refine pre1 t ?_
      show Steps p.tables e below (s₁.setTop (mkF m 4 #[.val (.int p1), .val (.int p2), .unset, .unset] [(.int (1 : Int32)), (.int (p2 % (2 : Int32)))])) _
      refine XS.icmpYes X0.here hx rfl (pc0 := 4) (pc' := 11) rfl (hb hby d2_4) rfl (feq hc4_2).2 (by decide) (by decide) ?_
      show Steps p.tables e below (s₁.setTop (mkF m 11 #[.val (.int p1), .val (.int p2), .unset, .unset] [])) _
      refine XS.iconst X0.here hx rfl (hb hby d2_11) ?_
      show Steps p.tables e below (s₁.setTop (mkF m 12 #[.val (.int p1), .val (.int p2), .unset, .unset] [(.int (0 : Int32))])) _
      refine XS.istoreN X0.here hx rfl (hb hby d2_12) rfl (l' := #[.val (.int p1), .val (.int p2), .val (.int (0 : Int32)), .unset]) rfl ?_
      show Steps p.tables e below (s₁.setTop (mkF m 13 #[.val (.int p1), .val (.int p2), .val (.int (0 : Int32)), .unset] [])) _
      refine XS.iloadN X0.here hx rfl (hb hby d2_13) rfl ?_
      show Steps p.tables e below (s₁.setTop (mkF m 14 #[.val (.int p1), .val (.int p2), .val (.int (0 : Int32)), .unset] [(.int p1)])) _
      exact kt
    by_cases hc14_8 : p1 = (0 : Int32)
    · obtain ⟨fs, hr, hrun, hended, hW, hsame⟩ := X0.leave (v := some (.int (1 : Int32))) (fun h => by rw [Bd.returns] at h; cases h)
      refine ⟨_, _, pre7 _ ?_, hrun, hended, _, _, rfl, ?_, ⟨_, rfl⟩, hW, hsame.mono (by decide) (by decide)⟩
      · show Steps p.tables e below (s₁.setTop (mkF m 14 #[.val (.int p1), .val (.int p2), .val (.int (0 : Int32)), .unset] [(.int p1)])) _
        refine XS.ifNo X0.here hx rfl (hb hby d2_14) rfl ((if0 _ _).trans (teq hc14_8).2) ?_
        show Steps p.tables e below (s₁.setTop (mkF m 17 #[.val (.int p1), .val (.int p2), .val (.int (0 : Int32)), .unset] [])) _
        refine XS.iloadN X0.here hx rfl (hb hby d2_17) rfl ?_
        show Steps p.tables e below (s₁.setTop (mkF m 18 #[.val (.int p1), .val (.int p2), .val (.int (0 : Int32)), .unset] [(.int (0 : Int32))])) _
        refine XS.ifYes X0.here hx rfl (pc0 := 18) (pc' := 25) rfl (hb hby d2_18) rfl ((if0 _ _).trans (teq (rfl : (0 : Int32) = (0 : Int32))).1) (by decide) (by decide) ?_
        show Steps p.tables e below (s₁.setTop (mkF m 25 #[.val (.int p1), .val (.int p2), .val (.int (0 : Int32)), .unset] [])) _
        refine XS.iconst X0.here hx rfl (hb hby d2_25) ?_
        show Steps p.tables e below (s₁.setTop (mkF m 26 #[.val (.int p1), .val (.int p2), .val (.int (0 : Int32)), .unset] [(.int (1 : Int32))])) _
        exact retI X0 hx Bd.returns (hb hby d2_26) hr
      · show Q2 Z p1 p2 h0 n0 _ s₁.heap _
        rw [e0]
        refine ⟨?_, N0, rfl⟩
        show (some (.int (1 : Int32)) : Option Value) = some (.int (expF p1 p2))
        rw [show (expF p1 p2) = (1 : Int32) from by unfold expF; rw [if_neg hc4_2, if_pos hc14_8]]
    · obtain ⟨fs, hr, hrun, hended, hW, hsame⟩ := X0.leave (v := some (.int ((((1 : Int32) <<< ((p2 / (2 : Int32)) &&& 31)) ||| ((1 : Int32) <<< ((((p2 / (2 : Int32)) + (1 : Int32)) % (6 : Int32)) &&& 31))) ||| ((1 : Int32) <<< ((((p2 / (2 : Int32)) + (5 : Int32)) % (6 : Int32)) &&& 31))))) (fun h => by rw [Bd.returns] at h; cases h)
      refine ⟨_, _, pre7 _ ?_, hrun, hended, _, _, rfl, ?_, ⟨_, rfl⟩, hW, hsame.mono (by decide) (by decide)⟩
      · show Steps p.tables e below (s₁.setTop (mkF m 14 #[.val (.int p1), .val (.int p2), .val (.int (0 : Int32)), .unset] [(.int p1)])) _
        refine XS.ifYes X0.here hx rfl (pc0 := 14) (pc' := 27) rfl (hb hby d2_14) rfl ((if0 _ _).trans (feq hc14_8).2) (by decide) (by decide) ?_
        show Steps p.tables e below (s₁.setTop (mkF m 27 #[.val (.int p1), .val (.int p2), .val (.int (0 : Int32)), .unset] [])) _
        refine XS.iloadN X0.here hx rfl (hb hby d2_27) rfl ?_
        show Steps p.tables e below (s₁.setTop (mkF m 28 #[.val (.int p1), .val (.int p2), .val (.int (0 : Int32)), .unset] [(.int (0 : Int32))])) _
        refine XS.ifYes X0.here hx rfl (pc0 := 28) (pc' := 34) rfl (hb hby d2_28) rfl ((if0 _ _).trans (teq (rfl : (0 : Int32) = (0 : Int32))).1) (by decide) (by decide) ?_
        show Steps p.tables e below (s₁.setTop (mkF m 34 #[.val (.int p1), .val (.int p2), .val (.int (0 : Int32)), .unset] [])) _
        refine XS.iloadN X0.here hx rfl (hb hby d2_34) rfl ?_
        show Steps p.tables e below (s₁.setTop (mkF m 35 #[.val (.int p1), .val (.int p2), .val (.int (0 : Int32)), .unset] [(.int p2)])) _
        refine XS.iconst X0.here hx rfl (hb hby d2_35) ?_
        show Steps p.tables e below (s₁.setTop (mkF m 36 #[.val (.int p1), .val (.int p2), .val (.int (0 : Int32)), .unset] [(.int (2 : Int32)), (.int p2)])) _
        refine XS.idiv X0.here hx rfl (hb hby d2_36) rfl (by decide) ?_
        show Steps p.tables e below (s₁.setTop (mkF m 37 #[.val (.int p1), .val (.int p2), .val (.int (0 : Int32)), .unset] [(.int (p2 / (2 : Int32)))])) _
        refine XS.istoreN X0.here hx rfl (hb hby d2_37) rfl (l' := #[.val (.int p1), .val (.int p2), .val (.int (0 : Int32)), .val (.int (p2 / (2 : Int32)))]) rfl ?_
        show Steps p.tables e below (s₁.setTop (mkF m 38 #[.val (.int p1), .val (.int p2), .val (.int (0 : Int32)), .val (.int (p2 / (2 : Int32)))] [])) _
        refine XS.iconst X0.here hx rfl (hb hby d2_38) ?_
        show Steps p.tables e below (s₁.setTop (mkF m 39 #[.val (.int p1), .val (.int p2), .val (.int (0 : Int32)), .val (.int (p2 / (2 : Int32)))] [(.int (1 : Int32))])) _
        refine XS.iloadN X0.here hx rfl (hb hby d2_39) rfl ?_
        show Steps p.tables e below (s₁.setTop (mkF m 40 #[.val (.int p1), .val (.int p2), .val (.int (0 : Int32)), .val (.int (p2 / (2 : Int32)))] [(.int (p2 / (2 : Int32))), (.int (1 : Int32))])) _
        refine XS.ishl X0.here hx rfl (hb hby d2_40) rfl ?_
        show Steps p.tables e below (s₁.setTop (mkF m 41 #[.val (.int p1), .val (.int p2), .val (.int (0 : Int32)), .val (.int (p2 / (2 : Int32)))] [(.int ((1 : Int32) <<< ((p2 / (2 : Int32)) &&& 31)))])) _
        refine XS.iconst X0.here hx rfl (hb hby d2_41) ?_
        show Steps p.tables e below (s₁.setTop (mkF m 42 #[.val (.int p1), .val (.int p2), .val (.int (0 : Int32)), .val (.int (p2 / (2 : Int32)))] [(.int (1 : Int32)), (.int ((1 : Int32) <<< ((p2 / (2 : Int32)) &&& 31)))])) _
        refine XS.iloadN X0.here hx rfl (hb hby d2_42) rfl ?_
        show Steps p.tables e below (s₁.setTop (mkF m 43 #[.val (.int p1), .val (.int p2), .val (.int (0 : Int32)), .val (.int (p2 / (2 : Int32)))] [(.int (p2 / (2 : Int32))), (.int (1 : Int32)), (.int ((1 : Int32) <<< ((p2 / (2 : Int32)) &&& 31)))])) _
        refine XS.iconst X0.here hx rfl (hb hby d2_43) ?_
        show Steps p.tables e below (s₁.setTop (mkF m 44 #[.val (.int p1), .val (.int p2), .val (.int (0 : Int32)), .val (.int (p2 / (2 : Int32)))] [(.int (1 : Int32)), (.int (p2 / (2 : Int32))), (.int (1 : Int32)), (.int ((1 : Int32) <<< ((p2 / (2 : Int32)) &&& 31)))])) _
        refine XS.iadd X0.here hx rfl (hb hby d2_44) rfl ?_
        show Steps p.tables e below (s₁.setTop (mkF m 45 #[.val (.int p1), .val (.int p2), .val (.int (0 : Int32)), .val (.int (p2 / (2 : Int32)))] [(.int ((p2 / (2 : Int32)) + (1 : Int32))), (.int (1 : Int32)), (.int ((1 : Int32) <<< ((p2 / (2 : Int32)) &&& 31)))])) _
        refine XS.bipush X0.here hx rfl (hb hby d2_45) ?_
        show Steps p.tables e below (s₁.setTop (mkF m 47 #[.val (.int p1), .val (.int p2), .val (.int (0 : Int32)), .val (.int (p2 / (2 : Int32)))] [(.int (6 : Int32)), (.int ((p2 / (2 : Int32)) + (1 : Int32))), (.int (1 : Int32)), (.int ((1 : Int32) <<< ((p2 / (2 : Int32)) &&& 31)))])) _
        refine iremM X0 hx rfl (hb hby d2_47) rfl (by decide) ?_
        show Steps p.tables e below (s₁.setTop (mkF m 48 #[.val (.int p1), .val (.int p2), .val (.int (0 : Int32)), .val (.int (p2 / (2 : Int32)))] [(.int (((p2 / (2 : Int32)) + (1 : Int32)) % (6 : Int32))), (.int (1 : Int32)), (.int ((1 : Int32) <<< ((p2 / (2 : Int32)) &&& 31)))])) _
        refine XS.ishl X0.here hx rfl (hb hby d2_48) rfl ?_
        show Steps p.tables e below (s₁.setTop (mkF m 49 #[.val (.int p1), .val (.int p2), .val (.int (0 : Int32)), .val (.int (p2 / (2 : Int32)))] [(.int ((1 : Int32) <<< ((((p2 / (2 : Int32)) + (1 : Int32)) % (6 : Int32)) &&& 31))), (.int ((1 : Int32) <<< ((p2 / (2 : Int32)) &&& 31)))])) _
        refine XS.ior X0.here hx rfl (hb hby d2_49) rfl ?_
        show Steps p.tables e below (s₁.setTop (mkF m 50 #[.val (.int p1), .val (.int p2), .val (.int (0 : Int32)), .val (.int (p2 / (2 : Int32)))] [(.int (((1 : Int32) <<< ((p2 / (2 : Int32)) &&& 31)) ||| ((1 : Int32) <<< ((((p2 / (2 : Int32)) + (1 : Int32)) % (6 : Int32)) &&& 31))))])) _
        refine XS.iconst X0.here hx rfl (hb hby d2_50) ?_
        show Steps p.tables e below (s₁.setTop (mkF m 51 #[.val (.int p1), .val (.int p2), .val (.int (0 : Int32)), .val (.int (p2 / (2 : Int32)))] [(.int (1 : Int32)), (.int (((1 : Int32) <<< ((p2 / (2 : Int32)) &&& 31)) ||| ((1 : Int32) <<< ((((p2 / (2 : Int32)) + (1 : Int32)) % (6 : Int32)) &&& 31))))])) _
        refine XS.iloadN X0.here hx rfl (hb hby d2_51) rfl ?_
        show Steps p.tables e below (s₁.setTop (mkF m 52 #[.val (.int p1), .val (.int p2), .val (.int (0 : Int32)), .val (.int (p2 / (2 : Int32)))] [(.int (p2 / (2 : Int32))), (.int (1 : Int32)), (.int (((1 : Int32) <<< ((p2 / (2 : Int32)) &&& 31)) ||| ((1 : Int32) <<< ((((p2 / (2 : Int32)) + (1 : Int32)) % (6 : Int32)) &&& 31))))])) _
        refine XS.iconst X0.here hx rfl (hb hby d2_52) ?_
        show Steps p.tables e below (s₁.setTop (mkF m 53 #[.val (.int p1), .val (.int p2), .val (.int (0 : Int32)), .val (.int (p2 / (2 : Int32)))] [(.int (5 : Int32)), (.int (p2 / (2 : Int32))), (.int (1 : Int32)), (.int (((1 : Int32) <<< ((p2 / (2 : Int32)) &&& 31)) ||| ((1 : Int32) <<< ((((p2 / (2 : Int32)) + (1 : Int32)) % (6 : Int32)) &&& 31))))])) _
        refine XS.iadd X0.here hx rfl (hb hby d2_53) rfl ?_
        show Steps p.tables e below (s₁.setTop (mkF m 54 #[.val (.int p1), .val (.int p2), .val (.int (0 : Int32)), .val (.int (p2 / (2 : Int32)))] [(.int ((p2 / (2 : Int32)) + (5 : Int32))), (.int (1 : Int32)), (.int (((1 : Int32) <<< ((p2 / (2 : Int32)) &&& 31)) ||| ((1 : Int32) <<< ((((p2 / (2 : Int32)) + (1 : Int32)) % (6 : Int32)) &&& 31))))])) _
        refine XS.bipush X0.here hx rfl (hb hby d2_54) ?_
        show Steps p.tables e below (s₁.setTop (mkF m 56 #[.val (.int p1), .val (.int p2), .val (.int (0 : Int32)), .val (.int (p2 / (2 : Int32)))] [(.int (6 : Int32)), (.int ((p2 / (2 : Int32)) + (5 : Int32))), (.int (1 : Int32)), (.int (((1 : Int32) <<< ((p2 / (2 : Int32)) &&& 31)) ||| ((1 : Int32) <<< ((((p2 / (2 : Int32)) + (1 : Int32)) % (6 : Int32)) &&& 31))))])) _
        refine iremM X0 hx rfl (hb hby d2_56) rfl (by decide) ?_
        show Steps p.tables e below (s₁.setTop (mkF m 57 #[.val (.int p1), .val (.int p2), .val (.int (0 : Int32)), .val (.int (p2 / (2 : Int32)))] [(.int (((p2 / (2 : Int32)) + (5 : Int32)) % (6 : Int32))), (.int (1 : Int32)), (.int (((1 : Int32) <<< ((p2 / (2 : Int32)) &&& 31)) ||| ((1 : Int32) <<< ((((p2 / (2 : Int32)) + (1 : Int32)) % (6 : Int32)) &&& 31))))])) _
        refine XS.ishl X0.here hx rfl (hb hby d2_57) rfl ?_
        show Steps p.tables e below (s₁.setTop (mkF m 58 #[.val (.int p1), .val (.int p2), .val (.int (0 : Int32)), .val (.int (p2 / (2 : Int32)))] [(.int ((1 : Int32) <<< ((((p2 / (2 : Int32)) + (5 : Int32)) % (6 : Int32)) &&& 31))), (.int (((1 : Int32) <<< ((p2 / (2 : Int32)) &&& 31)) ||| ((1 : Int32) <<< ((((p2 / (2 : Int32)) + (1 : Int32)) % (6 : Int32)) &&& 31))))])) _
        refine XS.ior X0.here hx rfl (hb hby d2_58) rfl ?_
        show Steps p.tables e below (s₁.setTop (mkF m 59 #[.val (.int p1), .val (.int p2), .val (.int (0 : Int32)), .val (.int (p2 / (2 : Int32)))] [(.int ((((1 : Int32) <<< ((p2 / (2 : Int32)) &&& 31)) ||| ((1 : Int32) <<< ((((p2 / (2 : Int32)) + (1 : Int32)) % (6 : Int32)) &&& 31))) ||| ((1 : Int32) <<< ((((p2 / (2 : Int32)) + (5 : Int32)) % (6 : Int32)) &&& 31))))])) _
        exact retI X0 hx Bd.returns (hb hby d2_59) hr
      · show Q2 Z p1 p2 h0 n0 _ s₁.heap _
        rw [e0]
        refine ⟨?_, N0, rfl⟩
        show (some (.int ((((1 : Int32) <<< ((p2 / (2 : Int32)) &&& 31)) ||| ((1 : Int32) <<< ((((p2 / (2 : Int32)) + (1 : Int32)) % (6 : Int32)) &&& 31))) ||| ((1 : Int32) <<< ((((p2 / (2 : Int32)) + (5 : Int32)) % (6 : Int32)) &&& 31)))) : Option Value) = some (.int (expF p1 p2))
        rw [show (expF p1 p2) = ((((1 : Int32) <<< ((p2 / (2 : Int32)) &&& 31)) ||| ((1 : Int32) <<< ((((p2 / (2 : Int32)) + (1 : Int32)) % (6 : Int32)) &&& 31))) ||| ((1 : Int32) <<< ((((p2 / (2 : Int32)) + (5 : Int32)) % (6 : Int32)) &&& 31))) from by unfold expF; rw [if_neg hc4_2, if_neg hc14_8]]
theorem own_eq1 (j : Int32) (h1 : ¬ j < 0) (h2 : j < 12) : srcF 1 j = expF 1 j := by
  rcases own_cases j h1 h2 with rfl | rfl | rfl | rfl | rfl | rfl | rfl | rfl | rfl | rfl | rfl | rfl <;> decide +kernel
theorem own_eq0 (j : Int32) (h1 : ¬ j < 0) (h2 : j < 12) : srcF 0 j = expF 0 j := by
  rcases own_cases j h1 h2 with rfl | rfl | rfl | rfl | rfl | rfl | rfl | rfl | rfl | rfl | rfl | rfl <;> decide +kernel
theorem own_step (z : Int32) : ¬ ((z &&& (2147483647 : Int32)) % (12 : Int32)) < 0 ∧ ((z &&& (2147483647 : Int32)) % (12 : Int32)) < 12 := by
  have h := c_and z 2147483647 (by decide)
  have r := (c_irem (z &&& (2147483647 : Int32)) 12 12 rfl).1 h.1
  rw [Int32.lt_iff_toInt_lt, Int32.lt_iff_toInt_lt, r]
  have e0 : (0 : Int32).toInt = 0 := rfl
  have e12 : (12 : Int32).toInt = 12 := rfl
  rw [e0, e12]
  omega
theorem pd_0 : parseMethodDescriptor "(ZI)I" = some ⟨[.boolean, .int], some .int⟩ := by decide +kernel
theorem ef_rm0 (m : MethodId) (x0 : Int32) (x1 : Int32) : entryFrame m #[(.int x0), (.int x1)] maxLocals = mkF m 0 #[.val (.int x0), .val (.int x1), .unset, .unset, .unset] [] := by first | (simp [entryFrame, mkF, argsToLocals, Value.category, maxLocals]; done) | rfl
def Q0 (Z : State) (p1 : Int32) (p2 : Int32) (aU : Addr) (cl : Cell) (h0 : Heap) (n0 : Nat) (v : Option Value) (h : Heap) (L : List Loc) : Prop := v = some (.int 1) ∧ Fr n0 L
set_option maxRecDepth 65536 in
set_option maxHeartbeats 40000000 in
theorem rm0 (l : Launch) (Z : State) (a0 : Array Value) (hw : ∀ d ∈ tables_1, d.before a0 Z = true) (ws : List Jvm.Cond) (p1 : Int32) (p2 : Int32) (aU : Addr) (cl : Cell) (h0 : Heap) (n0 : Nat) (Z0 : n0 ≤ h0.size) (S_U : Sta Z h0 "com/example/ticinus/ticinus/battle/Movement" "UNIT_SOURCES" "[I" (.ref aU)) (S_L : Sta Z h0 "com/example/ticinus/ticinus/battle/Movement" "LEADER_STEPS" "I" (.int (1365 : Int32))) (Ar : Arr Z h0 aU cl .int) (hsz : cl.slots.size = 12) (hat : ∀ j : Int32, ¬ j < 0 → j < 12 → cl.slots[j.toNatClampNeg]? = some (.int (unitSrc j))) :
    MetFree l x (head1 (Jvm.Cond.code x code maxLocals ret :: ws) room_1) (fun a U => a = #[(.int p1), (.int p2)] ∧ Z.Warmed39 U.vm ∧ U.heap = h0) (fun _ _ _ _ _ => True) (fun _ U o U' => ∃ v L, o = .returned v ∧ Q0 Z p1 p2 aU cl h0 n0 v U'.heap L ∧ FrameEnd U o U' L room_1.cells room_1.slots) := by
  refine MetFree.of_bodySF (plainFor_of_name pn_1) hisR ?_
  intro p e s m args below meth c s₁ Bd hml0 hP hK
  obtain ⟨rfl, hZ, hh⟩ := hP
  have hx := Bd.exec
  have hby := Bd.bytes
  have hml : c.maxLocals = 5 := hml0
  have hown : s.vm.findClass "com/example/ticinus/ticinus/battle/MovementSourcesPinLaw" = some m.cls := findClass_of_methodNamed Bd.named
  have hnm := (name_of_methodNamed Bd.named Bd.method).1
  have X0 : Stand p l e room_1 s m #[(.int p1), (.int p2)] below meth c s₁ [] 0 0 := Stand.of_body Bd
  have e0 : s₁.heap = h0 := by rw [← hh, Bd.state]; rfl
  have N0 := Fr.nil n0
  have pre0 : ∀ t, Steps p.tables e below (s₁.setTop (mkF m 0 #[.val (.int p1), .val (.int p2), .unset, .unset, .unset] [])) t → Steps p.tables e below (s₁.setTop (entryFrame m #[(.int p1), (.int p2)] maxLocals)) t := fun t k => castTop (ef_rm0 m p1 p2) k
  have pre1 : ∀ t, Steps p.tables e below (s₁.setTop (mkF m 3 #[.val (.int p1), .val (.int p2), .unset, .unset, .unset] [(.int (p1 &&& (1 : Int32)))])) t → Steps p.tables e below (s₁.setTop (entryFrame m #[(.int p1), (.int p2)] maxLocals)) t := by
    intro t kt
    refine pre0 t ?_
    show Steps p.tables e below (s₁.setTop (mkF m 0 #[.val (.int p1), .val (.int p2), .unset, .unset, .unset] [])) _
    refine XS.iloadN X0.here hx rfl (hb hby at_0) rfl ?_
    show Steps p.tables e below (s₁.setTop (mkF m 1 #[.val (.int p1), .val (.int p2), .unset, .unset, .unset] [(.int p1)])) _
    refine XS.iconst X0.here hx rfl (hb hby at_1) ?_
    show Steps p.tables e below (s₁.setTop (mkF m 2 #[.val (.int p1), .val (.int p2), .unset, .unset, .unset] [(.int (1 : Int32)), (.int p1)])) _
    refine XS.iand X0.here hx rfl (hb hby at_2) rfl ?_
    show Steps p.tables e below (s₁.setTop (mkF m 3 #[.val (.int p1), .val (.int p2), .unset, .unset, .unset] [(.int (p1 &&& (1 : Int32)))])) _
    exact kt
  by_cases hc3_2 : (p1 &&& (1 : Int32)) = (0 : Int32)
  · obtain ⟨_, _, ⟨T3, L3, k3, n3⟩, -, X3, ⟨Lc3, hQ3, l3, y3, z3⟩, st3⟩ := Jvm.LawKit.callS X0 hx (y := (⟨"com/example/ticinus/ticinus/battle/Movement", "sources", "(ZI)I"⟩ : MethodName)) hown (mvT hZ (hw _ (List.mem_of_getElem? (i := 1) rfl))) (mvT hZ (hw _ (List.mem_of_getElem? (i := 2) rfl))) (mvT hZ (hw _ (List.mem_of_getElem? (i := 3) rfl))) (mvT hZ (hw _ (List.mem_of_getElem? (i := 4) rfl))) (by decide) (backOf (W := 0) (rm1 l Z a0 hw [] (0 : Int32) ((p2 &&& (2147483647 : Int32)) % (12 : Int32)) aU cl h0 n0 Z0 S_U S_L Ar hsz hat (own_step p2).1 (own_step p2).2) hZ (hw _ (List.mem_of_getElem? (i := 4) rfl)) (hw _ (List.mem_of_getElem? (i := 3) rfl)) (by decide) (by decide)) (g := (mkF m 22 #[.val (.int p1), .val (.int p2), .val (.int (0 : Int32)), .val (.int ((p2 &&& (2147483647 : Int32)) % (12 : Int32))), .unset] [(.int ((p2 &&& (2147483647 : Int32)) % (12 : Int32))), (.int (0 : Int32))])) rfl (by rw [hml]; rfl) (argsL := [(.int (0 : Int32)), (.int ((p2 &&& (2147483647 : Int32)) % (12 : Int32)))]) (rest := []) (lenOf pd_0 rfl) rfl (by show 2 * 0 + _ ≤ _; exact Nat.le_of_eq rfl) (hb hby at_22) (fun _ _ => ⟨rfl, e0, (by decide : 0 + 0 ≤ _), (by decide : 0 + 0 ≤ _)⟩)
    dsimp only [Pt.U, Pt.locs, Pt.cells, Pt.slots] at X3 l3 y3 z3 st3 hQ3
    subst l3 y3 z3
    obtain ⟨rfl, N3q, e3⟩ := hQ3
    have N3 := Fr.app N0 N3q
    obtain ⟨_, _, ⟨T4, L4, k4, n4⟩, -, X4, ⟨Lc4, hQ4, l4, y4, z4⟩, st4⟩ := Jvm.LawKit.callS X3 hx (y := (⟨"com/example/ticinus/ticinus/battle/MovementSourcesPinLaw", "expected", "(ZI)I"⟩ : MethodName)) hown (mvT hZ (hw _ (List.mem_of_getElem? (i := 7) rfl))) (mvT hZ (hw _ (List.mem_of_getElem? (i := 8) rfl))) (mvT hZ (hw _ (List.mem_of_getElem? (i := 9) rfl))) (mvT hZ (hw _ (List.mem_of_getElem? (i := 10) rfl))) (by decide) (backOf (W := 1) (rm2 l Z a0 hw [] (0 : Int32) ((p2 &&& (2147483647 : Int32)) % (12 : Int32)) h0 n0 Z0 ) hZ (hw _ (List.mem_of_getElem? (i := 10) rfl)) (hw _ (List.mem_of_getElem? (i := 9) rfl)) (by decide) (by decide)) (g := (mkF m 31 #[.val (.int p1), .val (.int p2), .val (.int (0 : Int32)), .val (.int ((p2 &&& (2147483647 : Int32)) % (12 : Int32))), .val (.int (srcF (0 : Int32) ((p2 &&& (2147483647 : Int32)) % (12 : Int32))))] [(.int ((p2 &&& (2147483647 : Int32)) % (12 : Int32))), (.int (0 : Int32)), (.int (srcF (0 : Int32) ((p2 &&& (2147483647 : Int32)) % (12 : Int32))))])) rfl (by rw [hml]; rfl) (argsL := [(.int (0 : Int32)), (.int ((p2 &&& (2147483647 : Int32)) % (12 : Int32)))]) (rest := [(.int (srcF (0 : Int32) ((p2 &&& (2147483647 : Int32)) % (12 : Int32))))]) (lenOf pd_0 rfl) rfl (by show 2 * 0 + _ ≤ _; exact Nat.le_of_eq rfl) (hb hby at_31) (fun _ _ => ⟨rfl, e3, (by decide : 0 + 0 ≤ _), (by decide : 0 + 0 ≤ _)⟩)
    dsimp only [Pt.U, Pt.locs, Pt.cells, Pt.slots] at X4 l4 y4 z4 st4 hQ4
    subst l4 y4 z4
    obtain ⟨rfl, N4q, e4⟩ := hQ4
    have N4 := Fr.app N3 N4q
    obtain ⟨fs, hr, hrun, hended, hW, hsame⟩ := X4.leave (v := some (.int (1 : Int32))) (fun h => by rw [Bd.returns] at h; cases h)
    refine ⟨_, _, pre1 _ ?_, hrun, hended, _, _, rfl, ?_, ⟨_, rfl⟩, hW, hsame.mono (by decide) (by decide)⟩
    · show Steps p.tables e below (s₁.setTop (mkF m 3 #[.val (.int p1), .val (.int p2), .unset, .unset, .unset] [(.int (p1 &&& (1 : Int32)))])) _
      refine XS.ifYes X0.here hx rfl (pc0 := 3) (pc' := 10) rfl (hb hby at_3) rfl ((if0 _ _).trans (teq hc3_2).1) (by decide) (by decide) ?_
      show Steps p.tables e below (s₁.setTop (mkF m 10 #[.val (.int p1), .val (.int p2), .unset, .unset, .unset] [])) _
      refine XS.iconst X0.here hx rfl (hb hby at_10) ?_
      show Steps p.tables e below (s₁.setTop (mkF m 11 #[.val (.int p1), .val (.int p2), .unset, .unset, .unset] [(.int (0 : Int32))])) _
      refine XS.istoreN X0.here hx rfl (hb hby at_11) rfl (l' := #[.val (.int p1), .val (.int p2), .val (.int (0 : Int32)), .unset, .unset]) rfl ?_
      show Steps p.tables e below (s₁.setTop (mkF m 12 #[.val (.int p1), .val (.int p2), .val (.int (0 : Int32)), .unset, .unset] [])) _
      refine XS.iloadN X0.here hx rfl (hb hby at_12) rfl ?_
      show Steps p.tables e below (s₁.setTop (mkF m 13 #[.val (.int p1), .val (.int p2), .val (.int (0 : Int32)), .unset, .unset] [(.int p2)])) _
      refine X0.ldcInt hx hown (mvT hZ (hw _ (List.mem_of_getElem? (i := 0) rfl))) (g := (mkF m 13 #[.val (.int p1), .val (.int p2), .val (.int (0 : Int32)), .unset, .unset] [(.int p2)])) rfl (hb hby at_13) _ ?_
      show Steps p.tables e below (s₁.setTop (mkF m 15 #[.val (.int p1), .val (.int p2), .val (.int (0 : Int32)), .unset, .unset] [(.int (2147483647 : Int32)), (.int p2)])) _
      refine XS.iand X0.here hx rfl (hb hby at_15) rfl ?_
      show Steps p.tables e below (s₁.setTop (mkF m 16 #[.val (.int p1), .val (.int p2), .val (.int (0 : Int32)), .unset, .unset] [(.int (p2 &&& (2147483647 : Int32)))])) _
      refine XS.bipush X0.here hx rfl (hb hby at_16) ?_
      show Steps p.tables e below (s₁.setTop (mkF m 18 #[.val (.int p1), .val (.int p2), .val (.int (0 : Int32)), .unset, .unset] [(.int (12 : Int32)), (.int (p2 &&& (2147483647 : Int32)))])) _
      refine iremM X0 hx rfl (hb hby at_18) rfl (by decide) ?_
      show Steps p.tables e below (s₁.setTop (mkF m 19 #[.val (.int p1), .val (.int p2), .val (.int (0 : Int32)), .unset, .unset] [(.int ((p2 &&& (2147483647 : Int32)) % (12 : Int32)))])) _
      refine XS.istoreN X0.here hx rfl (hb hby at_19) rfl (l' := #[.val (.int p1), .val (.int p2), .val (.int (0 : Int32)), .val (.int ((p2 &&& (2147483647 : Int32)) % (12 : Int32))), .unset]) rfl ?_
      show Steps p.tables e below (s₁.setTop (mkF m 20 #[.val (.int p1), .val (.int p2), .val (.int (0 : Int32)), .val (.int ((p2 &&& (2147483647 : Int32)) % (12 : Int32))), .unset] [])) _
      refine XS.iloadN X0.here hx rfl (hb hby at_20) rfl ?_
      show Steps p.tables e below (s₁.setTop (mkF m 21 #[.val (.int p1), .val (.int p2), .val (.int (0 : Int32)), .val (.int ((p2 &&& (2147483647 : Int32)) % (12 : Int32))), .unset] [(.int (0 : Int32))])) _
      refine XS.iloadN X0.here hx rfl (hb hby at_21) rfl ?_
      show Steps p.tables e below (s₁.setTop (mkF m 22 #[.val (.int p1), .val (.int p2), .val (.int (0 : Int32)), .val (.int ((p2 &&& (2147483647 : Int32)) % (12 : Int32))), .unset] [(.int ((p2 &&& (2147483647 : Int32)) % (12 : Int32))), (.int (0 : Int32))])) _
      refine st3 _ ?_
      show Steps p.tables e below (T3.setTop (mkF m 25 #[.val (.int p1), .val (.int p2), .val (.int (0 : Int32)), .val (.int ((p2 &&& (2147483647 : Int32)) % (12 : Int32))), .unset] [(.int (srcF (0 : Int32) ((p2 &&& (2147483647 : Int32)) % (12 : Int32))))])) _
      refine XS.istore X3.here hx rfl (hb hby at_25) rfl (l' := #[.val (.int p1), .val (.int p2), .val (.int (0 : Int32)), .val (.int ((p2 &&& (2147483647 : Int32)) % (12 : Int32))), .val (.int (srcF (0 : Int32) ((p2 &&& (2147483647 : Int32)) % (12 : Int32))))]) rfl ?_
      show Steps p.tables e below (T3.setTop (mkF m 27 #[.val (.int p1), .val (.int p2), .val (.int (0 : Int32)), .val (.int ((p2 &&& (2147483647 : Int32)) % (12 : Int32))), .val (.int (srcF (0 : Int32) ((p2 &&& (2147483647 : Int32)) % (12 : Int32))))] [])) _
      refine XS.iload X3.here hx rfl (hb hby at_27) rfl ?_
      show Steps p.tables e below (T3.setTop (mkF m 29 #[.val (.int p1), .val (.int p2), .val (.int (0 : Int32)), .val (.int ((p2 &&& (2147483647 : Int32)) % (12 : Int32))), .val (.int (srcF (0 : Int32) ((p2 &&& (2147483647 : Int32)) % (12 : Int32))))] [(.int (srcF (0 : Int32) ((p2 &&& (2147483647 : Int32)) % (12 : Int32))))])) _
      refine XS.iloadN X3.here hx rfl (hb hby at_29) rfl ?_
      show Steps p.tables e below (T3.setTop (mkF m 30 #[.val (.int p1), .val (.int p2), .val (.int (0 : Int32)), .val (.int ((p2 &&& (2147483647 : Int32)) % (12 : Int32))), .val (.int (srcF (0 : Int32) ((p2 &&& (2147483647 : Int32)) % (12 : Int32))))] [(.int (0 : Int32)), (.int (srcF (0 : Int32) ((p2 &&& (2147483647 : Int32)) % (12 : Int32))))])) _
      refine XS.iloadN X3.here hx rfl (hb hby at_30) rfl ?_
      show Steps p.tables e below (T3.setTop (mkF m 31 #[.val (.int p1), .val (.int p2), .val (.int (0 : Int32)), .val (.int ((p2 &&& (2147483647 : Int32)) % (12 : Int32))), .val (.int (srcF (0 : Int32) ((p2 &&& (2147483647 : Int32)) % (12 : Int32))))] [(.int ((p2 &&& (2147483647 : Int32)) % (12 : Int32))), (.int (0 : Int32)), (.int (srcF (0 : Int32) ((p2 &&& (2147483647 : Int32)) % (12 : Int32))))])) _
      refine st4 _ ?_
      show Steps p.tables e below (T4.setTop (mkF m 34 #[.val (.int p1), .val (.int p2), .val (.int (0 : Int32)), .val (.int ((p2 &&& (2147483647 : Int32)) % (12 : Int32))), .val (.int (srcF (0 : Int32) ((p2 &&& (2147483647 : Int32)) % (12 : Int32))))] [(.int (expF (0 : Int32) ((p2 &&& (2147483647 : Int32)) % (12 : Int32)))), (.int (srcF (0 : Int32) ((p2 &&& (2147483647 : Int32)) % (12 : Int32))))])) _
      refine XS.icmpNo X4.here hx rfl (hb hby at_34) rfl (teq (own_eq0 _ (own_step p2).1 (own_step p2).2 : (srcF (0 : Int32) ((p2 &&& (2147483647 : Int32)) % (12 : Int32))) = (expF (0 : Int32) ((p2 &&& (2147483647 : Int32)) % (12 : Int32))))).2 ?_
      show Steps p.tables e below (T4.setTop (mkF m 37 #[.val (.int p1), .val (.int p2), .val (.int (0 : Int32)), .val (.int ((p2 &&& (2147483647 : Int32)) % (12 : Int32))), .val (.int (srcF (0 : Int32) ((p2 &&& (2147483647 : Int32)) % (12 : Int32))))] [])) _
      refine XS.iconst X4.here hx rfl (hb hby at_37) ?_
      show Steps p.tables e below (T4.setTop (mkF m 38 #[.val (.int p1), .val (.int p2), .val (.int (0 : Int32)), .val (.int ((p2 &&& (2147483647 : Int32)) % (12 : Int32))), .val (.int (srcF (0 : Int32) ((p2 &&& (2147483647 : Int32)) % (12 : Int32))))] [(.int (1 : Int32))])) _
      refine XS.goto X4.here hx rfl (pc0 := 38) (pc' := 42) rfl (hb hby at_38) (by decide) (by decide) ?_
      show Steps p.tables e below (T4.setTop (mkF m 42 #[.val (.int p1), .val (.int p2), .val (.int (0 : Int32)), .val (.int ((p2 &&& (2147483647 : Int32)) % (12 : Int32))), .val (.int (srcF (0 : Int32) ((p2 &&& (2147483647 : Int32)) % (12 : Int32))))] [(.int (1 : Int32))])) _
      exact retN X4 hx (t := .boolean) Bd.returns (by simp) (hb hby at_42) hr
    · show Q0 Z p1 p2 aU cl h0 n0 _ T4.heap _
      rw [e4]
      exact ⟨rfl, N4⟩
  · obtain ⟨_, _, ⟨T6, L6, k6, n6⟩, -, X6, ⟨Lc6, hQ6, l6, y6, z6⟩, st6⟩ := Jvm.LawKit.callS X0 hx (y := (⟨"com/example/ticinus/ticinus/battle/Movement", "sources", "(ZI)I"⟩ : MethodName)) hown (mvT hZ (hw _ (List.mem_of_getElem? (i := 1) rfl))) (mvT hZ (hw _ (List.mem_of_getElem? (i := 2) rfl))) (mvT hZ (hw _ (List.mem_of_getElem? (i := 3) rfl))) (mvT hZ (hw _ (List.mem_of_getElem? (i := 4) rfl))) (by decide) (backOf (W := 0) (rm1 l Z a0 hw [] (1 : Int32) ((p2 &&& (2147483647 : Int32)) % (12 : Int32)) aU cl h0 n0 Z0 S_U S_L Ar hsz hat (own_step p2).1 (own_step p2).2) hZ (hw _ (List.mem_of_getElem? (i := 4) rfl)) (hw _ (List.mem_of_getElem? (i := 3) rfl)) (by decide) (by decide)) (g := (mkF m 22 #[.val (.int p1), .val (.int p2), .val (.int (1 : Int32)), .val (.int ((p2 &&& (2147483647 : Int32)) % (12 : Int32))), .unset] [(.int ((p2 &&& (2147483647 : Int32)) % (12 : Int32))), (.int (1 : Int32))])) rfl (by rw [hml]; rfl) (argsL := [(.int (1 : Int32)), (.int ((p2 &&& (2147483647 : Int32)) % (12 : Int32)))]) (rest := []) (lenOf pd_0 rfl) rfl (by show 2 * 0 + _ ≤ _; exact Nat.le_of_eq rfl) (hb hby at_22) (fun _ _ => ⟨rfl, e0, (by decide : 0 + 0 ≤ _), (by decide : 0 + 0 ≤ _)⟩)
    dsimp only [Pt.U, Pt.locs, Pt.cells, Pt.slots] at X6 l6 y6 z6 st6 hQ6
    subst l6 y6 z6
    obtain ⟨rfl, N6q, e6⟩ := hQ6
    have N6 := Fr.app N0 N6q
    obtain ⟨_, _, ⟨T7, L7, k7, n7⟩, -, X7, ⟨Lc7, hQ7, l7, y7, z7⟩, st7⟩ := Jvm.LawKit.callS X6 hx (y := (⟨"com/example/ticinus/ticinus/battle/MovementSourcesPinLaw", "expected", "(ZI)I"⟩ : MethodName)) hown (mvT hZ (hw _ (List.mem_of_getElem? (i := 7) rfl))) (mvT hZ (hw _ (List.mem_of_getElem? (i := 8) rfl))) (mvT hZ (hw _ (List.mem_of_getElem? (i := 9) rfl))) (mvT hZ (hw _ (List.mem_of_getElem? (i := 10) rfl))) (by decide) (backOf (W := 1) (rm2 l Z a0 hw [] (1 : Int32) ((p2 &&& (2147483647 : Int32)) % (12 : Int32)) h0 n0 Z0 ) hZ (hw _ (List.mem_of_getElem? (i := 10) rfl)) (hw _ (List.mem_of_getElem? (i := 9) rfl)) (by decide) (by decide)) (g := (mkF m 31 #[.val (.int p1), .val (.int p2), .val (.int (1 : Int32)), .val (.int ((p2 &&& (2147483647 : Int32)) % (12 : Int32))), .val (.int (srcF (1 : Int32) ((p2 &&& (2147483647 : Int32)) % (12 : Int32))))] [(.int ((p2 &&& (2147483647 : Int32)) % (12 : Int32))), (.int (1 : Int32)), (.int (srcF (1 : Int32) ((p2 &&& (2147483647 : Int32)) % (12 : Int32))))])) rfl (by rw [hml]; rfl) (argsL := [(.int (1 : Int32)), (.int ((p2 &&& (2147483647 : Int32)) % (12 : Int32)))]) (rest := [(.int (srcF (1 : Int32) ((p2 &&& (2147483647 : Int32)) % (12 : Int32))))]) (lenOf pd_0 rfl) rfl (by show 2 * 0 + _ ≤ _; exact Nat.le_of_eq rfl) (hb hby at_31) (fun _ _ => ⟨rfl, e6, (by decide : 0 + 0 ≤ _), (by decide : 0 + 0 ≤ _)⟩)
    dsimp only [Pt.U, Pt.locs, Pt.cells, Pt.slots] at X7 l7 y7 z7 st7 hQ7
    subst l7 y7 z7
    obtain ⟨rfl, N7q, e7⟩ := hQ7
    have N7 := Fr.app N6 N7q
    obtain ⟨fs, hr, hrun, hended, hW, hsame⟩ := X7.leave (v := some (.int (1 : Int32))) (fun h => by rw [Bd.returns] at h; cases h)
    refine ⟨_, _, pre1 _ ?_, hrun, hended, _, _, rfl, ?_, ⟨_, rfl⟩, hW, hsame.mono (by decide) (by decide)⟩
    · show Steps p.tables e below (s₁.setTop (mkF m 3 #[.val (.int p1), .val (.int p2), .unset, .unset, .unset] [(.int (p1 &&& (1 : Int32)))])) _
      refine XS.ifNo X0.here hx rfl (hb hby at_3) rfl ((if0 _ _).trans (feq hc3_2).1) ?_
      show Steps p.tables e below (s₁.setTop (mkF m 6 #[.val (.int p1), .val (.int p2), .unset, .unset, .unset] [])) _
      refine XS.iconst X0.here hx rfl (hb hby at_6) ?_
      show Steps p.tables e below (s₁.setTop (mkF m 7 #[.val (.int p1), .val (.int p2), .unset, .unset, .unset] [(.int (1 : Int32))])) _
      refine XS.goto X0.here hx rfl (pc0 := 7) (pc' := 11) rfl (hb hby at_7) (by decide) (by decide) ?_
      show Steps p.tables e below (s₁.setTop (mkF m 11 #[.val (.int p1), .val (.int p2), .unset, .unset, .unset] [(.int (1 : Int32))])) _
      refine XS.istoreN X0.here hx rfl (hb hby at_11) rfl (l' := #[.val (.int p1), .val (.int p2), .val (.int (1 : Int32)), .unset, .unset]) rfl ?_
      show Steps p.tables e below (s₁.setTop (mkF m 12 #[.val (.int p1), .val (.int p2), .val (.int (1 : Int32)), .unset, .unset] [])) _
      refine XS.iloadN X0.here hx rfl (hb hby at_12) rfl ?_
      show Steps p.tables e below (s₁.setTop (mkF m 13 #[.val (.int p1), .val (.int p2), .val (.int (1 : Int32)), .unset, .unset] [(.int p2)])) _
      refine X0.ldcInt hx hown (mvT hZ (hw _ (List.mem_of_getElem? (i := 0) rfl))) (g := (mkF m 13 #[.val (.int p1), .val (.int p2), .val (.int (1 : Int32)), .unset, .unset] [(.int p2)])) rfl (hb hby at_13) _ ?_
      show Steps p.tables e below (s₁.setTop (mkF m 15 #[.val (.int p1), .val (.int p2), .val (.int (1 : Int32)), .unset, .unset] [(.int (2147483647 : Int32)), (.int p2)])) _
      refine XS.iand X0.here hx rfl (hb hby at_15) rfl ?_
      show Steps p.tables e below (s₁.setTop (mkF m 16 #[.val (.int p1), .val (.int p2), .val (.int (1 : Int32)), .unset, .unset] [(.int (p2 &&& (2147483647 : Int32)))])) _
      refine XS.bipush X0.here hx rfl (hb hby at_16) ?_
      show Steps p.tables e below (s₁.setTop (mkF m 18 #[.val (.int p1), .val (.int p2), .val (.int (1 : Int32)), .unset, .unset] [(.int (12 : Int32)), (.int (p2 &&& (2147483647 : Int32)))])) _
      refine iremM X0 hx rfl (hb hby at_18) rfl (by decide) ?_
      show Steps p.tables e below (s₁.setTop (mkF m 19 #[.val (.int p1), .val (.int p2), .val (.int (1 : Int32)), .unset, .unset] [(.int ((p2 &&& (2147483647 : Int32)) % (12 : Int32)))])) _
      refine XS.istoreN X0.here hx rfl (hb hby at_19) rfl (l' := #[.val (.int p1), .val (.int p2), .val (.int (1 : Int32)), .val (.int ((p2 &&& (2147483647 : Int32)) % (12 : Int32))), .unset]) rfl ?_
      show Steps p.tables e below (s₁.setTop (mkF m 20 #[.val (.int p1), .val (.int p2), .val (.int (1 : Int32)), .val (.int ((p2 &&& (2147483647 : Int32)) % (12 : Int32))), .unset] [])) _
      refine XS.iloadN X0.here hx rfl (hb hby at_20) rfl ?_
      show Steps p.tables e below (s₁.setTop (mkF m 21 #[.val (.int p1), .val (.int p2), .val (.int (1 : Int32)), .val (.int ((p2 &&& (2147483647 : Int32)) % (12 : Int32))), .unset] [(.int (1 : Int32))])) _
      refine XS.iloadN X0.here hx rfl (hb hby at_21) rfl ?_
      show Steps p.tables e below (s₁.setTop (mkF m 22 #[.val (.int p1), .val (.int p2), .val (.int (1 : Int32)), .val (.int ((p2 &&& (2147483647 : Int32)) % (12 : Int32))), .unset] [(.int ((p2 &&& (2147483647 : Int32)) % (12 : Int32))), (.int (1 : Int32))])) _
      refine st6 _ ?_
      show Steps p.tables e below (T6.setTop (mkF m 25 #[.val (.int p1), .val (.int p2), .val (.int (1 : Int32)), .val (.int ((p2 &&& (2147483647 : Int32)) % (12 : Int32))), .unset] [(.int (srcF (1 : Int32) ((p2 &&& (2147483647 : Int32)) % (12 : Int32))))])) _
      refine XS.istore X6.here hx rfl (hb hby at_25) rfl (l' := #[.val (.int p1), .val (.int p2), .val (.int (1 : Int32)), .val (.int ((p2 &&& (2147483647 : Int32)) % (12 : Int32))), .val (.int (srcF (1 : Int32) ((p2 &&& (2147483647 : Int32)) % (12 : Int32))))]) rfl ?_
      show Steps p.tables e below (T6.setTop (mkF m 27 #[.val (.int p1), .val (.int p2), .val (.int (1 : Int32)), .val (.int ((p2 &&& (2147483647 : Int32)) % (12 : Int32))), .val (.int (srcF (1 : Int32) ((p2 &&& (2147483647 : Int32)) % (12 : Int32))))] [])) _
      refine XS.iload X6.here hx rfl (hb hby at_27) rfl ?_
      show Steps p.tables e below (T6.setTop (mkF m 29 #[.val (.int p1), .val (.int p2), .val (.int (1 : Int32)), .val (.int ((p2 &&& (2147483647 : Int32)) % (12 : Int32))), .val (.int (srcF (1 : Int32) ((p2 &&& (2147483647 : Int32)) % (12 : Int32))))] [(.int (srcF (1 : Int32) ((p2 &&& (2147483647 : Int32)) % (12 : Int32))))])) _
      refine XS.iloadN X6.here hx rfl (hb hby at_29) rfl ?_
      show Steps p.tables e below (T6.setTop (mkF m 30 #[.val (.int p1), .val (.int p2), .val (.int (1 : Int32)), .val (.int ((p2 &&& (2147483647 : Int32)) % (12 : Int32))), .val (.int (srcF (1 : Int32) ((p2 &&& (2147483647 : Int32)) % (12 : Int32))))] [(.int (1 : Int32)), (.int (srcF (1 : Int32) ((p2 &&& (2147483647 : Int32)) % (12 : Int32))))])) _
      refine XS.iloadN X6.here hx rfl (hb hby at_30) rfl ?_
      show Steps p.tables e below (T6.setTop (mkF m 31 #[.val (.int p1), .val (.int p2), .val (.int (1 : Int32)), .val (.int ((p2 &&& (2147483647 : Int32)) % (12 : Int32))), .val (.int (srcF (1 : Int32) ((p2 &&& (2147483647 : Int32)) % (12 : Int32))))] [(.int ((p2 &&& (2147483647 : Int32)) % (12 : Int32))), (.int (1 : Int32)), (.int (srcF (1 : Int32) ((p2 &&& (2147483647 : Int32)) % (12 : Int32))))])) _
      refine st7 _ ?_
      show Steps p.tables e below (T7.setTop (mkF m 34 #[.val (.int p1), .val (.int p2), .val (.int (1 : Int32)), .val (.int ((p2 &&& (2147483647 : Int32)) % (12 : Int32))), .val (.int (srcF (1 : Int32) ((p2 &&& (2147483647 : Int32)) % (12 : Int32))))] [(.int (expF (1 : Int32) ((p2 &&& (2147483647 : Int32)) % (12 : Int32)))), (.int (srcF (1 : Int32) ((p2 &&& (2147483647 : Int32)) % (12 : Int32))))])) _
      refine XS.icmpNo X7.here hx rfl (hb hby at_34) rfl (teq (own_eq1 _ (own_step p2).1 (own_step p2).2 : (srcF (1 : Int32) ((p2 &&& (2147483647 : Int32)) % (12 : Int32))) = (expF (1 : Int32) ((p2 &&& (2147483647 : Int32)) % (12 : Int32))))).2 ?_
      show Steps p.tables e below (T7.setTop (mkF m 37 #[.val (.int p1), .val (.int p2), .val (.int (1 : Int32)), .val (.int ((p2 &&& (2147483647 : Int32)) % (12 : Int32))), .val (.int (srcF (1 : Int32) ((p2 &&& (2147483647 : Int32)) % (12 : Int32))))] [])) _
      refine XS.iconst X7.here hx rfl (hb hby at_37) ?_
      show Steps p.tables e below (T7.setTop (mkF m 38 #[.val (.int p1), .val (.int p2), .val (.int (1 : Int32)), .val (.int ((p2 &&& (2147483647 : Int32)) % (12 : Int32))), .val (.int (srcF (1 : Int32) ((p2 &&& (2147483647 : Int32)) % (12 : Int32))))] [(.int (1 : Int32))])) _
      refine XS.goto X7.here hx rfl (pc0 := 38) (pc' := 42) rfl (hb hby at_38) (by decide) (by decide) ?_
      show Steps p.tables e below (T7.setTop (mkF m 42 #[.val (.int p1), .val (.int p2), .val (.int (1 : Int32)), .val (.int ((p2 &&& (2147483647 : Int32)) % (12 : Int32))), .val (.int (srcF (1 : Int32) ((p2 &&& (2147483647 : Int32)) % (12 : Int32))))] [(.int (1 : Int32))])) _
      exact retN X7 hx (t := .boolean) Bd.returns (by simp) (hb hby at_42) hr
    · show Q0 Z p1 p2 aU cl h0 n0 _ T7.heap _
      rw [e7]
      exact ⟨rfl, N7⟩
theorem own_len {t : Term} {args : Array Value} {s : State} {x : Addr} {cl : Cell} {z : Int32} {n : Nat} (et : t.eval args s none [] s = some (.ref x)) (ha : s.arrayAt? x = some cl) (h : (Term.length t).eval args s none [] s = some (.int z)) (hz : z.toInt = n) : cl.slots.size = n := by
  simp only [Term.eval, et] at h
  by_cases hl : cl.slots.size < 2 ^ 31
  · simp [ha, hl] at h
    have q := len_toInt hl
    rw [h, hz] at q
    omega
  · simp [ha, hl] at h
set_option maxRecDepth 65536 in
set_option maxHeartbeats 40000000 in
theorem comes_1 {Post : Tables → Env → Array Value → State → Outcome → State → Prop} (hpost : ∀ tb e args s v u, (limb_1_1.after args s (.returned v) u = true ∧ limb_1_2.after args s (.returned v) u = true ∧ True) → FrameEnd s (.returned v) u (Jvm.fieldLocs frame_1_writes args s ++ Jvm.arrayLocs frame_1_arrays args s ++ Jvm.staticLocs frame_1_statics s) 0 0 → Post tb e args s (.returned v) u) :
    ArmFor flags0 classFile x code maxLocals ret World_1 tables_1 room_1 Calls_1 rest_1 Pre_1 Post := by
  intro l hfl _ _ p e ha hc hk s m args below hf hA hF happ hP
  obtain ⟨hcalls, hrest, hpre⟩ := hP
  obtain ⟨-, -, -, hnamed, -, -, -, hat⟩ := (Spec.applies_iff hf).mp happ
  obtain ⟨hg, hn⟩ := and_e (Cond.before_iff.mp (show (Jvm.Cond.and given_1 narrow_1).before args s = true from hpre))
  obtain ⟨g1, g2⟩ := and_e hg
  obtain ⟨g3, g4⟩ := and_e g2
  obtain ⟨w0, w1, rfl⟩ : ∃ w0 w1 : Value, args = #[w0, w1] := by
    have hs : args.size = 2 := by simpa [Cond.value, given_1] using g1
    obtain ⟨L⟩ := args
    match L, hs with
    | [w0, w1], _ => exact ⟨w0, w1, rfl⟩
  have hw := fun d (hd : d ∈ tables_1) => atoms_spec (ws := Jvm.Cond.code x code maxLocals ret :: tables_1) hat d (List.mem_cons_of_mem _ hd)
  have hfit : Fit s := fun {y c} hc i hi => by
    obtain ⟨ha, rfl⟩ := Array.getElem?_eq_some_iff.mp hc
    have q := List.all_eq_true.mp ((Array.all_eq_true_iff_forall_mem.mp hF) _ (Array.getElem_mem ha)) i (List.mem_range.mpr hi)
    simpa [Array.getElem?_eq_getElem hi] using q
  obtain ⟨i0, ei0⟩ := is_v g3
  obtain rfl : w0 = (.int i0) := Option.some.inj ei0
  obtain ⟨i1, ei1⟩ := is_v g4
  obtain rfl : w1 = (.int i1) := Option.some.inj ei1
  obtain ⟨k5, k6⟩ := and_e hn
  obtain ⟨k7, k8⟩ := and_e k6
  obtain ⟨k9, k10⟩ := and_e k8
  obtain ⟨k11, k12⟩ := and_e k10
  obtain ⟨k13, k14⟩ := and_e k12
  obtain ⟨k15, k16⟩ := and_e k14
  obtain ⟨k17, k18⟩ := and_e k16
  obtain ⟨k19, k20⟩ := and_e k18
  obtain ⟨k21, k22⟩ := and_e k20
  obtain ⟨k23, k24⟩ := and_e k22
  obtain ⟨k25, k26⟩ := and_e k24
  obtain ⟨k27, k28⟩ := and_e k26
  obtain ⟨k29, k30⟩ := and_e k28
  obtain ⟨k31, k32⟩ := and_e k30
  obtain ⟨aU, eU⟩ := arr_v k7
  obtain ⟨cl, Ar⟩ := Arr.start eU k7
  have S_U := Sta.start eU (Or.inr ⟨(hw _ (List.mem_of_getElem? (i := 3) rfl)), (hw _ (List.mem_of_getElem? (i := 12) rfl))⟩)
  have eL := eqv_i (Term.int_eval 1365) k5
  have S_L := Sta.start eL (Or.inr ⟨(hw _ (List.mem_of_getElem? (i := 3) rfl)), (hw _ (List.mem_of_getElem? (i := 6) rfl))⟩)
  have hAt := Arr.fin (Vm.Alike.refl _) Ar
  have hsz : cl.slots.size = 12 := own_len eU hAt (eqv_i (Term.int_eval 12) k9) rfl
  have q0 : cl.slots[(0 : Int32).toNatClampNeg]? = some (.int 35) := (elem_f eU (Term.int_eval 0) hAt (by decide)).symm.trans (eqv_i (Term.int_eval 35) k11)
  have q1 : cl.slots[(1 : Int32).toNatClampNeg]? = some (.int 63) := (elem_f eU (Term.int_eval 1) hAt (by decide)).symm.trans (eqv_i (Term.int_eval 63) k13)
  have q2 : cl.slots[(2 : Int32).toNatClampNeg]? = some (.int 7) := (elem_f eU (Term.int_eval 2) hAt (by decide)).symm.trans (eqv_i (Term.int_eval 7) k15)
  have q3 : cl.slots[(3 : Int32).toNatClampNeg]? = some (.int 63) := (elem_f eU (Term.int_eval 3) hAt (by decide)).symm.trans (eqv_i (Term.int_eval 63) k17)
  have q4 : cl.slots[(4 : Int32).toNatClampNeg]? = some (.int 14) := (elem_f eU (Term.int_eval 4) hAt (by decide)).symm.trans (eqv_i (Term.int_eval 14) k19)
  have q5 : cl.slots[(5 : Int32).toNatClampNeg]? = some (.int 63) := (elem_f eU (Term.int_eval 5) hAt (by decide)).symm.trans (eqv_i (Term.int_eval 63) k21)
  have q6 : cl.slots[(6 : Int32).toNatClampNeg]? = some (.int 28) := (elem_f eU (Term.int_eval 6) hAt (by decide)).symm.trans (eqv_i (Term.int_eval 28) k23)
  have q7 : cl.slots[(7 : Int32).toNatClampNeg]? = some (.int 63) := (elem_f eU (Term.int_eval 7) hAt (by decide)).symm.trans (eqv_i (Term.int_eval 63) k25)
  have q8 : cl.slots[(8 : Int32).toNatClampNeg]? = some (.int 56) := (elem_f eU (Term.int_eval 8) hAt (by decide)).symm.trans (eqv_i (Term.int_eval 56) k27)
  have q9 : cl.slots[(9 : Int32).toNatClampNeg]? = some (.int 63) := (elem_f eU (Term.int_eval 9) hAt (by decide)).symm.trans (eqv_i (Term.int_eval 63) k29)
  have q10 : cl.slots[(10 : Int32).toNatClampNeg]? = some (.int 49) := (elem_f eU (Term.int_eval 10) hAt (by decide)).symm.trans (eqv_i (Term.int_eval 49) k31)
  have q11 : cl.slots[(11 : Int32).toNatClampNeg]? = some (.int 63) := (elem_f eU (Term.int_eval 11) hAt (by decide)).symm.trans (eqv_i (Term.int_eval 63) k32)
  have hat : ∀ j : Int32, ¬ j < 0 → j < 12 → cl.slots[j.toNatClampNeg]? = some (.int (unitSrc j)) := by
    intro j h1 h2
    rcases own_cases j h1 h2 with rfl | rfl | rfl | rfl | rfl | rfl | rfl | rfl | rfl | rfl | rfl | rfl
    · exact q0
    · exact q1
    · exact q2
    · exact q3
    · exact q4
    · exact q5
    · exact q6
    · exact q7
    · exact q8
    · exact q9
    · exact q10
    · exact q11
  obtain ⟨n, o, h1, h2, h3, _, L, rfl, ⟨rfl, N⟩, hq⟩ := rm0 l s _ hw tables_1 i0 i1 aU cl s.heap s.heap.size (Nat.le_refl _) S_U S_L Ar hsz hat p e ha hc hk s m _ below hf ((Spec.applies_iff_loose hf).mp happ).1 ⟨rfl, State.Warmed39.refl s, rfl⟩ trivial
  refine ⟨n, _, h1, h2, h3, hpost _ _ _ _ _ _ ⟨Cond.after_iff.mpr rfl, Cond.after_iff.mpr (eq_i res_at (Term.int_eval (1)) rfl), trivial⟩ ⟨hq.1, hq.2.1, (hq.2.2.sift fun y hy => Or.inr (N y hy)).mono (by decide) (by decide)⟩⟩
theorem main_1_1 : Claimed_1_1 := comes_1 fun _ _ _ _ _ _ h hF => ⟨h.1, hF⟩
theorem main_1_2 : Claimed_1_2 := comes_1 fun _ _ _ _ _ _ h hF => ⟨h.2.1, hF⟩
end Jvm.Pilot.@@N@@
namespace Jvm.Pilot.@@N@@
open Jvm Jvm.ClassFile Sem Op Lib Jvm.Free Jvm.Stand Jvm.Pilot.@@N@@.Jvm.D
/-! MADE BY PROGRAM (witnessworld.py) out of the Statement's table words and the real class files: 9 classes; the members and pool entries that the words name. The judged class is class 1, her method 1. -/
namespace start1
open Jvm.ClassFile
def u (s : String) : CpInfo := .utf8 (stringToUtf16 s)
/-- a pool by its gaps: so many unusable entries, then the entry; so many at the end -/
def gap : Nat → List CpInfo → List CpInfo
  | 0, r => r
  | n + 1, r => .unusable :: gap n r
def poolList (es : List (Nat × CpInfo)) (last : Nat) : List CpInfo := es.foldr (fun e r => gap e.1 (e.2 :: r)) (gap last [])
def pool (es : List (Nat × CpInfo)) (last : Nat) : Array CpInfo := ⟨poolList es last⟩
def fileOf (pool : Array CpInfo) (this : Nat) (attrs : Array Attribute := #[]) (ms : Array MethodInfo := #[]) (fl : Nat := 33) (sup : Nat := 0) (ifs : Array Nat := #[]) (fds : Array FieldInfo := #[]) : ClassFile where
  minorVersion := 0
  majorVersion := 65
  constantPool := pool
  accessFlags := fl
  thisClass := this
  superClass := sup
  interfaces := ifs
  fields := fds
  methods := ms
  attributes := attrs
def plain (name : String) (sup : Option ClassId) : Class where
  name := name
  kind := .ordinary
  loader := none
  accessFlags := 33
  super := sup
  interfaces := #[]
  cf := none
  fields := #[]
  methods := #[]
  instanceTypes := #[]
  staticTypes := #[]
  resolved := #[]
  callSites := []
  init := .initialized
  statics := none
  mirror := none

def pool0 : Array CpInfo := pool [(5, u "<init>"), (0, u "()V"), (1, .class_ 10), (1, u "java/lang/Object")] 113

def k0m0 : Method := { name := "<init>", desc := "()V", sig := { parameters := [], returnType := none }, accessFlags := 1, code := none }
/-- java/lang/Object -/
def k0 : Class := { plain "java/lang/Object" none with
  accessFlags := 33
  interfaces := #[]
  cf := some (fileOf pool0 8 #[] #[{ accessFlags := 1, nameIndex := 5, descriptorIndex := 6, attributes := #[] }] 33 0 #[] #[])
  fields := #[]
  methods := #[k0m0]
  instanceTypes := #[]
  staticTypes := #[]
  resolved := Array.replicate 124 none
  statics := none }

def pool1 : Array CpInfo := pool [(2, .class_ 4), (1, u "java/lang/Object"), (0, u "<init>"), (0, u "()V"), (0, .integer 2147483647), (0, .methodref 9 10), (0, .class_ 11), (0, .nameAndType 12 13), (0, u "com/example/ticinus/ticinus/battle/Movement"), (0, u "sources"), (0, u "(ZI)I"), (0, .methodref 15 16), (0, .class_ 17), (0, .nameAndType 18 13), (0, u "com/example/ticinus/ticinus/battle/MovementSourcesPinLaw"), (0, u "expected"), (2, u "law"), (0, u "(II)Z")] 3

def k1m0 : Method := { name := "<init>", desc := "()V", sig := { parameters := [], returnType := none }, accessFlags := 1, code := none }
def k1c1 : Code := { maxStack := 3, maxLocals := 5, code := code, exceptionTable := #[], attributes := #[] }
def k1m1 : Method := { name := "law", desc := "(II)Z", sig := { parameters := [.int, .int], returnType := some .boolean }, accessFlags := 9, code := some k1c1 }
def k1c2 : Code := { maxStack := 4, maxLocals := 4, code := method_3_code, exceptionTable := #[], attributes := #[] }
def k1m2 : Method := { name := "expected", desc := "(ZI)I", sig := { parameters := [.boolean, .int], returnType := some .int }, accessFlags := 10, code := some k1c2 }
/-- com/example/ticinus/ticinus/battle/MovementSourcesPinLaw -/
def k1 : Class := { plain "com/example/ticinus/ticinus/battle/MovementSourcesPinLaw" (some 0) with
  accessFlags := 49
  interfaces := #[]
  cf := some (fileOf pool1 15 #[] #[{ accessFlags := 1, nameIndex := 5, descriptorIndex := 6, attributes := #[] }, { accessFlags := 9, nameIndex := 21, descriptorIndex := 22, attributes := #[] }, { accessFlags := 10, nameIndex := 18, descriptorIndex := 13, attributes := #[] }] 49 2 #[] #[])
  fields := #[]
  methods := #[k1m0, k1m1, k1m2]
  instanceTypes := #[]
  staticTypes := #[]
  resolved := Array.replicate 26 none
  statics := none }

def pool2 : Array CpInfo := pool [(2, .class_ 4), (1, u "java/lang/Object"), (3, .class_ 10), (1, u "com/example/ticinus/ticinus/battle/Movement"), (0, u "field"), (0, u "Lcom/example/ticinus/ticinus/battle/Field;"), (4, u "grid"), (3, u "Lcom/example/ticinus/ticinus/battle/Grid;"), (2, u "mover"), (0, u "Lcom/example/ticinus/ticinus/battle/Piece;"), (4, u "unit"), (0, u "Z"), (8, u "allowance"), (0, u "I"), (12, u "origin"), (11, u "FACINGS"), (47, .class_ 116), (1, u "com/example/ticinus/ticinus/battle/Movement$Refusal"), (64, u "UNIT_STEPS"), (0, u "[I"), (0, .fieldref 8 184), (0, .nameAndType 185 41), (0, u "LEADER_STEPS"), (24, u "STEPS"), (0, u "[Lcom/example/ticinus/ticinus/battle/Order$Step;"), (86, .fieldref 8 299), (0, .nameAndType 300 182), (0, u "UNIT_SOURCES"), (8, u "DIRECTIONS"), (0, u "[Lcom/example/ticinus/ticinus/battle/Direction;"), (22, u "ALL_FACINGS"), (51, u "CHEAPEST_STEP"), (3, u "DEAREST_ENTRY"), (0, u "TURN_COST"), (15, u "sources"), (0, u "(ZI)I")] 76

def k2c0 : Code := { maxStack := 2, maxLocals := 2, code := prog_42_method_17_code, exceptionTable := #[], attributes := #[] }
def k2m0 : Method := { name := "sources", desc := "(ZI)I", sig := { parameters := [.boolean, .int], returnType := some .int }, accessFlags := 8, code := some k2c0 }
/-- com/example/ticinus/ticinus/battle/Movement -/
def k2 : Class := { plain "com/example/ticinus/ticinus/battle/Movement" (some 0) with
  accessFlags := 48
  interfaces := #[]
  cf := some (fileOf pool2 8 #[.nestMembers #[114]] #[{ accessFlags := 8, nameIndex := 406, descriptorIndex := 407, attributes := #[] }] 48 2 #[] #[{ accessFlags := 26, nameIndex := 309, descriptorIndex := 310, attributes := #[] }, { accessFlags := 24, nameIndex := 66, descriptorIndex := 41, attributes := #[] }, { accessFlags := 24, nameIndex := 333, descriptorIndex := 41, attributes := #[] }, { accessFlags := 24, nameIndex := 390, descriptorIndex := 41, attributes := #[] }, { accessFlags := 26, nameIndex := 210, descriptorIndex := 211, attributes := #[] }, { accessFlags := 26, nameIndex := 181, descriptorIndex := 182, attributes := #[] }, { accessFlags := 26, nameIndex := 185, descriptorIndex := 41, attributes := #[] }, { accessFlags := 26, nameIndex := 300, descriptorIndex := 182, attributes := #[] }, { accessFlags := 24, nameIndex := 385, descriptorIndex := 41, attributes := #[] }, { accessFlags := 24, nameIndex := 389, descriptorIndex := 41, attributes := #[] }, { accessFlags := 18, nameIndex := 11, descriptorIndex := 12, attributes := #[] }, { accessFlags := 18, nameIndex := 17, descriptorIndex := 21, attributes := #[] }, { accessFlags := 2, nameIndex := 24, descriptorIndex := 25, attributes := #[] }, { accessFlags := 2, nameIndex := 30, descriptorIndex := 31, attributes := #[] }, { accessFlags := 2, nameIndex := 40, descriptorIndex := 41, attributes := #[] }, { accessFlags := 2, nameIndex := 54, descriptorIndex := 41, attributes := #[] }])
  fields := #[{ name := "DIRECTIONS", type := (.array (.object "com/example/ticinus/ticinus/battle/Direction")), accessFlags := 26, slot := 0, constantValue := 0 }, { name := "FACINGS", type := .int, accessFlags := 24, slot := 1, constantValue := 0 }, { name := "ALL_FACINGS", type := .int, accessFlags := 24, slot := 2, constantValue := 0 }, { name := "TURN_COST", type := .int, accessFlags := 24, slot := 3, constantValue := 0 }, { name := "STEPS", type := (.array (.object "com/example/ticinus/ticinus/battle/Order$Step")), accessFlags := 26, slot := 4, constantValue := 0 }, { name := "UNIT_STEPS", type := (.array .int), accessFlags := 26, slot := 5, constantValue := 0 }, { name := "LEADER_STEPS", type := .int, accessFlags := 26, slot := 6, constantValue := 0 }, { name := "UNIT_SOURCES", type := (.array .int), accessFlags := 26, slot := 7, constantValue := 0 }, { name := "CHEAPEST_STEP", type := .int, accessFlags := 24, slot := 8, constantValue := 0 }, { name := "DEAREST_ENTRY", type := .int, accessFlags := 24, slot := 9, constantValue := 0 }, { name := "field", type := (.object "com/example/ticinus/ticinus/battle/Field"), accessFlags := 18, slot := 0, constantValue := 0 }, { name := "grid", type := (.object "com/example/ticinus/ticinus/battle/Grid"), accessFlags := 18, slot := 1, constantValue := 0 }, { name := "mover", type := (.object "com/example/ticinus/ticinus/battle/Piece"), accessFlags := 2, slot := 2, constantValue := 0 }, { name := "unit", type := .boolean, accessFlags := 2, slot := 3, constantValue := 0 }, { name := "allowance", type := .int, accessFlags := 2, slot := 4, constantValue := 0 }, { name := "origin", type := .int, accessFlags := 2, slot := 5, constantValue := 0 }]
  methods := #[k2m0]
  instanceTypes := #[(.object "com/example/ticinus/ticinus/battle/Field"), (.object "com/example/ticinus/ticinus/battle/Grid"), (.object "com/example/ticinus/ticinus/battle/Piece"), .boolean, .int, .int]
  staticTypes := #[(.array (.object "com/example/ticinus/ticinus/battle/Direction")), .int, .int, .int, (.array (.object "com/example/ticinus/ticinus/battle/Order$Step")), (.array .int), .int, (.array .int), .int, .int]
  resolved := Array.replicate 484 none
  statics := some 0 }

def pool3 : Array CpInfo := pool [(1, u "java/lang/Cloneable"), (0, .class_ 1), (0, u "java/lang/Object"), (0, .class_ 3)] 3

/-- java/lang/Cloneable -/
def k3 : Class := { plain "java/lang/Cloneable" (some 0) with
  accessFlags := 1537
  interfaces := #[]
  cf := some (fileOf pool3 2 #[] #[] 1537 4 #[] #[])
  fields := #[]
  methods := #[]
  instanceTypes := #[]
  staticTypes := #[]
  resolved := Array.replicate 8 none
  statics := none }

def pool4 : Array CpInfo := pool [(1, u "java/io/Serializable"), (0, .class_ 1), (0, u "java/lang/Object"), (0, .class_ 3)] 3

/-- java/io/Serializable -/
def k4 : Class := { plain "java/io/Serializable" (some 0) with
  accessFlags := 1537
  interfaces := #[]
  cf := some (fileOf pool4 2 #[] #[] 1537 4 #[] #[])
  fields := #[]
  methods := #[]
  instanceTypes := #[]
  staticTypes := #[]
  resolved := Array.replicate 8 none
  statics := none }

/-- the primitive byte -/
def k5 : Class := { plain "byte" none with kind := .primitive 'B', accessFlags := 0x411 }
/-- [B -/
def k6 : Class := { plain "[B" (some 0) with kind := .array 5 .byte, interfaces := #[3, 4], accessFlags := 1041 }

/-- the primitive int -/
def k7 : Class := { plain "int" none with kind := .primitive 'I', accessFlags := 0x411 }
/-- [I -/
def k8 : Class := { plain "[I" (some 0) with kind := .array 7 .int, interfaces := #[3, 4], accessFlags := 1041 }

def heap : Heap := #[{ cls := 2, slots := #[.null, .int 0, .int 0, .int 0, .null, .null, .int 1365, .ref 1, .int 0, .int 0], vm := .statics 2 },
  { cls := 8, slots := #[.int 35, .int 63, .int 7, .int 63, .int 14, .int 63, .int 28, .int 63, .int 56, .int 63, .int 49, .int 63], vm := .none }]
def classes : Array Class := #[k0, k1, k2, k3, k4, k5, k6, k7, k8]
def interned : List (Array UInt16 × Addr) := []
def slotsUsed : Nat := 22
def theMethod : MethodId := ⟨1, 1⟩
def args0 : Array Value := #[.int 0, .int 3]
def aboutOver (below : List Frame) : State where
  vm := { classes := classes, interned := interned.toArray }
  heap := heap
  slotsUsed := slotsUsed
  threads := #[{ frames := .invoking theMethod args0 :: below }]
def below0 : List Frame := [.native { method := ⟨0, 0⟩, args := #[] }]
def about1 : State := aboutOver below0
def p0 : Program := .bare "" "" ""
def e0 : Env := launch0.env 0 0 0
theorem w_frames : about1.frames = Frame.invoking theMethod args0 :: below0 := rfl
set_option maxRecDepth 65536 in
theorem w_args : argsFit about1.vm theMethod args0 = true := by decide +kernel
set_option maxRecDepth 65536 in
theorem w_heap : heapFits about1 = true := by decide +kernel
set_option maxRecDepth 65536 in
theorem w_runnable : about1.curStatus? = some .runnable := by decide +kernel
set_option maxRecDepth 65536 in
theorem w_alone : about1.alone = true := by decide +kernel
set_option maxRecDepth 65536 in
theorem w_named : about1.methodNamed? x = some theMethod := by decide +kernel
set_option maxRecDepth 65536 in
theorem w_hears : about1.hears theMethod below0 = true := by decide +kernel
set_option maxRecDepth 65536 in
theorem w_ripe : about1.ripe theMethod args0 below0 = true := by decide +kernel
theorem w_running : about1.status = .running := rfl
set_option maxRecDepth 65536 in
theorem w_room : about1.hasRoom e0.platform room_1 = true :=
  launch0.hasRoom_least _ room_1 (by decide +kernel) (by decide +kernel) (by decide +kernel) (by decide +kernel) (by decide +kernel) (by decide +kernel)
theorem allAtoms_all (ts : List Jvm.Cond) (a : Array Jvm.Value) (st : Jvm.State) : (allAtoms ts).before a st = ts.all (fun c => c.before a st) := by
  induction ts with
  | nil => rfl
  | cons c t ih =>
    show (Jvm.Cond.and c (allAtoms t)).before a st = _
    rw [Jvm.Cond.before_and, ih, List.all_cons]
def words1 : List Jvm.Cond := Jvm.Cond.code x code maxLocals ret :: tables_1
/-- a 'code' word, met by the world's own term for the bytes: nothing is compared byte by byte -/
theorem code_word {y : MethodName} {bytes : ByteArray} {mx : Nat} {rt : Option FieldType} {a : Array Value} {s : State} {m : MethodId} {meth : Method} {c : Code} (h1 : s.methodNamed? y = some m) (h2 : s.vm.method? m = some meth) (h3 : meth.code = some c) (h4 : c.code = bytes)
    (h5 : (c.maxLocals == mx && c.exceptionTable.isEmpty && decide (c.maxStack ≤ mostOperands) && decide (meth.sig.returnType = rt) && !meth.locks && decide (parseMethodDescriptor y.desc = some meth.sig)) = true) : (Jvm.Cond.code y bytes mx rt).before a s = true := by
  simp only [Bool.and_eq_true, beq_iff_eq, Bool.not_eq_true', decide_eq_true_eq] at h5
  obtain ⟨⟨⟨⟨⟨g1, g2⟩, g3⟩, g4⟩, g5⟩, g6⟩ := h5
  simp [Cond.before, Cond.holds, Cond.value, h1, h2, h3, h4, g1, g2, g3, g4, g5, g6]
def isCode : Jvm.Cond → Bool
  | .code _ _ _ _ => true
  | _ => false
theorem all_split {L : List Jvm.Cond} {P : Jvm.Cond → Bool} (h1 : L.all (fun c => isCode c || P c) = true) (h2 : ∀ c ∈ L.filter isCode, P c = true) : L.all P = true := by
  refine List.all_eq_true.mpr fun c hc => ?_
  have h := List.all_eq_true.mp h1 c hc
  rcases Bool.eq_false_or_eq_true (isCode c) with hi | hi
  · exact h2 c (List.mem_filter.mpr ⟨hc, hi⟩)
  · simpa [hi] using h
set_option maxRecDepth 65536 in
theorem w_c0 : (Jvm.Cond.code x code maxLocals ret).before args0 about1 = true := code_word (m := ⟨1, 1⟩) (meth := k1m1) (c := k1c1) (by decide +kernel) rfl rfl rfl (by decide +kernel)
set_option maxRecDepth 65536 in
theorem w_c1 : (Jvm.Cond.code ({ cls := "com/example/ticinus/ticinus/battle/Movement", name := "sources", desc := "(ZI)I" } : Jvm.MethodName) prog_42_method_17_code (2 : Nat) (Option.some Jvm.ClassFile.FieldType.int)).before args0 about1 = true := code_word (m := ⟨2, 0⟩) (meth := k2m0) (c := k2c0) (by decide +kernel) rfl rfl rfl (by decide +kernel)
set_option maxRecDepth 65536 in
theorem w_c2 : (Jvm.Cond.code ({ cls := "com/example/ticinus/ticinus/battle/MovementSourcesPinLaw", name := "expected", desc := "(ZI)I" } : Jvm.MethodName) method_3_code (4 : Nat) (Option.some Jvm.ClassFile.FieldType.int)).before args0 about1 = true := code_word (m := ⟨1, 2⟩) (meth := k1m2) (c := k1c2) (by decide +kernel) rfl rfl rfl (by decide +kernel)
def codes1 : List Jvm.Cond := [Jvm.Cond.code x code maxLocals ret, Jvm.Cond.code ({ cls := "com/example/ticinus/ticinus/battle/Movement", name := "sources", desc := "(ZI)I" } : Jvm.MethodName) prog_42_method_17_code (2 : Nat) (Option.some Jvm.ClassFile.FieldType.int), Jvm.Cond.code ({ cls := "com/example/ticinus/ticinus/battle/MovementSourcesPinLaw", name := "expected", desc := "(ZI)I" } : Jvm.MethodName) method_3_code (4 : Nat) (Option.some Jvm.ClassFile.FieldType.int)]
set_option maxRecDepth 65536 in
theorem codes_eq : words1.filter isCode = codes1 := rfl
theorem w_codes : ∀ c ∈ words1.filter isCode, c.before args0 about1 = true := by
  rw [codes_eq]
  intro c hc
  simp only [codes1, List.mem_cons, List.not_mem_nil, or_false] at hc
  rcases hc with rfl | rfl | rfl
  · exact w_c0
  · exact w_c1
  · exact w_c2
set_option maxRecDepth 65536 in
theorem w_t1 : words1.all (fun c => isCode c || c.before args0 about1) = true := by decide +kernel
theorem w_tables : (allAtoms (Jvm.Cond.code x code maxLocals ret :: tables_1)).before args0 about1 = true := by
  rw [allAtoms_all]
  show words1.all (fun c => c.before args0 about1) = true
  refine all_split ?_ w_codes
  rw [w_t1]
set_option maxRecDepth 65536 in
theorem w_case : (Jvm.Cond.and given_1 narrow_1).before args0 about1 = true := by decide +kernel
theorem w_applies : (headSpec (Jvm.Cond.code x code maxLocals ret :: tables_1) room_1).applies x e0.platform about1 = true :=
  (Spec.applies_iff w_frames).mpr ⟨w_running, w_runnable, w_alone, w_named, w_hears, w_ripe, w_room, w_tables⟩
theorem atStart : AtStart classFile x code maxLocals ret World_1 tables_1 room_1 Calls_1 rest_1 Pre_1 launch0 p0 e0 about1 theMethod args0 below0 :=
  ⟨lists_1, trivial, launch0.admits_env _ _ _, launch0.least_env, fairChoices_fair.cas, fairChoices_fair.clock, w_frames, w_args, w_heap, w_applies, trivial, trivial, w_case⟩
end start1
theorem witness_1 : WitnessClaimed_1 := ⟨start1.p0, start1.e0, start1.about1, start1.theMethod, start1.args0, start1.below0, start1.atStart⟩
end Jvm.Pilot.@@N@@
