import JvmDerived
import JvmDerived.Pilot.@@N@@Statement
import JvmDerived.Pilot.@@N@@Code
set_option linter.unusedVariables false
set_option linter.unusedSimpArgs false
namespace Jvm.RoadKit
open Sem ClassFile Op Lib Jvm.Stand Jvm.Free Jvm.LawKit
section New
variable {p : Program} {l : Launch} {e : Env} {R : Room} {s : State} {m : MethodId} {args : Array Value} {below : List Frame} {meth : Method} {c : Code} {T : State} {locs : List Loc} {cells slots : Nat}
theorem retI (X : Stand p l e R s m args below meth c T locs cells slots) (hx : p.tables.exec = Jvm.exec) {pc : Nat} {Ls : Array Slot} {z : Int32} {rest : List Value} (hret : meth.sig.returnType = some .int) (hd : decode c.code pc = .ok (.ireturn, 1)) {fs : List Frame}
    (hl : ∀ (f : JFrame) (acts : List Action), f.method = m → f.locked = none → f.entered = [] → (doReturn e (T.setTop f) acts (some (.int z))).1 = T.setFrames fs) : Steps p.tables e below (T.setTop (mkF m pc Ls (.int z :: rest))) (T.setFrames fs) :=
  retOut X hx hret rfl (Or.inl ⟨rfl, Or.inl rfl, _, rfl⟩) hd hl
end New
end Jvm.RoadKit
namespace Jvm.Pilot.@@N@@
open Jvm Jvm.ClassFile Sem Op Lib Jvm.Free Jvm.Stand Jvm.LawKit Jvm.RoadKit Bundle Jvm.Pilot.@@N@@.Jvm.D
theorem d1_0 : decode prog_44_method_4_code 0 = .ok (.iload_n 0, 1) := by decide +kernel
theorem d1_1 : decode prog_44_method_4_code 1 = .ok (.iload_n 1, 1) := by decide +kernel
theorem d1_2 : decode prog_44_method_4_code 2 = .ok (.if_icmp .le 5, 3) := by decide +kernel
theorem d1_5 : decode prog_44_method_4_code 5 = .ok (.iconst 0, 1) := by decide +kernel
theorem d1_6 : decode prog_44_method_4_code 6 = .ok (.ireturn, 1) := by decide +kernel
theorem d1_7 : decode prog_44_method_4_code 7 = .ok (.iload_n 0, 1) := by decide +kernel
theorem d1_8 : decode prog_44_method_4_code 8 = .ok (.iload_n 1, 1) := by decide +kernel
theorem d1_9 : decode prog_44_method_4_code 9 = .ok (.if_icmp .ne 5, 3) := by decide +kernel
theorem d1_12 : decode prog_44_method_4_code 12 = .ok (.iconst 1, 1) := by decide +kernel
theorem d1_13 : decode prog_44_method_4_code 13 = .ok (.ireturn, 1) := by decide +kernel
theorem d1_14 : decode prog_44_method_4_code 14 = .ok (.iload_n 1, 1) := by decide +kernel
theorem d1_15 : decode prog_44_method_4_code 15 = .ok (.iconst 2, 1) := by decide +kernel
theorem d1_16 : decode prog_44_method_4_code 16 = .ok (.iload_n 0, 1) := by decide +kernel
theorem d1_17 : decode prog_44_method_4_code 17 = .ok (.imul, 1) := by decide +kernel
theorem d1_18 : decode prog_44_method_4_code 18 = .ok (.if_icmp .lt 7, 3) := by decide +kernel
theorem d1_25 : decode prog_44_method_4_code 25 = .ok (.iconst 1, 1) := by decide +kernel
theorem d1_26 : decode prog_44_method_4_code 26 = .ok (.ireturn, 1) := by decide +kernel
theorem d1_21 : decode prog_44_method_4_code 21 = .ok (.iconst 2, 1) := by decide +kernel
theorem d1_22 : decode prog_44_method_4_code 22 = .ok (.goto 4, 3) := by decide +kernel
theorem pn_0 : plainName "com/example/ticinus/ticinus/battle/Odds" = true := by first | (simp [plainName, overriddenIn]; done) | decide +kernel
theorem ef_rm1 (m : MethodId) (x0 : Int32) (x1 : Int32) : entryFrame m #[(.int x0), (.int x1)] 2 = mkF m 0 #[.val (.int x0), .val (.int x1)] [] := by first | (simp [entryFrame, mkF, argsToLocals, Value.category]; done) | rfl
def lossF (p1 : Int32) (p2 : Int32) : Int32 :=
  if p2 < p1 then (0 : Int32)
  else if p1 = p2 then (1 : Int32)
    else if p2 < ((2 : Int32) * p1) then (1 : Int32)
      else (2 : Int32)
def Q1 (Z : State) (p1 : Int32) (p2 : Int32) (h0 : Heap) (n0 : Nat) (v : Option Value) (h : Heap) (L : List Loc) : Prop := v = some (.int (lossF p1 p2)) ∧ Fr n0 L ∧ h = h0
set_option maxRecDepth 65536 in
set_option maxHeartbeats 40000000 in
theorem rm1 (l : Launch) (Z : State) (a0 : Array Value) (hw : ∀ d ∈ tables_1, d.before a0 Z = true) (ws : List Jvm.Cond) (p1 : Int32) (p2 : Int32) (h0 : Heap) (n0 : Nat) (Z0 : n0 ≤ h0.size) :
    MetFree l (⟨"com/example/ticinus/ticinus/battle/Odds", "loss", "(II)I"⟩ : MethodName) (head1 (Jvm.Cond.code (⟨"com/example/ticinus/ticinus/battle/Odds", "loss", "(II)I"⟩ : MethodName) prog_44_method_4_code 2 (some .int) :: ws) ({ frames := 0, cells := 0, slots := 0, locals := 0 } : Room)) (fun a U => a = #[(.int p1), (.int p2)] ∧ Z.Warmed39 U.vm ∧ U.heap = h0) (fun _ _ _ _ _ => True) (fun _ U o U' => ∃ v L, o = .returned v ∧ Q1 Z p1 p2 h0 n0 v U'.heap L ∧ FrameEnd U o U' L ({ frames := 0, cells := 0, slots := 0, locals := 0 } : Room).cells ({ frames := 0, cells := 0, slots := 0, locals := 0 } : Room).slots) := by
  refine MetFree.of_bodySF (plainFor_of_name pn_0) hisR ?_
  intro p e s m args below meth c s₁ Bd hml0 hP hK
  obtain ⟨rfl, hZ, hh⟩ := hP
  have hx := Bd.exec
  have hby := Bd.bytes
  have hml : c.maxLocals = 2 := hml0
  have hown : s.vm.findClass "com/example/ticinus/ticinus/battle/Odds" = some m.cls := findClass_of_methodNamed Bd.named
  have hnm := (name_of_methodNamed Bd.named Bd.method).1
  have X0 : Stand p l e ({ frames := 0, cells := 0, slots := 0, locals := 0 } : Room) s m #[(.int p1), (.int p2)] below meth c s₁ [] 0 0 := Stand.of_body Bd
  have e0 : s₁.heap = h0 := by rw [← hh, Bd.state]; rfl
  have N0 := Fr.nil n0
  have pre0 : ∀ t, Steps p.tables e below (s₁.setTop (mkF m 0 #[.val (.int p1), .val (.int p2)] [])) t → Steps p.tables e below (s₁.setTop (entryFrame m #[(.int p1), (.int p2)] 2)) t := fun t k => castTop (ef_rm1 m p1 p2) k
  have pre1 : ∀ t, Steps p.tables e below (s₁.setTop (mkF m 2 #[.val (.int p1), .val (.int p2)] [(.int p2), (.int p1)])) t → Steps p.tables e below (s₁.setTop (entryFrame m #[(.int p1), (.int p2)] 2)) t := by
    intro t kt
    refine pre0 t ?_
    show Steps p.tables e below (s₁.setTop (mkF m 0 #[.val (.int p1), .val (.int p2)] [])) _
    refine XS.iloadN X0.here hx rfl (hb hby d1_0) rfl ?_
    show Steps p.tables e below (s₁.setTop (mkF m 1 #[.val (.int p1), .val (.int p2)] [(.int p1)])) _
    refine XS.iloadN X0.here hx rfl (hb hby d1_1) rfl ?_
    show Steps p.tables e below (s₁.setTop (mkF m 2 #[.val (.int p1), .val (.int p2)] [(.int p2), (.int p1)])) _
    exact kt
  by_cases hc2_2 : p2 < p1
  · obtain ⟨fs, hr, hrun, hended, hW, hsame⟩ := X0.leave (v := some (.int (0 : Int32))) (fun h => by rw [Bd.returns] at h; cases h)
    refine ⟨_, _, pre1 _ ?_, hrun, hended, _, _, rfl, ?_, ⟨_, rfl⟩, hW, hsame.mono (by decide) (by decide)⟩
    · show Steps p.tables e below (s₁.setTop (mkF m 2 #[.val (.int p1), .val (.int p2)] [(.int p2), (.int p1)])) _
      refine XS.icmpNo X0.here hx rfl (hb hby d1_2) rfl (tlt hc2_2).2.2.2 ?_
      show Steps p.tables e below (s₁.setTop (mkF m 5 #[.val (.int p1), .val (.int p2)] [])) _
      refine XS.iconst X0.here hx rfl (hb hby d1_5) ?_
      show Steps p.tables e below (s₁.setTop (mkF m 6 #[.val (.int p1), .val (.int p2)] [(.int (0 : Int32))])) _
      exact retI X0 hx Bd.returns (hb hby d1_6) hr
    · show Q1 Z p1 p2 h0 n0 _ s₁.heap _
      rw [e0]
      refine ⟨?_, N0, rfl⟩
      show (some (.int (0 : Int32)) : Option Value) = some (.int (lossF p1 p2))
      rw [show (lossF p1 p2) = (0 : Int32) from by unfold lossF; rw [if_pos hc2_2]]
  · have pre4 : ∀ t, Steps p.tables e below (s₁.setTop (mkF m 9 #[.val (.int p1), .val (.int p2)] [(.int p2), (.int p1)])) t → Steps p.tables e below (s₁.setTop (entryFrame m #[(.int p1), (.int p2)] 2)) t := by
      intro t kt
      refine pre1 t ?_
      show Steps p.tables e below (s₁.setTop (mkF m 2 #[.val (.int p1), .val (.int p2)] [(.int p2), (.int p1)])) _
      refine XS.icmpYes X0.here hx rfl (pc0 := 2) (pc' := 7) rfl (hb hby d1_2) rfl (flt hc2_2).2.2.2 (by decide) (by decide) ?_
      show Steps p.tables e below (s₁.setTop (mkF m 7 #[.val (.int p1), .val (.int p2)] [])) _
      refine XS.iloadN X0.here hx rfl (hb hby d1_7) rfl ?_
      show Steps p.tables e below (s₁.setTop (mkF m 8 #[.val (.int p1), .val (.int p2)] [(.int p1)])) _
      refine XS.iloadN X0.here hx rfl (hb hby d1_8) rfl ?_
      show Steps p.tables e below (s₁.setTop (mkF m 9 #[.val (.int p1), .val (.int p2)] [(.int p2), (.int p1)])) _
      exact kt
    by_cases hc9_5 : p1 = p2
    · obtain ⟨fs, hr, hrun, hended, hW, hsame⟩ := X0.leave (v := some (.int (1 : Int32))) (fun h => by rw [Bd.returns] at h; cases h)
      refine ⟨_, _, pre4 _ ?_, hrun, hended, _, _, rfl, ?_, ⟨_, rfl⟩, hW, hsame.mono (by decide) (by decide)⟩
      · show Steps p.tables e below (s₁.setTop (mkF m 9 #[.val (.int p1), .val (.int p2)] [(.int p2), (.int p1)])) _
        refine XS.icmpNo X0.here hx rfl (hb hby d1_9) rfl (teq hc9_5).2 ?_
        show Steps p.tables e below (s₁.setTop (mkF m 12 #[.val (.int p1), .val (.int p2)] [])) _
        refine XS.iconst X0.here hx rfl (hb hby d1_12) ?_
        show Steps p.tables e below (s₁.setTop (mkF m 13 #[.val (.int p1), .val (.int p2)] [(.int (1 : Int32))])) _
        exact retI X0 hx Bd.returns (hb hby d1_13) hr
      · show Q1 Z p1 p2 h0 n0 _ s₁.heap _
        rw [e0]
        refine ⟨?_, N0, rfl⟩
        show (some (.int (1 : Int32)) : Option Value) = some (.int (lossF p1 p2))
        rw [show (lossF p1 p2) = (1 : Int32) from by unfold lossF; rw [if_neg hc2_2, if_pos hc9_5]]
    · have pre7 : ∀ t, Steps p.tables e below (s₁.setTop (mkF m 18 #[.val (.int p1), .val (.int p2)] [(.int ((2 : Int32) * p1)), (.int p2)])) t → Steps p.tables e below (s₁.setTop (entryFrame m #[(.int p1), (.int p2)] 2)) t := by
        intro t kt
        refine pre4 t ?_
        show Steps p.tables e below (s₁.setTop (mkF m 9 #[.val (.int p1), .val (.int p2)] [(.int p2), (.int p1)])) _
        refine XS.icmpYes X0.here hx rfl (pc0 := 9) (pc' := 14) rfl (hb hby d1_9) rfl (feq hc9_5).2 (by decide) (by decide) ?_
        show Steps p.tables e below (s₁.setTop (mkF m 14 #[.val (.int p1), .val (.int p2)] [])) _
        refine XS.iloadN X0.here hx rfl (hb hby d1_14) rfl ?_
        show Steps p.tables e below (s₁.setTop (mkF m 15 #[.val (.int p1), .val (.int p2)] [(.int p2)])) _
        refine XS.iconst X0.here hx rfl (hb hby d1_15) ?_
        show Steps p.tables e below (s₁.setTop (mkF m 16 #[.val (.int p1), .val (.int p2)] [(.int (2 : Int32)), (.int p2)])) _
        refine XS.iloadN X0.here hx rfl (hb hby d1_16) rfl ?_
        show Steps p.tables e below (s₁.setTop (mkF m 17 #[.val (.int p1), .val (.int p2)] [(.int p1), (.int (2 : Int32)), (.int p2)])) _
        refine XS.imul X0.here hx rfl (hb hby d1_17) rfl ?_
        show Steps p.tables e below (s₁.setTop (mkF m 18 #[.val (.int p1), .val (.int p2)] [(.int ((2 : Int32) * p1)), (.int p2)])) _
        exact kt
      by_cases hc18_8 : p2 < ((2 : Int32) * p1)
      · obtain ⟨fs, hr, hrun, hended, hW, hsame⟩ := X0.leave (v := some (.int (1 : Int32))) (fun h => by rw [Bd.returns] at h; cases h)
        refine ⟨_, _, pre7 _ ?_, hrun, hended, _, _, rfl, ?_, ⟨_, rfl⟩, hW, hsame.mono (by decide) (by decide)⟩
        · show Steps p.tables e below (s₁.setTop (mkF m 18 #[.val (.int p1), .val (.int p2)] [(.int ((2 : Int32) * p1)), (.int p2)])) _
          refine XS.icmpYes X0.here hx rfl (pc0 := 18) (pc' := 25) rfl (hb hby d1_18) rfl (tlt hc18_8).1 (by decide) (by decide) ?_
          show Steps p.tables e below (s₁.setTop (mkF m 25 #[.val (.int p1), .val (.int p2)] [])) _
          refine XS.iconst X0.here hx rfl (hb hby d1_25) ?_
          show Steps p.tables e below (s₁.setTop (mkF m 26 #[.val (.int p1), .val (.int p2)] [(.int (1 : Int32))])) _
          exact retI X0 hx Bd.returns (hb hby d1_26) hr
        · show Q1 Z p1 p2 h0 n0 _ s₁.heap _
          rw [e0]
          refine ⟨?_, N0, rfl⟩
          show (some (.int (1 : Int32)) : Option Value) = some (.int (lossF p1 p2))
          rw [show (lossF p1 p2) = (1 : Int32) from by unfold lossF; rw [if_neg hc2_2, if_neg hc9_5, if_pos hc18_8]]
      · obtain ⟨fs, hr, hrun, hended, hW, hsame⟩ := X0.leave (v := some (.int (2 : Int32))) (fun h => by rw [Bd.returns] at h; cases h)
        refine ⟨_, _, pre7 _ ?_, hrun, hended, _, _, rfl, ?_, ⟨_, rfl⟩, hW, hsame.mono (by decide) (by decide)⟩
        · show Steps p.tables e below (s₁.setTop (mkF m 18 #[.val (.int p1), .val (.int p2)] [(.int ((2 : Int32) * p1)), (.int p2)])) _
          refine XS.icmpNo X0.here hx rfl (hb hby d1_18) rfl (flt hc18_8).1 ?_
          show Steps p.tables e below (s₁.setTop (mkF m 21 #[.val (.int p1), .val (.int p2)] [])) _
          refine XS.iconst X0.here hx rfl (hb hby d1_21) ?_
          show Steps p.tables e below (s₁.setTop (mkF m 22 #[.val (.int p1), .val (.int p2)] [(.int (2 : Int32))])) _
          refine XS.goto X0.here hx rfl (pc0 := 22) (pc' := 26) rfl (hb hby d1_22) (by decide) (by decide) ?_
          show Steps p.tables e below (s₁.setTop (mkF m 26 #[.val (.int p1), .val (.int p2)] [(.int (2 : Int32))])) _
          exact retI X0 hx Bd.returns (hb hby d1_26) hr
        · show Q1 Z p1 p2 h0 n0 _ s₁.heap _
          rw [e0]
          refine ⟨?_, N0, rfl⟩
          show (some (.int (2 : Int32)) : Option Value) = some (.int (lossF p1 p2))
          rw [show (lossF p1 p2) = (2 : Int32) from by unfold lossF; rw [if_neg hc2_2, if_neg hc9_5, if_neg hc18_8]]
theorem d2_0 : decode method_3_code 0 = .ok (.iload_n 0, 1) := by decide +kernel
theorem d2_1 : decode method_3_code 1 = .ok (.i2l, 1) := by decide +kernel
theorem d2_2 : decode method_3_code 2 = .ok (.lstore_n 2, 1) := by decide +kernel
theorem d2_3 : decode method_3_code 3 = .ok (.iload_n 1, 1) := by decide +kernel
theorem d2_4 : decode method_3_code 4 = .ok (.i2l, 1) := by decide +kernel
theorem d2_5 : decode method_3_code 5 = .ok (.lstore 4, 2) := by decide +kernel
theorem d2_7 : decode method_3_code 7 = .ok (.lload 4, 2) := by decide +kernel
theorem d2_9 : decode method_3_code 9 = .ok (.lload_n 2, 1) := by decide +kernel
theorem d2_10 : decode method_3_code 10 = .ok (.lcmp, 1) := by decide +kernel
theorem d2_11 : decode method_3_code 11 = .ok (.ifCond .ge 5, 3) := by decide +kernel
theorem d2_14 : decode method_3_code 14 = .ok (.iconst 0, 1) := by decide +kernel
theorem d2_15 : decode method_3_code 15 = .ok (.ireturn, 1) := by decide +kernel
theorem d2_16 : decode method_3_code 16 = .ok (.lload 4, 2) := by decide +kernel
theorem d2_18 : decode method_3_code 18 = .ok (.lload_n 2, 1) := by decide +kernel
theorem d2_19 : decode method_3_code 19 = .ok (.lcmp, 1) := by decide +kernel
theorem d2_20 : decode method_3_code 20 = .ok (.ifCond .ne 5, 3) := by decide +kernel
theorem d2_23 : decode method_3_code 23 = .ok (.iconst 1, 1) := by decide +kernel
theorem d2_24 : decode method_3_code 24 = .ok (.ireturn, 1) := by decide +kernel
theorem d2_25 : decode method_3_code 25 = .ok (.lload 4, 2) := by decide +kernel
theorem d2_27 : decode method_3_code 27 = .ok (.lload_n 2, 1) := by decide +kernel
theorem d2_28 : decode method_3_code 28 = .ok (.lsub, 1) := by decide +kernel
theorem d2_29 : decode method_3_code 29 = .ok (.lstore 6, 2) := by decide +kernel
theorem d2_31 : decode method_3_code 31 = .ok (.lload 6, 2) := by decide +kernel
theorem d2_33 : decode method_3_code 33 = .ok (.lload_n 2, 1) := by decide +kernel
theorem d2_34 : decode method_3_code 34 = .ok (.lcmp, 1) := by decide +kernel
theorem d2_35 : decode method_3_code 35 = .ok (.ifCond .lt 5, 3) := by decide +kernel
theorem d2_40 : decode method_3_code 40 = .ok (.iconst 1, 1) := by decide +kernel
theorem d2_41 : decode method_3_code 41 = .ok (.ireturn, 1) := by decide +kernel
theorem d2_38 : decode method_3_code 38 = .ok (.iconst 2, 1) := by decide +kernel
theorem d2_39 : decode method_3_code 39 = .ok (.ireturn, 1) := by decide +kernel
theorem pn_1 : plainName "com/example/ticinus/ticinus/battle/OddsLossPinLaw" = true := by first | (simp [plainName, overriddenIn]; done) | decide +kernel
theorem ef_rm2 (m : MethodId) (x0 : Int32) (x1 : Int32) : entryFrame m #[(.int x0), (.int x1)] 8 = mkF m 0 #[.val (.int x0), .val (.int x1), .unset, .unset, .unset, .unset, .unset, .unset] [] := by first | (simp [entryFrame, mkF, argsToLocals, Value.category]; done) | rfl
def expF (p1 : Int32) (p2 : Int32) : Int32 :=
  if (lcmpW (p2.toInt64) (p1.toInt64)) < (0 : Int32) then (0 : Int32)
  else if (lcmpW (p2.toInt64) (p1.toInt64)) = (0 : Int32) then (1 : Int32)
    else if (lcmpW ((p2.toInt64) - (p1.toInt64)) (p1.toInt64)) < (0 : Int32) then (1 : Int32)
      else (2 : Int32)
def Q2 (Z : State) (p1 : Int32) (p2 : Int32) (h0 : Heap) (n0 : Nat) (v : Option Value) (h : Heap) (L : List Loc) : Prop := v = some (.int (expF p1 p2)) ∧ Fr n0 L ∧ h = h0
set_option maxRecDepth 65536 in
set_option maxHeartbeats 40000000 in
theorem rm2 (l : Launch) (Z : State) (a0 : Array Value) (hw : ∀ d ∈ tables_1, d.before a0 Z = true) (ws : List Jvm.Cond) (p1 : Int32) (p2 : Int32) (h0 : Heap) (n0 : Nat) (Z0 : n0 ≤ h0.size) :
    MetFree l (⟨"com/example/ticinus/ticinus/battle/OddsLossPinLaw", "expected", "(II)I"⟩ : MethodName) (head1 (Jvm.Cond.code (⟨"com/example/ticinus/ticinus/battle/OddsLossPinLaw", "expected", "(II)I"⟩ : MethodName) method_3_code 8 (some .int) :: ws) ({ frames := 0, cells := 0, slots := 0, locals := 0 } : Room)) (fun a U => a = #[(.int p1), (.int p2)] ∧ Z.Warmed39 U.vm ∧ U.heap = h0) (fun _ _ _ _ _ => True) (fun _ U o U' => ∃ v L, o = .returned v ∧ Q2 Z p1 p2 h0 n0 v U'.heap L ∧ FrameEnd U o U' L ({ frames := 0, cells := 0, slots := 0, locals := 0 } : Room).cells ({ frames := 0, cells := 0, slots := 0, locals := 0 } : Room).slots) := by
  refine MetFree.of_bodySF (plainFor_of_name pn_1) hisR ?_
  intro p e s m args below meth c s₁ Bd hml0 hP hK
  obtain ⟨rfl, hZ, hh⟩ := hP
  have hx := Bd.exec
  have hby := Bd.bytes
  have hml : c.maxLocals = 8 := hml0
  have hown : s.vm.findClass "com/example/ticinus/ticinus/battle/OddsLossPinLaw" = some m.cls := findClass_of_methodNamed Bd.named
  have hnm := (name_of_methodNamed Bd.named Bd.method).1
  have X0 : Stand p l e ({ frames := 0, cells := 0, slots := 0, locals := 0 } : Room) s m #[(.int p1), (.int p2)] below meth c s₁ [] 0 0 := Stand.of_body Bd
  have e0 : s₁.heap = h0 := by rw [← hh, Bd.state]; rfl
  have N0 := Fr.nil n0
  have pre0 : ∀ t, Steps p.tables e below (s₁.setTop (mkF m 0 #[.val (.int p1), .val (.int p2), .unset, .unset, .unset, .unset, .unset, .unset] [])) t → Steps p.tables e below (s₁.setTop (entryFrame m #[(.int p1), (.int p2)] 8)) t := fun t k => castTop (ef_rm2 m p1 p2) k
  have pre1 : ∀ t, Steps p.tables e below (s₁.setTop (mkF m 11 #[.val (.int p1), .val (.int p2), .val (.long (p1.toInt64)), .second, .val (.long (p2.toInt64)), .second, .unset, .unset] [(.int (lcmpW (p2.toInt64) (p1.toInt64)))])) t → Steps p.tables e below (s₁.setTop (entryFrame m #[(.int p1), (.int p2)] 8)) t := by
    intro t kt
    refine pre0 t ?_
    show Steps p.tables e below (s₁.setTop (mkF m 0 #[.val (.int p1), .val (.int p2), .unset, .unset, .unset, .unset, .unset, .unset] [])) _
    refine XS.iloadN X0.here hx rfl (hb hby d2_0) rfl ?_
    show Steps p.tables e below (s₁.setTop (mkF m 1 #[.val (.int p1), .val (.int p2), .unset, .unset, .unset, .unset, .unset, .unset] [(.int p1)])) _
    refine XS.i2l X0.here hx rfl (hb hby d2_1) rfl ?_
    show Steps p.tables e below (s₁.setTop (mkF m 2 #[.val (.int p1), .val (.int p2), .unset, .unset, .unset, .unset, .unset, .unset] [(.long (p1.toInt64))])) _
    refine XS.lstoreN X0.here hx rfl (hb hby d2_2) rfl (l' := #[.val (.int p1), .val (.int p2), .val (.long (p1.toInt64)), .second, .unset, .unset, .unset, .unset]) rfl ?_
    show Steps p.tables e below (s₁.setTop (mkF m 3 #[.val (.int p1), .val (.int p2), .val (.long (p1.toInt64)), .second, .unset, .unset, .unset, .unset] [])) _
    refine XS.iloadN X0.here hx rfl (hb hby d2_3) rfl ?_
    show Steps p.tables e below (s₁.setTop (mkF m 4 #[.val (.int p1), .val (.int p2), .val (.long (p1.toInt64)), .second, .unset, .unset, .unset, .unset] [(.int p2)])) _
    refine XS.i2l X0.here hx rfl (hb hby d2_4) rfl ?_
    show Steps p.tables e below (s₁.setTop (mkF m 5 #[.val (.int p1), .val (.int p2), .val (.long (p1.toInt64)), .second, .unset, .unset, .unset, .unset] [(.long (p2.toInt64))])) _
    refine XS.lstore X0.here hx rfl (hb hby d2_5) rfl (l' := #[.val (.int p1), .val (.int p2), .val (.long (p1.toInt64)), .second, .val (.long (p2.toInt64)), .second, .unset, .unset]) rfl ?_
    show Steps p.tables e below (s₁.setTop (mkF m 7 #[.val (.int p1), .val (.int p2), .val (.long (p1.toInt64)), .second, .val (.long (p2.toInt64)), .second, .unset, .unset] [])) _
    refine XS.lload X0.here hx rfl (hb hby d2_7) rfl ?_
    show Steps p.tables e below (s₁.setTop (mkF m 9 #[.val (.int p1), .val (.int p2), .val (.long (p1.toInt64)), .second, .val (.long (p2.toInt64)), .second, .unset, .unset] [(.long (p2.toInt64))])) _
    refine XS.lloadN X0.here hx rfl (hb hby d2_9) rfl ?_
    show Steps p.tables e below (s₁.setTop (mkF m 10 #[.val (.int p1), .val (.int p2), .val (.long (p1.toInt64)), .second, .val (.long (p2.toInt64)), .second, .unset, .unset] [(.long (p1.toInt64)), (.long (p2.toInt64))])) _
    refine XS.lcmp X0.here hx rfl (hb hby d2_10) rfl ?_
    show Steps p.tables e below (s₁.setTop (mkF m 11 #[.val (.int p1), .val (.int p2), .val (.long (p1.toInt64)), .second, .val (.long (p2.toInt64)), .second, .unset, .unset] [(.int (lcmpW (p2.toInt64) (p1.toInt64)))])) _
    exact kt
  by_cases hc11_2 : (lcmpW (p2.toInt64) (p1.toInt64)) < (0 : Int32)
  · obtain ⟨fs, hr, hrun, hended, hW, hsame⟩ := X0.leave (v := some (.int (0 : Int32))) (fun h => by rw [Bd.returns] at h; cases h)
    refine ⟨_, _, pre1 _ ?_, hrun, hended, _, _, rfl, ?_, ⟨_, rfl⟩, hW, hsame.mono (by decide) (by decide)⟩
    · show Steps p.tables e below (s₁.setTop (mkF m 11 #[.val (.int p1), .val (.int p2), .val (.long (p1.toInt64)), .second, .val (.long (p2.toInt64)), .second, .unset, .unset] [(.int (lcmpW (p2.toInt64) (p1.toInt64)))])) _
      refine XS.ifNo X0.here hx rfl (hb hby d2_11) rfl ((if0 _ _).trans (tlt hc11_2).2.1) ?_
      show Steps p.tables e below (s₁.setTop (mkF m 14 #[.val (.int p1), .val (.int p2), .val (.long (p1.toInt64)), .second, .val (.long (p2.toInt64)), .second, .unset, .unset] [])) _
      refine XS.iconst X0.here hx rfl (hb hby d2_14) ?_
      show Steps p.tables e below (s₁.setTop (mkF m 15 #[.val (.int p1), .val (.int p2), .val (.long (p1.toInt64)), .second, .val (.long (p2.toInt64)), .second, .unset, .unset] [(.int (0 : Int32))])) _
      exact retI X0 hx Bd.returns (hb hby d2_15) hr
    · show Q2 Z p1 p2 h0 n0 _ s₁.heap _
      rw [e0]
      refine ⟨?_, N0, rfl⟩
      show (some (.int (0 : Int32)) : Option Value) = some (.int (expF p1 p2))
      rw [show (expF p1 p2) = (0 : Int32) from by unfold expF; rw [if_pos hc11_2]]
  · have pre4 : ∀ t, Steps p.tables e below (s₁.setTop (mkF m 20 #[.val (.int p1), .val (.int p2), .val (.long (p1.toInt64)), .second, .val (.long (p2.toInt64)), .second, .unset, .unset] [(.int (lcmpW (p2.toInt64) (p1.toInt64)))])) t → Steps p.tables e below (s₁.setTop (entryFrame m #[(.int p1), (.int p2)] 8)) t := by
      intro t kt
      refine pre1 t ?_
      show Steps p.tables e below (s₁.setTop (mkF m 11 #[.val (.int p1), .val (.int p2), .val (.long (p1.toInt64)), .second, .val (.long (p2.toInt64)), .second, .unset, .unset] [(.int (lcmpW (p2.toInt64) (p1.toInt64)))])) _
      refine XS.ifYes X0.here hx rfl (pc0 := 11) (pc' := 16) rfl (hb hby d2_11) rfl ((if0 _ _).trans (flt hc11_2).2.1) (by decide) (by decide) ?_
      show Steps p.tables e below (s₁.setTop (mkF m 16 #[.val (.int p1), .val (.int p2), .val (.long (p1.toInt64)), .second, .val (.long (p2.toInt64)), .second, .unset, .unset] [])) _
      refine XS.lload X0.here hx rfl (hb hby d2_16) rfl ?_
      show Steps p.tables e below (s₁.setTop (mkF m 18 #[.val (.int p1), .val (.int p2), .val (.long (p1.toInt64)), .second, .val (.long (p2.toInt64)), .second, .unset, .unset] [(.long (p2.toInt64))])) _
      refine XS.lloadN X0.here hx rfl (hb hby d2_18) rfl ?_
      show Steps p.tables e below (s₁.setTop (mkF m 19 #[.val (.int p1), .val (.int p2), .val (.long (p1.toInt64)), .second, .val (.long (p2.toInt64)), .second, .unset, .unset] [(.long (p1.toInt64)), (.long (p2.toInt64))])) _
      refine XS.lcmp X0.here hx rfl (hb hby d2_19) rfl ?_
      show Steps p.tables e below (s₁.setTop (mkF m 20 #[.val (.int p1), .val (.int p2), .val (.long (p1.toInt64)), .second, .val (.long (p2.toInt64)), .second, .unset, .unset] [(.int (lcmpW (p2.toInt64) (p1.toInt64)))])) _
      exact kt
    by_cases hc20_5 : (lcmpW (p2.toInt64) (p1.toInt64)) = (0 : Int32)
    · obtain ⟨fs, hr, hrun, hended, hW, hsame⟩ := X0.leave (v := some (.int (1 : Int32))) (fun h => by rw [Bd.returns] at h; cases h)
      refine ⟨_, _, pre4 _ ?_, hrun, hended, _, _, rfl, ?_, ⟨_, rfl⟩, hW, hsame.mono (by decide) (by decide)⟩
      · show Steps p.tables e below (s₁.setTop (mkF m 20 #[.val (.int p1), .val (.int p2), .val (.long (p1.toInt64)), .second, .val (.long (p2.toInt64)), .second, .unset, .unset] [(.int (lcmpW (p2.toInt64) (p1.toInt64)))])) _
        refine XS.ifNo X0.here hx rfl (hb hby d2_20) rfl ((if0 _ _).trans (teq hc20_5).2) ?_
        show Steps p.tables e below (s₁.setTop (mkF m 23 #[.val (.int p1), .val (.int p2), .val (.long (p1.toInt64)), .second, .val (.long (p2.toInt64)), .second, .unset, .unset] [])) _
        refine XS.iconst X0.here hx rfl (hb hby d2_23) ?_
        show Steps p.tables e below (s₁.setTop (mkF m 24 #[.val (.int p1), .val (.int p2), .val (.long (p1.toInt64)), .second, .val (.long (p2.toInt64)), .second, .unset, .unset] [(.int (1 : Int32))])) _
        exact retI X0 hx Bd.returns (hb hby d2_24) hr
      · show Q2 Z p1 p2 h0 n0 _ s₁.heap _
        rw [e0]
        refine ⟨?_, N0, rfl⟩
        show (some (.int (1 : Int32)) : Option Value) = some (.int (expF p1 p2))
        rw [show (expF p1 p2) = (1 : Int32) from by unfold expF; rw [if_neg hc11_2, if_pos hc20_5]]
    · have pre7 : ∀ t, Steps p.tables e below (s₁.setTop (mkF m 35 #[.val (.int p1), .val (.int p2), .val (.long (p1.toInt64)), .second, .val (.long (p2.toInt64)), .second, .val (.long ((p2.toInt64) - (p1.toInt64))), .second] [(.int (lcmpW ((p2.toInt64) - (p1.toInt64)) (p1.toInt64)))])) t → Steps p.tables e below (s₁.setTop (entryFrame m #[(.int p1), (.int p2)] 8)) t := by
        intro t kt
        refine pre4 t ?_
        show Steps p.tables e below (s₁.setTop (mkF m 20 #[.val (.int p1), .val (.int p2), .val (.long (p1.toInt64)), .second, .val (.long (p2.toInt64)), .second, .unset, .unset] [(.int (lcmpW (p2.toInt64) (p1.toInt64)))])) _
        refine XS.ifYes X0.here hx rfl (pc0 := 20) (pc' := 25) rfl (hb hby d2_20) rfl ((if0 _ _).trans (feq hc20_5).2) (by decide) (by decide) ?_
        show Steps p.tables e below (s₁.setTop (mkF m 25 #[.val (.int p1), .val (.int p2), .val (.long (p1.toInt64)), .second, .val (.long (p2.toInt64)), .second, .unset, .unset] [])) _
        refine XS.lload X0.here hx rfl (hb hby d2_25) rfl ?_
        show Steps p.tables e below (s₁.setTop (mkF m 27 #[.val (.int p1), .val (.int p2), .val (.long (p1.toInt64)), .second, .val (.long (p2.toInt64)), .second, .unset, .unset] [(.long (p2.toInt64))])) _
        refine XS.lloadN X0.here hx rfl (hb hby d2_27) rfl ?_
        show Steps p.tables e below (s₁.setTop (mkF m 28 #[.val (.int p1), .val (.int p2), .val (.long (p1.toInt64)), .second, .val (.long (p2.toInt64)), .second, .unset, .unset] [(.long (p1.toInt64)), (.long (p2.toInt64))])) _
        refine XS.lsub X0.here hx rfl (hb hby d2_28) rfl ?_
        show Steps p.tables e below (s₁.setTop (mkF m 29 #[.val (.int p1), .val (.int p2), .val (.long (p1.toInt64)), .second, .val (.long (p2.toInt64)), .second, .unset, .unset] [(.long ((p2.toInt64) - (p1.toInt64)))])) _
        refine XS.lstore X0.here hx rfl (hb hby d2_29) rfl (l' := #[.val (.int p1), .val (.int p2), .val (.long (p1.toInt64)), .second, .val (.long (p2.toInt64)), .second, .val (.long ((p2.toInt64) - (p1.toInt64))), .second]) rfl ?_
        show Steps p.tables e below (s₁.setTop (mkF m 31 #[.val (.int p1), .val (.int p2), .val (.long (p1.toInt64)), .second, .val (.long (p2.toInt64)), .second, .val (.long ((p2.toInt64) - (p1.toInt64))), .second] [])) _
        refine XS.lload X0.here hx rfl (hb hby d2_31) rfl ?_
        show Steps p.tables e below (s₁.setTop (mkF m 33 #[.val (.int p1), .val (.int p2), .val (.long (p1.toInt64)), .second, .val (.long (p2.toInt64)), .second, .val (.long ((p2.toInt64) - (p1.toInt64))), .second] [(.long ((p2.toInt64) - (p1.toInt64)))])) _
        refine XS.lloadN X0.here hx rfl (hb hby d2_33) rfl ?_
        show Steps p.tables e below (s₁.setTop (mkF m 34 #[.val (.int p1), .val (.int p2), .val (.long (p1.toInt64)), .second, .val (.long (p2.toInt64)), .second, .val (.long ((p2.toInt64) - (p1.toInt64))), .second] [(.long (p1.toInt64)), (.long ((p2.toInt64) - (p1.toInt64)))])) _
        refine XS.lcmp X0.here hx rfl (hb hby d2_34) rfl ?_
        show Steps p.tables e below (s₁.setTop (mkF m 35 #[.val (.int p1), .val (.int p2), .val (.long (p1.toInt64)), .second, .val (.long (p2.toInt64)), .second, .val (.long ((p2.toInt64) - (p1.toInt64))), .second] [(.int (lcmpW ((p2.toInt64) - (p1.toInt64)) (p1.toInt64)))])) _
        exact kt
      by_cases hc35_8 : (lcmpW ((p2.toInt64) - (p1.toInt64)) (p1.toInt64)) < (0 : Int32)
      · obtain ⟨fs, hr, hrun, hended, hW, hsame⟩ := X0.leave (v := some (.int (1 : Int32))) (fun h => by rw [Bd.returns] at h; cases h)
        refine ⟨_, _, pre7 _ ?_, hrun, hended, _, _, rfl, ?_, ⟨_, rfl⟩, hW, hsame.mono (by decide) (by decide)⟩
        · show Steps p.tables e below (s₁.setTop (mkF m 35 #[.val (.int p1), .val (.int p2), .val (.long (p1.toInt64)), .second, .val (.long (p2.toInt64)), .second, .val (.long ((p2.toInt64) - (p1.toInt64))), .second] [(.int (lcmpW ((p2.toInt64) - (p1.toInt64)) (p1.toInt64)))])) _
          refine XS.ifYes X0.here hx rfl (pc0 := 35) (pc' := 40) rfl (hb hby d2_35) rfl ((if0 _ _).trans (tlt hc35_8).1) (by decide) (by decide) ?_
          show Steps p.tables e below (s₁.setTop (mkF m 40 #[.val (.int p1), .val (.int p2), .val (.long (p1.toInt64)), .second, .val (.long (p2.toInt64)), .second, .val (.long ((p2.toInt64) - (p1.toInt64))), .second] [])) _
          refine XS.iconst X0.here hx rfl (hb hby d2_40) ?_
          show Steps p.tables e below (s₁.setTop (mkF m 41 #[.val (.int p1), .val (.int p2), .val (.long (p1.toInt64)), .second, .val (.long (p2.toInt64)), .second, .val (.long ((p2.toInt64) - (p1.toInt64))), .second] [(.int (1 : Int32))])) _
          exact retI X0 hx Bd.returns (hb hby d2_41) hr
        · show Q2 Z p1 p2 h0 n0 _ s₁.heap _
          rw [e0]
          refine ⟨?_, N0, rfl⟩
          show (some (.int (1 : Int32)) : Option Value) = some (.int (expF p1 p2))
          rw [show (expF p1 p2) = (1 : Int32) from by unfold expF; rw [if_neg hc11_2, if_neg hc20_5, if_pos hc35_8]]
      · obtain ⟨fs, hr, hrun, hended, hW, hsame⟩ := X0.leave (v := some (.int (2 : Int32))) (fun h => by rw [Bd.returns] at h; cases h)
        refine ⟨_, _, pre7 _ ?_, hrun, hended, _, _, rfl, ?_, ⟨_, rfl⟩, hW, hsame.mono (by decide) (by decide)⟩
        · show Steps p.tables e below (s₁.setTop (mkF m 35 #[.val (.int p1), .val (.int p2), .val (.long (p1.toInt64)), .second, .val (.long (p2.toInt64)), .second, .val (.long ((p2.toInt64) - (p1.toInt64))), .second] [(.int (lcmpW ((p2.toInt64) - (p1.toInt64)) (p1.toInt64)))])) _
          refine XS.ifNo X0.here hx rfl (hb hby d2_35) rfl ((if0 _ _).trans (flt hc35_8).1) ?_
          show Steps p.tables e below (s₁.setTop (mkF m 38 #[.val (.int p1), .val (.int p2), .val (.long (p1.toInt64)), .second, .val (.long (p2.toInt64)), .second, .val (.long ((p2.toInt64) - (p1.toInt64))), .second] [])) _
          refine XS.iconst X0.here hx rfl (hb hby d2_38) ?_
          show Steps p.tables e below (s₁.setTop (mkF m 39 #[.val (.int p1), .val (.int p2), .val (.long (p1.toInt64)), .second, .val (.long (p2.toInt64)), .second, .val (.long ((p2.toInt64) - (p1.toInt64))), .second] [(.int (2 : Int32))])) _
          exact retI X0 hx Bd.returns (hb hby d2_39) hr
        · show Q2 Z p1 p2 h0 n0 _ s₁.heap _
          rw [e0]
          refine ⟨?_, N0, rfl⟩
          show (some (.int (2 : Int32)) : Option Value) = some (.int (expF p1 p2))
          rw [show (expF p1 p2) = (2 : Int32) from by unfold expF; rw [if_neg hc11_2, if_neg hc20_5, if_neg hc35_8]]
theorem own_two (z : Int32) (h1 : -1073741824 ≤ z.toInt) (h2 : z.toInt < 1073741824) : ((2 : Int32) * z).toInt = 2 * z.toInt := by
  have h := c_imul (2 : Int32) z
  have r := rng32 ((2 : Int32) * z)
  have e2 : (2 : Int32).toInt = 2 := rfl
  rw [e2] at h
  omega
theorem own_same (o t : Int32) (h1 : -1073741824 ≤ o.toInt) (h2 : o.toInt < 1073741824) : lossF o t = expF o t := by
  have hm := own_two o h1 h2
  have ho := c_i2l o
  have ht := c_i2l t
  have hs := c_lsub t.toInt64 o.toInt64
  have hr := rng64 (t.toInt64 - o.toInt64)
  have r1 := rng32 o
  have r2 := rng32 t
  have e0 : (o = t) ↔ o.toInt = t.toInt := Int32.toInt_inj.symm
  have e1 : (t.toInt64 = o.toInt64) ↔ t.toInt64.toInt = o.toInt64.toInt := Int64.toInt_inj.symm
  unfold lossF expF
  simp only [lw_lt, lw_eq]
  simp only [Int32.lt_iff_toInt_lt, Int64.lt_iff_toInt_lt, e0, e1, hm]
  repeat' split
  all_goals first | rfl | omega
theorem own_shr (z : Int32) : (z >>> ((3 : Int32) &&& 31)).toInt = z.toInt / 8 := c_ishr z 3 3 (by decide)
theorem own_d (z : Int32) : -4 ≤ ((z &&& (7 : Int32)) - (4 : Int32)).toInt ∧ ((z &&& (7 : Int32)) - (4 : Int32)).toInt ≤ 3 := by
  have h := c_and z 7 (by decide)
  have s := c_isub (z &&& (7 : Int32)) 4
  have r := rng32 ((z &&& (7 : Int32)) - (4 : Int32))
  have e7 : (7 : Int32).toInt = 7 := rfl
  have e4 : (4 : Int32).toInt = 4 := rfl
  rw [e7] at h
  rw [e4] at s
  omega
theorem own_b0 (z : Int32) : -1073741824 ≤ (z >>> ((3 : Int32) &&& 31)).toInt ∧ (z >>> ((3 : Int32) &&& 31)).toInt < 1073741824 := by
  have h := own_shr z
  have r := rng32 z
  omega
theorem own_b1 (z q : Int32) : -1073741824 ≤ ((z >>> ((3 : Int32) &&& 31)) + ((q &&& (7 : Int32)) - (4 : Int32))).toInt ∧ ((z >>> ((3 : Int32) &&& 31)) + ((q &&& (7 : Int32)) - (4 : Int32))).toInt < 1073741824 := by
  have h := own_shr z
  have d := own_d q
  have r := rng32 z
  have s := c_iadd (z >>> ((3 : Int32) &&& 31)) ((q &&& (7 : Int32)) - (4 : Int32))
  have r2 := rng32 ((z >>> ((3 : Int32) &&& 31)) + ((q &&& (7 : Int32)) - (4 : Int32)))
  omega
theorem own_b2 (z q : Int32) : -1073741824 ≤ (((2 : Int32) * (z >>> ((3 : Int32) &&& 31))) + ((q &&& (7 : Int32)) - (4 : Int32))).toInt ∧ (((2 : Int32) * (z >>> ((3 : Int32) &&& 31))) + ((q &&& (7 : Int32)) - (4 : Int32))).toInt < 1073741824 := by
  have h := own_shr z
  have d := own_d q
  have r := rng32 z
  have b := own_b0 z
  have m := own_two _ b.1 b.2
  have s := c_iadd ((2 : Int32) * (z >>> ((3 : Int32) &&& 31))) ((q &&& (7 : Int32)) - (4 : Int32))
  have r2 := rng32 (((2 : Int32) * (z >>> ((3 : Int32) &&& 31))) + ((q &&& (7 : Int32)) - (4 : Int32)))
  omega
theorem pd_0 : parseMethodDescriptor "(II)I" = some ⟨[.int, .int], some .int⟩ := by decide +kernel
theorem ef_rm0 (m : MethodId) (x0 : Int32) (x1 : Int32) (x2 : Int32) (x3 : Int32) : entryFrame m #[(.int x0), (.int x1), (.int x2), (.int x3)] maxLocals = mkF m 0 #[.val (.int x0), .val (.int x1), .val (.int x2), .val (.int x3), .unset, .unset, .unset, .unset, .unset, .unset] [] := by first | (simp [entryFrame, mkF, argsToLocals, Value.category, maxLocals]; done) | rfl
def Q0 (Z : State) (pa : Int32) (pb : Int32) (pm : Int32) (pd : Int32) (h0 : Heap) (n0 : Nat) (v : Option Value) (h : Heap) (L : List Loc) : Prop := v = some (.int 1) ∧ Fr n0 L
set_option maxRecDepth 65536 in
set_option maxHeartbeats 40000000 in
theorem rm0 (l : Launch) (Z : State) (a0 : Array Value) (hw : ∀ d ∈ tables_1, d.before a0 Z = true) (ws : List Jvm.Cond) (pa : Int32) (pb : Int32) (pm : Int32) (pd : Int32) (h0 : Heap) (n0 : Nat) (Z0 : n0 ≤ h0.size) :
    MetFree l x (head1 (Jvm.Cond.code x code maxLocals ret :: ws) room_1) (fun a U => a = #[(.int pa), (.int pb), (.int pm), (.int pd)] ∧ Z.Warmed39 U.vm ∧ U.heap = h0) (fun _ _ _ _ _ => True) (fun _ U o U' => ∃ v L, o = .returned v ∧ Q0 Z pa pb pm pd h0 n0 v U'.heap L ∧ FrameEnd U o U' L room_1.cells room_1.slots) := by
  refine MetFree.of_bodySF (plainFor_of_name pn_1) hisR ?_
  intro p e s m args below meth c s₁ Bd hml0 hP hK
  obtain ⟨rfl, hZ, hh⟩ := hP
  have hx := Bd.exec
  have hby := Bd.bytes
  have hml : c.maxLocals = 10 := hml0
  have hown : s.vm.findClass "com/example/ticinus/ticinus/battle/OddsLossPinLaw" = some m.cls := findClass_of_methodNamed Bd.named
  have hnm := (name_of_methodNamed Bd.named Bd.method).1
  have X0 : Stand p l e room_1 s m #[(.int pa), (.int pb), (.int pm), (.int pd)] below meth c s₁ [] 0 0 := Stand.of_body Bd
  have e0 : s₁.heap = h0 := by rw [← hh, Bd.state]; rfl
  have N0 := Fr.nil n0
  have pre0 : ∀ t, Steps p.tables e below (s₁.setTop (mkF m 0 #[.val (.int pa), .val (.int pb), .val (.int pm), .val (.int pd), .unset, .unset, .unset, .unset, .unset, .unset] [])) t → Steps p.tables e below (s₁.setTop (entryFrame m #[(.int pa), (.int pb), (.int pm), (.int pd)] maxLocals)) t := fun t k => castTop (ef_rm0 m pa pb pm pd) k
  have pre1 : ∀ t, Steps p.tables e below (s₁.setTop (mkF m 21 #[.val (.int pa), .val (.int pb), .val (.int pm), .val (.int pd), .val (.int (pa >>> ((3 : Int32) &&& 31))), .val (.int ((pd &&& (7 : Int32)) - (4 : Int32))), .val (.int (pm &&& (3 : Int32))), .unset, .unset, .unset] [(.int (1 : Int32)), (.int (pm &&& (3 : Int32)))])) t → Steps p.tables e below (s₁.setTop (entryFrame m #[(.int pa), (.int pb), (.int pm), (.int pd)] maxLocals)) t := by
    intro t kt
    refine pre0 t ?_
    show Steps p.tables e below (s₁.setTop (mkF m 0 #[.val (.int pa), .val (.int pb), .val (.int pm), .val (.int pd), .unset, .unset, .unset, .unset, .unset, .unset] [])) _
    refine XS.iloadN X0.here hx rfl (hb hby at_0) rfl ?_
    show Steps p.tables e below (s₁.setTop (mkF m 1 #[.val (.int pa), .val (.int pb), .val (.int pm), .val (.int pd), .unset, .unset, .unset, .unset, .unset, .unset] [(.int pa)])) _
    refine XS.iconst X0.here hx rfl (hb hby at_1) ?_
    show Steps p.tables e below (s₁.setTop (mkF m 2 #[.val (.int pa), .val (.int pb), .val (.int pm), .val (.int pd), .unset, .unset, .unset, .unset, .unset, .unset] [(.int (3 : Int32)), (.int pa)])) _
    refine XS.ishr X0.here hx rfl (hb hby at_2) rfl ?_
    show Steps p.tables e below (s₁.setTop (mkF m 3 #[.val (.int pa), .val (.int pb), .val (.int pm), .val (.int pd), .unset, .unset, .unset, .unset, .unset, .unset] [(.int (pa >>> ((3 : Int32) &&& 31)))])) _
    refine XS.istore X0.here hx rfl (hb hby at_3) rfl (l' := #[.val (.int pa), .val (.int pb), .val (.int pm), .val (.int pd), .val (.int (pa >>> ((3 : Int32) &&& 31))), .unset, .unset, .unset, .unset, .unset]) rfl ?_
    show Steps p.tables e below (s₁.setTop (mkF m 5 #[.val (.int pa), .val (.int pb), .val (.int pm), .val (.int pd), .val (.int (pa >>> ((3 : Int32) &&& 31))), .unset, .unset, .unset, .unset, .unset] [])) _
    refine XS.iloadN X0.here hx rfl (hb hby at_5) rfl ?_
    show Steps p.tables e below (s₁.setTop (mkF m 6 #[.val (.int pa), .val (.int pb), .val (.int pm), .val (.int pd), .val (.int (pa >>> ((3 : Int32) &&& 31))), .unset, .unset, .unset, .unset, .unset] [(.int pd)])) _
    refine XS.bipush X0.here hx rfl (hb hby at_6) ?_
    show Steps p.tables e below (s₁.setTop (mkF m 8 #[.val (.int pa), .val (.int pb), .val (.int pm), .val (.int pd), .val (.int (pa >>> ((3 : Int32) &&& 31))), .unset, .unset, .unset, .unset, .unset] [(.int (7 : Int32)), (.int pd)])) _
    refine XS.iand X0.here hx rfl (hb hby at_8) rfl ?_
    show Steps p.tables e below (s₁.setTop (mkF m 9 #[.val (.int pa), .val (.int pb), .val (.int pm), .val (.int pd), .val (.int (pa >>> ((3 : Int32) &&& 31))), .unset, .unset, .unset, .unset, .unset] [(.int (pd &&& (7 : Int32)))])) _
    refine XS.iconst X0.here hx rfl (hb hby at_9) ?_
    show Steps p.tables e below (s₁.setTop (mkF m 10 #[.val (.int pa), .val (.int pb), .val (.int pm), .val (.int pd), .val (.int (pa >>> ((3 : Int32) &&& 31))), .unset, .unset, .unset, .unset, .unset] [(.int (4 : Int32)), (.int (pd &&& (7 : Int32)))])) _
    refine XS.isub X0.here hx rfl (hb hby at_10) rfl ?_
    show Steps p.tables e below (s₁.setTop (mkF m 11 #[.val (.int pa), .val (.int pb), .val (.int pm), .val (.int pd), .val (.int (pa >>> ((3 : Int32) &&& 31))), .unset, .unset, .unset, .unset, .unset] [(.int ((pd &&& (7 : Int32)) - (4 : Int32)))])) _
    refine XS.istore X0.here hx rfl (hb hby at_11) rfl (l' := #[.val (.int pa), .val (.int pb), .val (.int pm), .val (.int pd), .val (.int (pa >>> ((3 : Int32) &&& 31))), .val (.int ((pd &&& (7 : Int32)) - (4 : Int32))), .unset, .unset, .unset, .unset]) rfl ?_
    show Steps p.tables e below (s₁.setTop (mkF m 13 #[.val (.int pa), .val (.int pb), .val (.int pm), .val (.int pd), .val (.int (pa >>> ((3 : Int32) &&& 31))), .val (.int ((pd &&& (7 : Int32)) - (4 : Int32))), .unset, .unset, .unset, .unset] [])) _
    refine XS.iloadN X0.here hx rfl (hb hby at_13) rfl ?_
    show Steps p.tables e below (s₁.setTop (mkF m 14 #[.val (.int pa), .val (.int pb), .val (.int pm), .val (.int pd), .val (.int (pa >>> ((3 : Int32) &&& 31))), .val (.int ((pd &&& (7 : Int32)) - (4 : Int32))), .unset, .unset, .unset, .unset] [(.int pm)])) _
    refine XS.iconst X0.here hx rfl (hb hby at_14) ?_
    show Steps p.tables e below (s₁.setTop (mkF m 15 #[.val (.int pa), .val (.int pb), .val (.int pm), .val (.int pd), .val (.int (pa >>> ((3 : Int32) &&& 31))), .val (.int ((pd &&& (7 : Int32)) - (4 : Int32))), .unset, .unset, .unset, .unset] [(.int (3 : Int32)), (.int pm)])) _
    refine XS.iand X0.here hx rfl (hb hby at_15) rfl ?_
    show Steps p.tables e below (s₁.setTop (mkF m 16 #[.val (.int pa), .val (.int pb), .val (.int pm), .val (.int pd), .val (.int (pa >>> ((3 : Int32) &&& 31))), .val (.int ((pd &&& (7 : Int32)) - (4 : Int32))), .unset, .unset, .unset, .unset] [(.int (pm &&& (3 : Int32)))])) _
    refine XS.istore X0.here hx rfl (hb hby at_16) rfl (l' := #[.val (.int pa), .val (.int pb), .val (.int pm), .val (.int pd), .val (.int (pa >>> ((3 : Int32) &&& 31))), .val (.int ((pd &&& (7 : Int32)) - (4 : Int32))), .val (.int (pm &&& (3 : Int32))), .unset, .unset, .unset]) rfl ?_
    show Steps p.tables e below (s₁.setTop (mkF m 18 #[.val (.int pa), .val (.int pb), .val (.int pm), .val (.int pd), .val (.int (pa >>> ((3 : Int32) &&& 31))), .val (.int ((pd &&& (7 : Int32)) - (4 : Int32))), .val (.int (pm &&& (3 : Int32))), .unset, .unset, .unset] [])) _
    refine XS.iload X0.here hx rfl (hb hby at_18) rfl ?_
    show Steps p.tables e below (s₁.setTop (mkF m 20 #[.val (.int pa), .val (.int pb), .val (.int pm), .val (.int pd), .val (.int (pa >>> ((3 : Int32) &&& 31))), .val (.int ((pd &&& (7 : Int32)) - (4 : Int32))), .val (.int (pm &&& (3 : Int32))), .unset, .unset, .unset] [(.int (pm &&& (3 : Int32)))])) _
    refine XS.iconst X0.here hx rfl (hb hby at_20) ?_
    show Steps p.tables e below (s₁.setTop (mkF m 21 #[.val (.int pa), .val (.int pb), .val (.int pm), .val (.int pd), .val (.int (pa >>> ((3 : Int32) &&& 31))), .val (.int ((pd &&& (7 : Int32)) - (4 : Int32))), .val (.int (pm &&& (3 : Int32))), .unset, .unset, .unset] [(.int (1 : Int32)), (.int (pm &&& (3 : Int32)))])) _
    exact kt
  by_cases hc21_2 : (pm &&& (3 : Int32)) = (1 : Int32)
  · obtain ⟨_, _, ⟨T3, L3, k3, n3⟩, -, X3, ⟨Lc3, hQ3, l3, y3, z3⟩, st3⟩ := Jvm.LawKit.callS X0 hx (y := (⟨"com/example/ticinus/ticinus/battle/Odds", "loss", "(II)I"⟩ : MethodName)) hown (mvT hZ (hw _ (List.mem_of_getElem? (i := 0) rfl))) (mvT hZ (hw _ (List.mem_of_getElem? (i := 1) rfl))) (mvT hZ (hw _ (List.mem_of_getElem? (i := 2) rfl))) (mvT hZ (hw _ (List.mem_of_getElem? (i := 3) rfl))) (by decide) (backOf (W := 0) (rm1 l Z a0 hw [] (pa >>> ((3 : Int32) &&& 31)) ((pa >>> ((3 : Int32) &&& 31)) + ((pd &&& (7 : Int32)) - (4 : Int32))) h0 n0 Z0 ) hZ (hw _ (List.mem_of_getElem? (i := 3) rfl)) (hw _ (List.mem_of_getElem? (i := 2) rfl)) (by decide) (by decide)) (g := (mkF m 61 #[.val (.int pa), .val (.int pb), .val (.int pm), .val (.int pd), .val (.int (pa >>> ((3 : Int32) &&& 31))), .val (.int ((pd &&& (7 : Int32)) - (4 : Int32))), .val (.int (pm &&& (3 : Int32))), .val (.int ((pa >>> ((3 : Int32) &&& 31)) + ((pd &&& (7 : Int32)) - (4 : Int32)))), .unset, .unset] [(.int ((pa >>> ((3 : Int32) &&& 31)) + ((pd &&& (7 : Int32)) - (4 : Int32)))), (.int (pa >>> ((3 : Int32) &&& 31)))])) rfl (by rw [hml]; rfl) (argsL := [(.int (pa >>> ((3 : Int32) &&& 31))), (.int ((pa >>> ((3 : Int32) &&& 31)) + ((pd &&& (7 : Int32)) - (4 : Int32))))]) (rest := []) (lenOf pd_0 rfl) rfl (by show 2 * 0 + _ ≤ _; exact Nat.le_of_eq rfl) (hb hby at_61) (fun _ _ => ⟨rfl, e0, (by decide : 0 + 0 ≤ _), (by decide : 0 + 0 ≤ _)⟩)
    dsimp only [Pt.U, Pt.locs, Pt.cells, Pt.slots] at X3 l3 y3 z3 st3 hQ3
    subst l3 y3 z3
    obtain ⟨rfl, N3q, e3⟩ := hQ3
    have N3 := Fr.app N0 N3q
    obtain ⟨_, _, ⟨T4, L4, k4, n4⟩, -, X4, ⟨Lc4, hQ4, l4, y4, z4⟩, st4⟩ := Jvm.LawKit.callS X3 hx (y := (⟨"com/example/ticinus/ticinus/battle/Odds", "loss", "(II)I"⟩ : MethodName)) hown (mvT hZ (hw _ (List.mem_of_getElem? (i := 0) rfl))) (mvT hZ (hw _ (List.mem_of_getElem? (i := 1) rfl))) (mvT hZ (hw _ (List.mem_of_getElem? (i := 2) rfl))) (mvT hZ (hw _ (List.mem_of_getElem? (i := 3) rfl))) (by decide) (backOf (W := 0) (rm1 l Z a0 hw [] ((pa >>> ((3 : Int32) &&& 31)) + ((pd &&& (7 : Int32)) - (4 : Int32))) (pa >>> ((3 : Int32) &&& 31)) h0 n0 Z0 ) hZ (hw _ (List.mem_of_getElem? (i := 3) rfl)) (hw _ (List.mem_of_getElem? (i := 2) rfl)) (by decide) (by decide)) (g := (mkF m 70 #[.val (.int pa), .val (.int pb), .val (.int pm), .val (.int pd), .val (.int (pa >>> ((3 : Int32) &&& 31))), .val (.int ((pd &&& (7 : Int32)) - (4 : Int32))), .val (.int (pm &&& (3 : Int32))), .val (.int ((pa >>> ((3 : Int32) &&& 31)) + ((pd &&& (7 : Int32)) - (4 : Int32)))), .val (.int (lossF (pa >>> ((3 : Int32) &&& 31)) ((pa >>> ((3 : Int32) &&& 31)) + ((pd &&& (7 : Int32)) - (4 : Int32))))), .unset] [(.int (pa >>> ((3 : Int32) &&& 31))), (.int ((pa >>> ((3 : Int32) &&& 31)) + ((pd &&& (7 : Int32)) - (4 : Int32))))])) rfl (by rw [hml]; rfl) (argsL := [(.int ((pa >>> ((3 : Int32) &&& 31)) + ((pd &&& (7 : Int32)) - (4 : Int32)))), (.int (pa >>> ((3 : Int32) &&& 31)))]) (rest := []) (lenOf pd_0 rfl) rfl (by show 2 * 0 + _ ≤ _; exact Nat.le_of_eq rfl) (hb hby at_70) (fun _ _ => ⟨rfl, e3, (by decide : 0 + 0 ≤ _), (by decide : 0 + 0 ≤ _)⟩)
    dsimp only [Pt.U, Pt.locs, Pt.cells, Pt.slots] at X4 l4 y4 z4 st4 hQ4
    subst l4 y4 z4
    obtain ⟨rfl, N4q, e4⟩ := hQ4
    have N4 := Fr.app N3 N4q
    obtain ⟨_, _, ⟨T5, L5, k5, n5⟩, -, X5, ⟨Lc5, hQ5, l5, y5, z5⟩, st5⟩ := Jvm.LawKit.callS X4 hx (y := (⟨"com/example/ticinus/ticinus/battle/OddsLossPinLaw", "expected", "(II)I"⟩ : MethodName)) hown (mvT hZ (hw _ (List.mem_of_getElem? (i := 4) rfl))) (mvT hZ (hw _ (List.mem_of_getElem? (i := 5) rfl))) (mvT hZ (hw _ (List.mem_of_getElem? (i := 6) rfl))) (mvT hZ (hw _ (List.mem_of_getElem? (i := 7) rfl))) (by decide) (backOf (W := 1) (rm2 l Z a0 hw [] (pa >>> ((3 : Int32) &&& 31)) ((pa >>> ((3 : Int32) &&& 31)) + ((pd &&& (7 : Int32)) - (4 : Int32))) h0 n0 Z0 ) hZ (hw _ (List.mem_of_getElem? (i := 7) rfl)) (hw _ (List.mem_of_getElem? (i := 6) rfl)) (by decide) (by decide)) (g := (mkF m 81 #[.val (.int pa), .val (.int pb), .val (.int pm), .val (.int pd), .val (.int (pa >>> ((3 : Int32) &&& 31))), .val (.int ((pd &&& (7 : Int32)) - (4 : Int32))), .val (.int (pm &&& (3 : Int32))), .val (.int ((pa >>> ((3 : Int32) &&& 31)) + ((pd &&& (7 : Int32)) - (4 : Int32)))), .val (.int (lossF (pa >>> ((3 : Int32) &&& 31)) ((pa >>> ((3 : Int32) &&& 31)) + ((pd &&& (7 : Int32)) - (4 : Int32))))), .val (.int (lossF ((pa >>> ((3 : Int32) &&& 31)) + ((pd &&& (7 : Int32)) - (4 : Int32))) (pa >>> ((3 : Int32) &&& 31))))] [(.int ((pa >>> ((3 : Int32) &&& 31)) + ((pd &&& (7 : Int32)) - (4 : Int32)))), (.int (pa >>> ((3 : Int32) &&& 31))), (.int (lossF (pa >>> ((3 : Int32) &&& 31)) ((pa >>> ((3 : Int32) &&& 31)) + ((pd &&& (7 : Int32)) - (4 : Int32)))))])) rfl (by rw [hml]; rfl) (argsL := [(.int (pa >>> ((3 : Int32) &&& 31))), (.int ((pa >>> ((3 : Int32) &&& 31)) + ((pd &&& (7 : Int32)) - (4 : Int32))))]) (rest := [(.int (lossF (pa >>> ((3 : Int32) &&& 31)) ((pa >>> ((3 : Int32) &&& 31)) + ((pd &&& (7 : Int32)) - (4 : Int32)))))]) (lenOf pd_0 rfl) rfl (by show 2 * 0 + _ ≤ _; exact Nat.le_of_eq rfl) (hb hby at_81) (fun _ _ => ⟨rfl, e4, (by decide : 0 + 0 ≤ _), (by decide : 0 + 0 ≤ _)⟩)
    dsimp only [Pt.U, Pt.locs, Pt.cells, Pt.slots] at X5 l5 y5 z5 st5 hQ5
    subst l5 y5 z5
    obtain ⟨rfl, N5q, e5⟩ := hQ5
    have N5 := Fr.app N4 N5q
    obtain ⟨_, _, ⟨T6, L6, k6, n6⟩, -, X6, ⟨Lc6, hQ6, l6, y6, z6⟩, st6⟩ := Jvm.LawKit.callS X5 hx (y := (⟨"com/example/ticinus/ticinus/battle/OddsLossPinLaw", "expected", "(II)I"⟩ : MethodName)) hown (mvT hZ (hw _ (List.mem_of_getElem? (i := 4) rfl))) (mvT hZ (hw _ (List.mem_of_getElem? (i := 5) rfl))) (mvT hZ (hw _ (List.mem_of_getElem? (i := 6) rfl))) (mvT hZ (hw _ (List.mem_of_getElem? (i := 7) rfl))) (by decide) (backOf (W := 1) (rm2 l Z a0 hw [] ((pa >>> ((3 : Int32) &&& 31)) + ((pd &&& (7 : Int32)) - (4 : Int32))) (pa >>> ((3 : Int32) &&& 31)) h0 n0 Z0 ) hZ (hw _ (List.mem_of_getElem? (i := 7) rfl)) (hw _ (List.mem_of_getElem? (i := 6) rfl)) (by decide) (by decide)) (g := (mkF m 93 #[.val (.int pa), .val (.int pb), .val (.int pm), .val (.int pd), .val (.int (pa >>> ((3 : Int32) &&& 31))), .val (.int ((pd &&& (7 : Int32)) - (4 : Int32))), .val (.int (pm &&& (3 : Int32))), .val (.int ((pa >>> ((3 : Int32) &&& 31)) + ((pd &&& (7 : Int32)) - (4 : Int32)))), .val (.int (lossF (pa >>> ((3 : Int32) &&& 31)) ((pa >>> ((3 : Int32) &&& 31)) + ((pd &&& (7 : Int32)) - (4 : Int32))))), .val (.int (lossF ((pa >>> ((3 : Int32) &&& 31)) + ((pd &&& (7 : Int32)) - (4 : Int32))) (pa >>> ((3 : Int32) &&& 31))))] [(.int (pa >>> ((3 : Int32) &&& 31))), (.int ((pa >>> ((3 : Int32) &&& 31)) + ((pd &&& (7 : Int32)) - (4 : Int32)))), (.int (lossF ((pa >>> ((3 : Int32) &&& 31)) + ((pd &&& (7 : Int32)) - (4 : Int32))) (pa >>> ((3 : Int32) &&& 31))))])) rfl (by rw [hml]; rfl) (argsL := [(.int ((pa >>> ((3 : Int32) &&& 31)) + ((pd &&& (7 : Int32)) - (4 : Int32)))), (.int (pa >>> ((3 : Int32) &&& 31)))]) (rest := [(.int (lossF ((pa >>> ((3 : Int32) &&& 31)) + ((pd &&& (7 : Int32)) - (4 : Int32))) (pa >>> ((3 : Int32) &&& 31))))]) (lenOf pd_0 rfl) rfl (by show 2 * 0 + _ ≤ _; exact Nat.le_of_eq rfl) (hb hby at_93) (fun _ _ => ⟨rfl, e5, (by decide : 0 + 0 ≤ _), (by decide : 0 + 0 ≤ _)⟩)
    dsimp only [Pt.U, Pt.locs, Pt.cells, Pt.slots] at X6 l6 y6 z6 st6 hQ6
    subst l6 y6 z6
    obtain ⟨rfl, N6q, e6⟩ := hQ6
    have N6 := Fr.app N5 N6q
    obtain ⟨fs, hr, hrun, hended, hW, hsame⟩ := X6.leave (v := some (.int (1 : Int32))) (fun h => by rw [Bd.returns] at h; cases h)
    refine ⟨_, _, pre1 _ ?_, hrun, hended, _, _, rfl, ?_, ⟨_, rfl⟩, hW, hsame.mono (by decide) (by decide)⟩
    · show Steps p.tables e below (s₁.setTop (mkF m 21 #[.val (.int pa), .val (.int pb), .val (.int pm), .val (.int pd), .val (.int (pa >>> ((3 : Int32) &&& 31))), .val (.int ((pd &&& (7 : Int32)) - (4 : Int32))), .val (.int (pm &&& (3 : Int32))), .unset, .unset, .unset] [(.int (1 : Int32)), (.int (pm &&& (3 : Int32)))])) _
      refine XS.icmpNo X0.here hx rfl (hb hby at_21) rfl (teq hc21_2).2 ?_
      show Steps p.tables e below (s₁.setTop (mkF m 24 #[.val (.int pa), .val (.int pb), .val (.int pm), .val (.int pd), .val (.int (pa >>> ((3 : Int32) &&& 31))), .val (.int ((pd &&& (7 : Int32)) - (4 : Int32))), .val (.int (pm &&& (3 : Int32))), .unset, .unset, .unset] [])) _
      refine XS.iload X0.here hx rfl (hb hby at_24) rfl ?_
      show Steps p.tables e below (s₁.setTop (mkF m 26 #[.val (.int pa), .val (.int pb), .val (.int pm), .val (.int pd), .val (.int (pa >>> ((3 : Int32) &&& 31))), .val (.int ((pd &&& (7 : Int32)) - (4 : Int32))), .val (.int (pm &&& (3 : Int32))), .unset, .unset, .unset] [(.int (pa >>> ((3 : Int32) &&& 31)))])) _
      refine XS.iload X0.here hx rfl (hb hby at_26) rfl ?_
      show Steps p.tables e below (s₁.setTop (mkF m 28 #[.val (.int pa), .val (.int pb), .val (.int pm), .val (.int pd), .val (.int (pa >>> ((3 : Int32) &&& 31))), .val (.int ((pd &&& (7 : Int32)) - (4 : Int32))), .val (.int (pm &&& (3 : Int32))), .unset, .unset, .unset] [(.int ((pd &&& (7 : Int32)) - (4 : Int32))), (.int (pa >>> ((3 : Int32) &&& 31)))])) _
      refine XS.iadd X0.here hx rfl (hb hby at_28) rfl ?_
      show Steps p.tables e below (s₁.setTop (mkF m 29 #[.val (.int pa), .val (.int pb), .val (.int pm), .val (.int pd), .val (.int (pa >>> ((3 : Int32) &&& 31))), .val (.int ((pd &&& (7 : Int32)) - (4 : Int32))), .val (.int (pm &&& (3 : Int32))), .unset, .unset, .unset] [(.int ((pa >>> ((3 : Int32) &&& 31)) + ((pd &&& (7 : Int32)) - (4 : Int32))))])) _
      refine XS.istore X0.here hx rfl (hb hby at_29) rfl (l' := #[.val (.int pa), .val (.int pb), .val (.int pm), .val (.int pd), .val (.int (pa >>> ((3 : Int32) &&& 31))), .val (.int ((pd &&& (7 : Int32)) - (4 : Int32))), .val (.int (pm &&& (3 : Int32))), .val (.int ((pa >>> ((3 : Int32) &&& 31)) + ((pd &&& (7 : Int32)) - (4 : Int32)))), .unset, .unset]) rfl ?_
      show Steps p.tables e below (s₁.setTop (mkF m 31 #[.val (.int pa), .val (.int pb), .val (.int pm), .val (.int pd), .val (.int (pa >>> ((3 : Int32) &&& 31))), .val (.int ((pd &&& (7 : Int32)) - (4 : Int32))), .val (.int (pm &&& (3 : Int32))), .val (.int ((pa >>> ((3 : Int32) &&& 31)) + ((pd &&& (7 : Int32)) - (4 : Int32)))), .unset, .unset] [])) _
      refine XS.goto X0.here hx rfl (pc0 := 31) (pc' := 57) rfl (hb hby at_31) (by decide) (by decide) ?_
      show Steps p.tables e below (s₁.setTop (mkF m 57 #[.val (.int pa), .val (.int pb), .val (.int pm), .val (.int pd), .val (.int (pa >>> ((3 : Int32) &&& 31))), .val (.int ((pd &&& (7 : Int32)) - (4 : Int32))), .val (.int (pm &&& (3 : Int32))), .val (.int ((pa >>> ((3 : Int32) &&& 31)) + ((pd &&& (7 : Int32)) - (4 : Int32)))), .unset, .unset] [])) _
      refine XS.iload X0.here hx rfl (hb hby at_57) rfl ?_
      show Steps p.tables e below (s₁.setTop (mkF m 59 #[.val (.int pa), .val (.int pb), .val (.int pm), .val (.int pd), .val (.int (pa >>> ((3 : Int32) &&& 31))), .val (.int ((pd &&& (7 : Int32)) - (4 : Int32))), .val (.int (pm &&& (3 : Int32))), .val (.int ((pa >>> ((3 : Int32) &&& 31)) + ((pd &&& (7 : Int32)) - (4 : Int32)))), .unset, .unset] [(.int (pa >>> ((3 : Int32) &&& 31)))])) _
      refine XS.iload X0.here hx rfl (hb hby at_59) rfl ?_
      show Steps p.tables e below (s₁.setTop (mkF m 61 #[.val (.int pa), .val (.int pb), .val (.int pm), .val (.int pd), .val (.int (pa >>> ((3 : Int32) &&& 31))), .val (.int ((pd &&& (7 : Int32)) - (4 : Int32))), .val (.int (pm &&& (3 : Int32))), .val (.int ((pa >>> ((3 : Int32) &&& 31)) + ((pd &&& (7 : Int32)) - (4 : Int32)))), .unset, .unset] [(.int ((pa >>> ((3 : Int32) &&& 31)) + ((pd &&& (7 : Int32)) - (4 : Int32)))), (.int (pa >>> ((3 : Int32) &&& 31)))])) _
      refine st3 _ ?_
      show Steps p.tables e below (T3.setTop (mkF m 64 #[.val (.int pa), .val (.int pb), .val (.int pm), .val (.int pd), .val (.int (pa >>> ((3 : Int32) &&& 31))), .val (.int ((pd &&& (7 : Int32)) - (4 : Int32))), .val (.int (pm &&& (3 : Int32))), .val (.int ((pa >>> ((3 : Int32) &&& 31)) + ((pd &&& (7 : Int32)) - (4 : Int32)))), .unset, .unset] [(.int (lossF (pa >>> ((3 : Int32) &&& 31)) ((pa >>> ((3 : Int32) &&& 31)) + ((pd &&& (7 : Int32)) - (4 : Int32)))))])) _
      refine XS.istore X3.here hx rfl (hb hby at_64) rfl (l' := #[.val (.int pa), .val (.int pb), .val (.int pm), .val (.int pd), .val (.int (pa >>> ((3 : Int32) &&& 31))), .val (.int ((pd &&& (7 : Int32)) - (4 : Int32))), .val (.int (pm &&& (3 : Int32))), .val (.int ((pa >>> ((3 : Int32) &&& 31)) + ((pd &&& (7 : Int32)) - (4 : Int32)))), .val (.int (lossF (pa >>> ((3 : Int32) &&& 31)) ((pa >>> ((3 : Int32) &&& 31)) + ((pd &&& (7 : Int32)) - (4 : Int32))))), .unset]) rfl ?_
      show Steps p.tables e below (T3.setTop (mkF m 66 #[.val (.int pa), .val (.int pb), .val (.int pm), .val (.int pd), .val (.int (pa >>> ((3 : Int32) &&& 31))), .val (.int ((pd &&& (7 : Int32)) - (4 : Int32))), .val (.int (pm &&& (3 : Int32))), .val (.int ((pa >>> ((3 : Int32) &&& 31)) + ((pd &&& (7 : Int32)) - (4 : Int32)))), .val (.int (lossF (pa >>> ((3 : Int32) &&& 31)) ((pa >>> ((3 : Int32) &&& 31)) + ((pd &&& (7 : Int32)) - (4 : Int32))))), .unset] [])) _
      refine XS.iload X3.here hx rfl (hb hby at_66) rfl ?_
      show Steps p.tables e below (T3.setTop (mkF m 68 #[.val (.int pa), .val (.int pb), .val (.int pm), .val (.int pd), .val (.int (pa >>> ((3 : Int32) &&& 31))), .val (.int ((pd &&& (7 : Int32)) - (4 : Int32))), .val (.int (pm &&& (3 : Int32))), .val (.int ((pa >>> ((3 : Int32) &&& 31)) + ((pd &&& (7 : Int32)) - (4 : Int32)))), .val (.int (lossF (pa >>> ((3 : Int32) &&& 31)) ((pa >>> ((3 : Int32) &&& 31)) + ((pd &&& (7 : Int32)) - (4 : Int32))))), .unset] [(.int ((pa >>> ((3 : Int32) &&& 31)) + ((pd &&& (7 : Int32)) - (4 : Int32))))])) _
      refine XS.iload X3.here hx rfl (hb hby at_68) rfl ?_
      show Steps p.tables e below (T3.setTop (mkF m 70 #[.val (.int pa), .val (.int pb), .val (.int pm), .val (.int pd), .val (.int (pa >>> ((3 : Int32) &&& 31))), .val (.int ((pd &&& (7 : Int32)) - (4 : Int32))), .val (.int (pm &&& (3 : Int32))), .val (.int ((pa >>> ((3 : Int32) &&& 31)) + ((pd &&& (7 : Int32)) - (4 : Int32)))), .val (.int (lossF (pa >>> ((3 : Int32) &&& 31)) ((pa >>> ((3 : Int32) &&& 31)) + ((pd &&& (7 : Int32)) - (4 : Int32))))), .unset] [(.int (pa >>> ((3 : Int32) &&& 31))), (.int ((pa >>> ((3 : Int32) &&& 31)) + ((pd &&& (7 : Int32)) - (4 : Int32))))])) _
      refine st4 _ ?_
      show Steps p.tables e below (T4.setTop (mkF m 73 #[.val (.int pa), .val (.int pb), .val (.int pm), .val (.int pd), .val (.int (pa >>> ((3 : Int32) &&& 31))), .val (.int ((pd &&& (7 : Int32)) - (4 : Int32))), .val (.int (pm &&& (3 : Int32))), .val (.int ((pa >>> ((3 : Int32) &&& 31)) + ((pd &&& (7 : Int32)) - (4 : Int32)))), .val (.int (lossF (pa >>> ((3 : Int32) &&& 31)) ((pa >>> ((3 : Int32) &&& 31)) + ((pd &&& (7 : Int32)) - (4 : Int32))))), .unset] [(.int (lossF ((pa >>> ((3 : Int32) &&& 31)) + ((pd &&& (7 : Int32)) - (4 : Int32))) (pa >>> ((3 : Int32) &&& 31))))])) _
      refine XS.istore X4.here hx rfl (hb hby at_73) rfl (l' := #[.val (.int pa), .val (.int pb), .val (.int pm), .val (.int pd), .val (.int (pa >>> ((3 : Int32) &&& 31))), .val (.int ((pd &&& (7 : Int32)) - (4 : Int32))), .val (.int (pm &&& (3 : Int32))), .val (.int ((pa >>> ((3 : Int32) &&& 31)) + ((pd &&& (7 : Int32)) - (4 : Int32)))), .val (.int (lossF (pa >>> ((3 : Int32) &&& 31)) ((pa >>> ((3 : Int32) &&& 31)) + ((pd &&& (7 : Int32)) - (4 : Int32))))), .val (.int (lossF ((pa >>> ((3 : Int32) &&& 31)) + ((pd &&& (7 : Int32)) - (4 : Int32))) (pa >>> ((3 : Int32) &&& 31))))]) rfl ?_
      show Steps p.tables e below (T4.setTop (mkF m 75 #[.val (.int pa), .val (.int pb), .val (.int pm), .val (.int pd), .val (.int (pa >>> ((3 : Int32) &&& 31))), .val (.int ((pd &&& (7 : Int32)) - (4 : Int32))), .val (.int (pm &&& (3 : Int32))), .val (.int ((pa >>> ((3 : Int32) &&& 31)) + ((pd &&& (7 : Int32)) - (4 : Int32)))), .val (.int (lossF (pa >>> ((3 : Int32) &&& 31)) ((pa >>> ((3 : Int32) &&& 31)) + ((pd &&& (7 : Int32)) - (4 : Int32))))), .val (.int (lossF ((pa >>> ((3 : Int32) &&& 31)) + ((pd &&& (7 : Int32)) - (4 : Int32))) (pa >>> ((3 : Int32) &&& 31))))] [])) _
      refine XS.iload X4.here hx rfl (hb hby at_75) rfl ?_
      show Steps p.tables e below (T4.setTop (mkF m 77 #[.val (.int pa), .val (.int pb), .val (.int pm), .val (.int pd), .val (.int (pa >>> ((3 : Int32) &&& 31))), .val (.int ((pd &&& (7 : Int32)) - (4 : Int32))), .val (.int (pm &&& (3 : Int32))), .val (.int ((pa >>> ((3 : Int32) &&& 31)) + ((pd &&& (7 : Int32)) - (4 : Int32)))), .val (.int (lossF (pa >>> ((3 : Int32) &&& 31)) ((pa >>> ((3 : Int32) &&& 31)) + ((pd &&& (7 : Int32)) - (4 : Int32))))), .val (.int (lossF ((pa >>> ((3 : Int32) &&& 31)) + ((pd &&& (7 : Int32)) - (4 : Int32))) (pa >>> ((3 : Int32) &&& 31))))] [(.int (lossF (pa >>> ((3 : Int32) &&& 31)) ((pa >>> ((3 : Int32) &&& 31)) + ((pd &&& (7 : Int32)) - (4 : Int32)))))])) _
      refine XS.iload X4.here hx rfl (hb hby at_77) rfl ?_
      show Steps p.tables e below (T4.setTop (mkF m 79 #[.val (.int pa), .val (.int pb), .val (.int pm), .val (.int pd), .val (.int (pa >>> ((3 : Int32) &&& 31))), .val (.int ((pd &&& (7 : Int32)) - (4 : Int32))), .val (.int (pm &&& (3 : Int32))), .val (.int ((pa >>> ((3 : Int32) &&& 31)) + ((pd &&& (7 : Int32)) - (4 : Int32)))), .val (.int (lossF (pa >>> ((3 : Int32) &&& 31)) ((pa >>> ((3 : Int32) &&& 31)) + ((pd &&& (7 : Int32)) - (4 : Int32))))), .val (.int (lossF ((pa >>> ((3 : Int32) &&& 31)) + ((pd &&& (7 : Int32)) - (4 : Int32))) (pa >>> ((3 : Int32) &&& 31))))] [(.int (pa >>> ((3 : Int32) &&& 31))), (.int (lossF (pa >>> ((3 : Int32) &&& 31)) ((pa >>> ((3 : Int32) &&& 31)) + ((pd &&& (7 : Int32)) - (4 : Int32)))))])) _
      refine XS.iload X4.here hx rfl (hb hby at_79) rfl ?_
      show Steps p.tables e below (T4.setTop (mkF m 81 #[.val (.int pa), .val (.int pb), .val (.int pm), .val (.int pd), .val (.int (pa >>> ((3 : Int32) &&& 31))), .val (.int ((pd &&& (7 : Int32)) - (4 : Int32))), .val (.int (pm &&& (3 : Int32))), .val (.int ((pa >>> ((3 : Int32) &&& 31)) + ((pd &&& (7 : Int32)) - (4 : Int32)))), .val (.int (lossF (pa >>> ((3 : Int32) &&& 31)) ((pa >>> ((3 : Int32) &&& 31)) + ((pd &&& (7 : Int32)) - (4 : Int32))))), .val (.int (lossF ((pa >>> ((3 : Int32) &&& 31)) + ((pd &&& (7 : Int32)) - (4 : Int32))) (pa >>> ((3 : Int32) &&& 31))))] [(.int ((pa >>> ((3 : Int32) &&& 31)) + ((pd &&& (7 : Int32)) - (4 : Int32)))), (.int (pa >>> ((3 : Int32) &&& 31))), (.int (lossF (pa >>> ((3 : Int32) &&& 31)) ((pa >>> ((3 : Int32) &&& 31)) + ((pd &&& (7 : Int32)) - (4 : Int32)))))])) _
      refine st5 _ ?_
      show Steps p.tables e below (T5.setTop (mkF m 84 #[.val (.int pa), .val (.int pb), .val (.int pm), .val (.int pd), .val (.int (pa >>> ((3 : Int32) &&& 31))), .val (.int ((pd &&& (7 : Int32)) - (4 : Int32))), .val (.int (pm &&& (3 : Int32))), .val (.int ((pa >>> ((3 : Int32) &&& 31)) + ((pd &&& (7 : Int32)) - (4 : Int32)))), .val (.int (lossF (pa >>> ((3 : Int32) &&& 31)) ((pa >>> ((3 : Int32) &&& 31)) + ((pd &&& (7 : Int32)) - (4 : Int32))))), .val (.int (lossF ((pa >>> ((3 : Int32) &&& 31)) + ((pd &&& (7 : Int32)) - (4 : Int32))) (pa >>> ((3 : Int32) &&& 31))))] [(.int (expF (pa >>> ((3 : Int32) &&& 31)) ((pa >>> ((3 : Int32) &&& 31)) + ((pd &&& (7 : Int32)) - (4 : Int32))))), (.int (lossF (pa >>> ((3 : Int32) &&& 31)) ((pa >>> ((3 : Int32) &&& 31)) + ((pd &&& (7 : Int32)) - (4 : Int32)))))])) _
      refine XS.icmpNo X5.here hx rfl (hb hby at_84) rfl (teq (own_same _ _ (own_b0 pa).1 (own_b0 pa).2 : (lossF (pa >>> ((3 : Int32) &&& 31)) ((pa >>> ((3 : Int32) &&& 31)) + ((pd &&& (7 : Int32)) - (4 : Int32)))) = (expF (pa >>> ((3 : Int32) &&& 31)) ((pa >>> ((3 : Int32) &&& 31)) + ((pd &&& (7 : Int32)) - (4 : Int32)))))).2 ?_
      show Steps p.tables e below (T5.setTop (mkF m 87 #[.val (.int pa), .val (.int pb), .val (.int pm), .val (.int pd), .val (.int (pa >>> ((3 : Int32) &&& 31))), .val (.int ((pd &&& (7 : Int32)) - (4 : Int32))), .val (.int (pm &&& (3 : Int32))), .val (.int ((pa >>> ((3 : Int32) &&& 31)) + ((pd &&& (7 : Int32)) - (4 : Int32)))), .val (.int (lossF (pa >>> ((3 : Int32) &&& 31)) ((pa >>> ((3 : Int32) &&& 31)) + ((pd &&& (7 : Int32)) - (4 : Int32))))), .val (.int (lossF ((pa >>> ((3 : Int32) &&& 31)) + ((pd &&& (7 : Int32)) - (4 : Int32))) (pa >>> ((3 : Int32) &&& 31))))] [])) _
      refine XS.iload X5.here hx rfl (hb hby at_87) rfl ?_
      show Steps p.tables e below (T5.setTop (mkF m 89 #[.val (.int pa), .val (.int pb), .val (.int pm), .val (.int pd), .val (.int (pa >>> ((3 : Int32) &&& 31))), .val (.int ((pd &&& (7 : Int32)) - (4 : Int32))), .val (.int (pm &&& (3 : Int32))), .val (.int ((pa >>> ((3 : Int32) &&& 31)) + ((pd &&& (7 : Int32)) - (4 : Int32)))), .val (.int (lossF (pa >>> ((3 : Int32) &&& 31)) ((pa >>> ((3 : Int32) &&& 31)) + ((pd &&& (7 : Int32)) - (4 : Int32))))), .val (.int (lossF ((pa >>> ((3 : Int32) &&& 31)) + ((pd &&& (7 : Int32)) - (4 : Int32))) (pa >>> ((3 : Int32) &&& 31))))] [(.int (lossF ((pa >>> ((3 : Int32) &&& 31)) + ((pd &&& (7 : Int32)) - (4 : Int32))) (pa >>> ((3 : Int32) &&& 31))))])) _
      refine XS.iload X5.here hx rfl (hb hby at_89) rfl ?_
      show Steps p.tables e below (T5.setTop (mkF m 91 #[.val (.int pa), .val (.int pb), .val (.int pm), .val (.int pd), .val (.int (pa >>> ((3 : Int32) &&& 31))), .val (.int ((pd &&& (7 : Int32)) - (4 : Int32))), .val (.int (pm &&& (3 : Int32))), .val (.int ((pa >>> ((3 : Int32) &&& 31)) + ((pd &&& (7 : Int32)) - (4 : Int32)))), .val (.int (lossF (pa >>> ((3 : Int32) &&& 31)) ((pa >>> ((3 : Int32) &&& 31)) + ((pd &&& (7 : Int32)) - (4 : Int32))))), .val (.int (lossF ((pa >>> ((3 : Int32) &&& 31)) + ((pd &&& (7 : Int32)) - (4 : Int32))) (pa >>> ((3 : Int32) &&& 31))))] [(.int ((pa >>> ((3 : Int32) &&& 31)) + ((pd &&& (7 : Int32)) - (4 : Int32)))), (.int (lossF ((pa >>> ((3 : Int32) &&& 31)) + ((pd &&& (7 : Int32)) - (4 : Int32))) (pa >>> ((3 : Int32) &&& 31))))])) _
      refine XS.iload X5.here hx rfl (hb hby at_91) rfl ?_
      show Steps p.tables e below (T5.setTop (mkF m 93 #[.val (.int pa), .val (.int pb), .val (.int pm), .val (.int pd), .val (.int (pa >>> ((3 : Int32) &&& 31))), .val (.int ((pd &&& (7 : Int32)) - (4 : Int32))), .val (.int (pm &&& (3 : Int32))), .val (.int ((pa >>> ((3 : Int32) &&& 31)) + ((pd &&& (7 : Int32)) - (4 : Int32)))), .val (.int (lossF (pa >>> ((3 : Int32) &&& 31)) ((pa >>> ((3 : Int32) &&& 31)) + ((pd &&& (7 : Int32)) - (4 : Int32))))), .val (.int (lossF ((pa >>> ((3 : Int32) &&& 31)) + ((pd &&& (7 : Int32)) - (4 : Int32))) (pa >>> ((3 : Int32) &&& 31))))] [(.int (pa >>> ((3 : Int32) &&& 31))), (.int ((pa >>> ((3 : Int32) &&& 31)) + ((pd &&& (7 : Int32)) - (4 : Int32)))), (.int (lossF ((pa >>> ((3 : Int32) &&& 31)) + ((pd &&& (7 : Int32)) - (4 : Int32))) (pa >>> ((3 : Int32) &&& 31))))])) _
      refine st6 _ ?_
      show Steps p.tables e below (T6.setTop (mkF m 96 #[.val (.int pa), .val (.int pb), .val (.int pm), .val (.int pd), .val (.int (pa >>> ((3 : Int32) &&& 31))), .val (.int ((pd &&& (7 : Int32)) - (4 : Int32))), .val (.int (pm &&& (3 : Int32))), .val (.int ((pa >>> ((3 : Int32) &&& 31)) + ((pd &&& (7 : Int32)) - (4 : Int32)))), .val (.int (lossF (pa >>> ((3 : Int32) &&& 31)) ((pa >>> ((3 : Int32) &&& 31)) + ((pd &&& (7 : Int32)) - (4 : Int32))))), .val (.int (lossF ((pa >>> ((3 : Int32) &&& 31)) + ((pd &&& (7 : Int32)) - (4 : Int32))) (pa >>> ((3 : Int32) &&& 31))))] [(.int (expF ((pa >>> ((3 : Int32) &&& 31)) + ((pd &&& (7 : Int32)) - (4 : Int32))) (pa >>> ((3 : Int32) &&& 31)))), (.int (lossF ((pa >>> ((3 : Int32) &&& 31)) + ((pd &&& (7 : Int32)) - (4 : Int32))) (pa >>> ((3 : Int32) &&& 31))))])) _
      refine XS.icmpNo X6.here hx rfl (hb hby at_96) rfl (teq (own_same _ _ (own_b1 pa pd).1 (own_b1 pa pd).2 : (lossF ((pa >>> ((3 : Int32) &&& 31)) + ((pd &&& (7 : Int32)) - (4 : Int32))) (pa >>> ((3 : Int32) &&& 31))) = (expF ((pa >>> ((3 : Int32) &&& 31)) + ((pd &&& (7 : Int32)) - (4 : Int32))) (pa >>> ((3 : Int32) &&& 31))))).2 ?_
      show Steps p.tables e below (T6.setTop (mkF m 99 #[.val (.int pa), .val (.int pb), .val (.int pm), .val (.int pd), .val (.int (pa >>> ((3 : Int32) &&& 31))), .val (.int ((pd &&& (7 : Int32)) - (4 : Int32))), .val (.int (pm &&& (3 : Int32))), .val (.int ((pa >>> ((3 : Int32) &&& 31)) + ((pd &&& (7 : Int32)) - (4 : Int32)))), .val (.int (lossF (pa >>> ((3 : Int32) &&& 31)) ((pa >>> ((3 : Int32) &&& 31)) + ((pd &&& (7 : Int32)) - (4 : Int32))))), .val (.int (lossF ((pa >>> ((3 : Int32) &&& 31)) + ((pd &&& (7 : Int32)) - (4 : Int32))) (pa >>> ((3 : Int32) &&& 31))))] [])) _
      refine XS.iconst X6.here hx rfl (hb hby at_99) ?_
      show Steps p.tables e below (T6.setTop (mkF m 100 #[.val (.int pa), .val (.int pb), .val (.int pm), .val (.int pd), .val (.int (pa >>> ((3 : Int32) &&& 31))), .val (.int ((pd &&& (7 : Int32)) - (4 : Int32))), .val (.int (pm &&& (3 : Int32))), .val (.int ((pa >>> ((3 : Int32) &&& 31)) + ((pd &&& (7 : Int32)) - (4 : Int32)))), .val (.int (lossF (pa >>> ((3 : Int32) &&& 31)) ((pa >>> ((3 : Int32) &&& 31)) + ((pd &&& (7 : Int32)) - (4 : Int32))))), .val (.int (lossF ((pa >>> ((3 : Int32) &&& 31)) + ((pd &&& (7 : Int32)) - (4 : Int32))) (pa >>> ((3 : Int32) &&& 31))))] [(.int (1 : Int32))])) _
      refine XS.goto X6.here hx rfl (pc0 := 100) (pc' := 104) rfl (hb hby at_100) (by decide) (by decide) ?_
      show Steps p.tables e below (T6.setTop (mkF m 104 #[.val (.int pa), .val (.int pb), .val (.int pm), .val (.int pd), .val (.int (pa >>> ((3 : Int32) &&& 31))), .val (.int ((pd &&& (7 : Int32)) - (4 : Int32))), .val (.int (pm &&& (3 : Int32))), .val (.int ((pa >>> ((3 : Int32) &&& 31)) + ((pd &&& (7 : Int32)) - (4 : Int32)))), .val (.int (lossF (pa >>> ((3 : Int32) &&& 31)) ((pa >>> ((3 : Int32) &&& 31)) + ((pd &&& (7 : Int32)) - (4 : Int32))))), .val (.int (lossF ((pa >>> ((3 : Int32) &&& 31)) + ((pd &&& (7 : Int32)) - (4 : Int32))) (pa >>> ((3 : Int32) &&& 31))))] [(.int (1 : Int32))])) _
      exact retN X6 hx (t := .boolean) Bd.returns (by simp) (hb hby at_104) hr
    · show Q0 Z pa pb pm pd h0 n0 _ T6.heap _
      rw [e6]
      exact ⟨rfl, N6⟩
  · have pre8 : ∀ t, Steps p.tables e below (s₁.setTop (mkF m 37 #[.val (.int pa), .val (.int pb), .val (.int pm), .val (.int pd), .val (.int (pa >>> ((3 : Int32) &&& 31))), .val (.int ((pd &&& (7 : Int32)) - (4 : Int32))), .val (.int (pm &&& (3 : Int32))), .unset, .unset, .unset] [(.int (2 : Int32)), (.int (pm &&& (3 : Int32)))])) t → Steps p.tables e below (s₁.setTop (entryFrame m #[(.int pa), (.int pb), (.int pm), (.int pd)] maxLocals)) t := by
      intro t kt
      refine pre1 t ?_
      show Steps p.tables e below (s₁.setTop (mkF m 21 #[.val (.int pa), .val (.int pb), .val (.int pm), .val (.int pd), .val (.int (pa >>> ((3 : Int32) &&& 31))), .val (.int ((pd &&& (7 : Int32)) - (4 : Int32))), .val (.int (pm &&& (3 : Int32))), .unset, .unset, .unset] [(.int (1 : Int32)), (.int (pm &&& (3 : Int32)))])) _
      refine XS.icmpYes X0.here hx rfl (pc0 := 21) (pc' := 34) rfl (hb hby at_21) rfl (feq hc21_2).2 (by decide) (by decide) ?_
      show Steps p.tables e below (s₁.setTop (mkF m 34 #[.val (.int pa), .val (.int pb), .val (.int pm), .val (.int pd), .val (.int (pa >>> ((3 : Int32) &&& 31))), .val (.int ((pd &&& (7 : Int32)) - (4 : Int32))), .val (.int (pm &&& (3 : Int32))), .unset, .unset, .unset] [])) _
      refine XS.iload X0.here hx rfl (hb hby at_34) rfl ?_
      show Steps p.tables e below (s₁.setTop (mkF m 36 #[.val (.int pa), .val (.int pb), .val (.int pm), .val (.int pd), .val (.int (pa >>> ((3 : Int32) &&& 31))), .val (.int ((pd &&& (7 : Int32)) - (4 : Int32))), .val (.int (pm &&& (3 : Int32))), .unset, .unset, .unset] [(.int (pm &&& (3 : Int32)))])) _
      refine XS.iconst X0.here hx rfl (hb hby at_36) ?_
      show Steps p.tables e below (s₁.setTop (mkF m 37 #[.val (.int pa), .val (.int pb), .val (.int pm), .val (.int pd), .val (.int (pa >>> ((3 : Int32) &&& 31))), .val (.int ((pd &&& (7 : Int32)) - (4 : Int32))), .val (.int (pm &&& (3 : Int32))), .unset, .unset, .unset] [(.int (2 : Int32)), (.int (pm &&& (3 : Int32)))])) _
      exact kt
    by_cases hc37_9 : (pm &&& (3 : Int32)) = (2 : Int32)
    · obtain ⟨_, _, ⟨T10, L10, k10, n10⟩, -, X10, ⟨Lc10, hQ10, l10, y10, z10⟩, st10⟩ := Jvm.LawKit.callS X0 hx (y := (⟨"com/example/ticinus/ticinus/battle/Odds", "loss", "(II)I"⟩ : MethodName)) hown (mvT hZ (hw _ (List.mem_of_getElem? (i := 0) rfl))) (mvT hZ (hw _ (List.mem_of_getElem? (i := 1) rfl))) (mvT hZ (hw _ (List.mem_of_getElem? (i := 2) rfl))) (mvT hZ (hw _ (List.mem_of_getElem? (i := 3) rfl))) (by decide) (backOf (W := 0) (rm1 l Z a0 hw [] (pa >>> ((3 : Int32) &&& 31)) (((2 : Int32) * (pa >>> ((3 : Int32) &&& 31))) + ((pd &&& (7 : Int32)) - (4 : Int32))) h0 n0 Z0 ) hZ (hw _ (List.mem_of_getElem? (i := 3) rfl)) (hw _ (List.mem_of_getElem? (i := 2) rfl)) (by decide) (by decide)) (g := (mkF m 61 #[.val (.int pa), .val (.int pb), .val (.int pm), .val (.int pd), .val (.int (pa >>> ((3 : Int32) &&& 31))), .val (.int ((pd &&& (7 : Int32)) - (4 : Int32))), .val (.int (pm &&& (3 : Int32))), .val (.int (((2 : Int32) * (pa >>> ((3 : Int32) &&& 31))) + ((pd &&& (7 : Int32)) - (4 : Int32)))), .unset, .unset] [(.int (((2 : Int32) * (pa >>> ((3 : Int32) &&& 31))) + ((pd &&& (7 : Int32)) - (4 : Int32)))), (.int (pa >>> ((3 : Int32) &&& 31)))])) rfl (by rw [hml]; rfl) (argsL := [(.int (pa >>> ((3 : Int32) &&& 31))), (.int (((2 : Int32) * (pa >>> ((3 : Int32) &&& 31))) + ((pd &&& (7 : Int32)) - (4 : Int32))))]) (rest := []) (lenOf pd_0 rfl) rfl (by show 2 * 0 + _ ≤ _; exact Nat.le_of_eq rfl) (hb hby at_61) (fun _ _ => ⟨rfl, e0, (by decide : 0 + 0 ≤ _), (by decide : 0 + 0 ≤ _)⟩)
      dsimp only [Pt.U, Pt.locs, Pt.cells, Pt.slots] at X10 l10 y10 z10 st10 hQ10
      subst l10 y10 z10
      obtain ⟨rfl, N10q, e10⟩ := hQ10
      have N10 := Fr.app N0 N10q
      obtain ⟨_, _, ⟨T11, L11, k11, n11⟩, -, X11, ⟨Lc11, hQ11, l11, y11, z11⟩, st11⟩ := Jvm.LawKit.callS X10 hx (y := (⟨"com/example/ticinus/ticinus/battle/Odds", "loss", "(II)I"⟩ : MethodName)) hown (mvT hZ (hw _ (List.mem_of_getElem? (i := 0) rfl))) (mvT hZ (hw _ (List.mem_of_getElem? (i := 1) rfl))) (mvT hZ (hw _ (List.mem_of_getElem? (i := 2) rfl))) (mvT hZ (hw _ (List.mem_of_getElem? (i := 3) rfl))) (by decide) (backOf (W := 0) (rm1 l Z a0 hw [] (((2 : Int32) * (pa >>> ((3 : Int32) &&& 31))) + ((pd &&& (7 : Int32)) - (4 : Int32))) (pa >>> ((3 : Int32) &&& 31)) h0 n0 Z0 ) hZ (hw _ (List.mem_of_getElem? (i := 3) rfl)) (hw _ (List.mem_of_getElem? (i := 2) rfl)) (by decide) (by decide)) (g := (mkF m 70 #[.val (.int pa), .val (.int pb), .val (.int pm), .val (.int pd), .val (.int (pa >>> ((3 : Int32) &&& 31))), .val (.int ((pd &&& (7 : Int32)) - (4 : Int32))), .val (.int (pm &&& (3 : Int32))), .val (.int (((2 : Int32) * (pa >>> ((3 : Int32) &&& 31))) + ((pd &&& (7 : Int32)) - (4 : Int32)))), .val (.int (lossF (pa >>> ((3 : Int32) &&& 31)) (((2 : Int32) * (pa >>> ((3 : Int32) &&& 31))) + ((pd &&& (7 : Int32)) - (4 : Int32))))), .unset] [(.int (pa >>> ((3 : Int32) &&& 31))), (.int (((2 : Int32) * (pa >>> ((3 : Int32) &&& 31))) + ((pd &&& (7 : Int32)) - (4 : Int32))))])) rfl (by rw [hml]; rfl) (argsL := [(.int (((2 : Int32) * (pa >>> ((3 : Int32) &&& 31))) + ((pd &&& (7 : Int32)) - (4 : Int32)))), (.int (pa >>> ((3 : Int32) &&& 31)))]) (rest := []) (lenOf pd_0 rfl) rfl (by show 2 * 0 + _ ≤ _; exact Nat.le_of_eq rfl) (hb hby at_70) (fun _ _ => ⟨rfl, e10, (by decide : 0 + 0 ≤ _), (by decide : 0 + 0 ≤ _)⟩)
      dsimp only [Pt.U, Pt.locs, Pt.cells, Pt.slots] at X11 l11 y11 z11 st11 hQ11
      subst l11 y11 z11
      obtain ⟨rfl, N11q, e11⟩ := hQ11
      have N11 := Fr.app N10 N11q
      obtain ⟨_, _, ⟨T12, L12, k12, n12⟩, -, X12, ⟨Lc12, hQ12, l12, y12, z12⟩, st12⟩ := Jvm.LawKit.callS X11 hx (y := (⟨"com/example/ticinus/ticinus/battle/OddsLossPinLaw", "expected", "(II)I"⟩ : MethodName)) hown (mvT hZ (hw _ (List.mem_of_getElem? (i := 4) rfl))) (mvT hZ (hw _ (List.mem_of_getElem? (i := 5) rfl))) (mvT hZ (hw _ (List.mem_of_getElem? (i := 6) rfl))) (mvT hZ (hw _ (List.mem_of_getElem? (i := 7) rfl))) (by decide) (backOf (W := 1) (rm2 l Z a0 hw [] (pa >>> ((3 : Int32) &&& 31)) (((2 : Int32) * (pa >>> ((3 : Int32) &&& 31))) + ((pd &&& (7 : Int32)) - (4 : Int32))) h0 n0 Z0 ) hZ (hw _ (List.mem_of_getElem? (i := 7) rfl)) (hw _ (List.mem_of_getElem? (i := 6) rfl)) (by decide) (by decide)) (g := (mkF m 81 #[.val (.int pa), .val (.int pb), .val (.int pm), .val (.int pd), .val (.int (pa >>> ((3 : Int32) &&& 31))), .val (.int ((pd &&& (7 : Int32)) - (4 : Int32))), .val (.int (pm &&& (3 : Int32))), .val (.int (((2 : Int32) * (pa >>> ((3 : Int32) &&& 31))) + ((pd &&& (7 : Int32)) - (4 : Int32)))), .val (.int (lossF (pa >>> ((3 : Int32) &&& 31)) (((2 : Int32) * (pa >>> ((3 : Int32) &&& 31))) + ((pd &&& (7 : Int32)) - (4 : Int32))))), .val (.int (lossF (((2 : Int32) * (pa >>> ((3 : Int32) &&& 31))) + ((pd &&& (7 : Int32)) - (4 : Int32))) (pa >>> ((3 : Int32) &&& 31))))] [(.int (((2 : Int32) * (pa >>> ((3 : Int32) &&& 31))) + ((pd &&& (7 : Int32)) - (4 : Int32)))), (.int (pa >>> ((3 : Int32) &&& 31))), (.int (lossF (pa >>> ((3 : Int32) &&& 31)) (((2 : Int32) * (pa >>> ((3 : Int32) &&& 31))) + ((pd &&& (7 : Int32)) - (4 : Int32)))))])) rfl (by rw [hml]; rfl) (argsL := [(.int (pa >>> ((3 : Int32) &&& 31))), (.int (((2 : Int32) * (pa >>> ((3 : Int32) &&& 31))) + ((pd &&& (7 : Int32)) - (4 : Int32))))]) (rest := [(.int (lossF (pa >>> ((3 : Int32) &&& 31)) (((2 : Int32) * (pa >>> ((3 : Int32) &&& 31))) + ((pd &&& (7 : Int32)) - (4 : Int32)))))]) (lenOf pd_0 rfl) rfl (by show 2 * 0 + _ ≤ _; exact Nat.le_of_eq rfl) (hb hby at_81) (fun _ _ => ⟨rfl, e11, (by decide : 0 + 0 ≤ _), (by decide : 0 + 0 ≤ _)⟩)
      dsimp only [Pt.U, Pt.locs, Pt.cells, Pt.slots] at X12 l12 y12 z12 st12 hQ12
      subst l12 y12 z12
      obtain ⟨rfl, N12q, e12⟩ := hQ12
      have N12 := Fr.app N11 N12q
      obtain ⟨_, _, ⟨T13, L13, k13, n13⟩, -, X13, ⟨Lc13, hQ13, l13, y13, z13⟩, st13⟩ := Jvm.LawKit.callS X12 hx (y := (⟨"com/example/ticinus/ticinus/battle/OddsLossPinLaw", "expected", "(II)I"⟩ : MethodName)) hown (mvT hZ (hw _ (List.mem_of_getElem? (i := 4) rfl))) (mvT hZ (hw _ (List.mem_of_getElem? (i := 5) rfl))) (mvT hZ (hw _ (List.mem_of_getElem? (i := 6) rfl))) (mvT hZ (hw _ (List.mem_of_getElem? (i := 7) rfl))) (by decide) (backOf (W := 1) (rm2 l Z a0 hw [] (((2 : Int32) * (pa >>> ((3 : Int32) &&& 31))) + ((pd &&& (7 : Int32)) - (4 : Int32))) (pa >>> ((3 : Int32) &&& 31)) h0 n0 Z0 ) hZ (hw _ (List.mem_of_getElem? (i := 7) rfl)) (hw _ (List.mem_of_getElem? (i := 6) rfl)) (by decide) (by decide)) (g := (mkF m 93 #[.val (.int pa), .val (.int pb), .val (.int pm), .val (.int pd), .val (.int (pa >>> ((3 : Int32) &&& 31))), .val (.int ((pd &&& (7 : Int32)) - (4 : Int32))), .val (.int (pm &&& (3 : Int32))), .val (.int (((2 : Int32) * (pa >>> ((3 : Int32) &&& 31))) + ((pd &&& (7 : Int32)) - (4 : Int32)))), .val (.int (lossF (pa >>> ((3 : Int32) &&& 31)) (((2 : Int32) * (pa >>> ((3 : Int32) &&& 31))) + ((pd &&& (7 : Int32)) - (4 : Int32))))), .val (.int (lossF (((2 : Int32) * (pa >>> ((3 : Int32) &&& 31))) + ((pd &&& (7 : Int32)) - (4 : Int32))) (pa >>> ((3 : Int32) &&& 31))))] [(.int (pa >>> ((3 : Int32) &&& 31))), (.int (((2 : Int32) * (pa >>> ((3 : Int32) &&& 31))) + ((pd &&& (7 : Int32)) - (4 : Int32)))), (.int (lossF (((2 : Int32) * (pa >>> ((3 : Int32) &&& 31))) + ((pd &&& (7 : Int32)) - (4 : Int32))) (pa >>> ((3 : Int32) &&& 31))))])) rfl (by rw [hml]; rfl) (argsL := [(.int (((2 : Int32) * (pa >>> ((3 : Int32) &&& 31))) + ((pd &&& (7 : Int32)) - (4 : Int32)))), (.int (pa >>> ((3 : Int32) &&& 31)))]) (rest := [(.int (lossF (((2 : Int32) * (pa >>> ((3 : Int32) &&& 31))) + ((pd &&& (7 : Int32)) - (4 : Int32))) (pa >>> ((3 : Int32) &&& 31))))]) (lenOf pd_0 rfl) rfl (by show 2 * 0 + _ ≤ _; exact Nat.le_of_eq rfl) (hb hby at_93) (fun _ _ => ⟨rfl, e12, (by decide : 0 + 0 ≤ _), (by decide : 0 + 0 ≤ _)⟩)
      dsimp only [Pt.U, Pt.locs, Pt.cells, Pt.slots] at X13 l13 y13 z13 st13 hQ13
      subst l13 y13 z13
      obtain ⟨rfl, N13q, e13⟩ := hQ13
      have N13 := Fr.app N12 N13q
      obtain ⟨fs, hr, hrun, hended, hW, hsame⟩ := X13.leave (v := some (.int (1 : Int32))) (fun h => by rw [Bd.returns] at h; cases h)
      refine ⟨_, _, pre8 _ ?_, hrun, hended, _, _, rfl, ?_, ⟨_, rfl⟩, hW, hsame.mono (by decide) (by decide)⟩
      · show Steps p.tables e below (s₁.setTop (mkF m 37 #[.val (.int pa), .val (.int pb), .val (.int pm), .val (.int pd), .val (.int (pa >>> ((3 : Int32) &&& 31))), .val (.int ((pd &&& (7 : Int32)) - (4 : Int32))), .val (.int (pm &&& (3 : Int32))), .unset, .unset, .unset] [(.int (2 : Int32)), (.int (pm &&& (3 : Int32)))])) _
        refine XS.icmpNo X0.here hx rfl (hb hby at_37) rfl (teq hc37_9).2 ?_
        show Steps p.tables e below (s₁.setTop (mkF m 40 #[.val (.int pa), .val (.int pb), .val (.int pm), .val (.int pd), .val (.int (pa >>> ((3 : Int32) &&& 31))), .val (.int ((pd &&& (7 : Int32)) - (4 : Int32))), .val (.int (pm &&& (3 : Int32))), .unset, .unset, .unset] [])) _
        refine XS.iconst X0.here hx rfl (hb hby at_40) ?_
        show Steps p.tables e below (s₁.setTop (mkF m 41 #[.val (.int pa), .val (.int pb), .val (.int pm), .val (.int pd), .val (.int (pa >>> ((3 : Int32) &&& 31))), .val (.int ((pd &&& (7 : Int32)) - (4 : Int32))), .val (.int (pm &&& (3 : Int32))), .unset, .unset, .unset] [(.int (2 : Int32))])) _
        refine XS.iload X0.here hx rfl (hb hby at_41) rfl ?_
        show Steps p.tables e below (s₁.setTop (mkF m 43 #[.val (.int pa), .val (.int pb), .val (.int pm), .val (.int pd), .val (.int (pa >>> ((3 : Int32) &&& 31))), .val (.int ((pd &&& (7 : Int32)) - (4 : Int32))), .val (.int (pm &&& (3 : Int32))), .unset, .unset, .unset] [(.int (pa >>> ((3 : Int32) &&& 31))), (.int (2 : Int32))])) _
        refine XS.imul X0.here hx rfl (hb hby at_43) rfl ?_
        show Steps p.tables e below (s₁.setTop (mkF m 44 #[.val (.int pa), .val (.int pb), .val (.int pm), .val (.int pd), .val (.int (pa >>> ((3 : Int32) &&& 31))), .val (.int ((pd &&& (7 : Int32)) - (4 : Int32))), .val (.int (pm &&& (3 : Int32))), .unset, .unset, .unset] [(.int ((2 : Int32) * (pa >>> ((3 : Int32) &&& 31))))])) _
        refine XS.iload X0.here hx rfl (hb hby at_44) rfl ?_
        show Steps p.tables e below (s₁.setTop (mkF m 46 #[.val (.int pa), .val (.int pb), .val (.int pm), .val (.int pd), .val (.int (pa >>> ((3 : Int32) &&& 31))), .val (.int ((pd &&& (7 : Int32)) - (4 : Int32))), .val (.int (pm &&& (3 : Int32))), .unset, .unset, .unset] [(.int ((pd &&& (7 : Int32)) - (4 : Int32))), (.int ((2 : Int32) * (pa >>> ((3 : Int32) &&& 31))))])) _
        refine XS.iadd X0.here hx rfl (hb hby at_46) rfl ?_
        show Steps p.tables e below (s₁.setTop (mkF m 47 #[.val (.int pa), .val (.int pb), .val (.int pm), .val (.int pd), .val (.int (pa >>> ((3 : Int32) &&& 31))), .val (.int ((pd &&& (7 : Int32)) - (4 : Int32))), .val (.int (pm &&& (3 : Int32))), .unset, .unset, .unset] [(.int (((2 : Int32) * (pa >>> ((3 : Int32) &&& 31))) + ((pd &&& (7 : Int32)) - (4 : Int32))))])) _
        refine XS.istore X0.here hx rfl (hb hby at_47) rfl (l' := #[.val (.int pa), .val (.int pb), .val (.int pm), .val (.int pd), .val (.int (pa >>> ((3 : Int32) &&& 31))), .val (.int ((pd &&& (7 : Int32)) - (4 : Int32))), .val (.int (pm &&& (3 : Int32))), .val (.int (((2 : Int32) * (pa >>> ((3 : Int32) &&& 31))) + ((pd &&& (7 : Int32)) - (4 : Int32)))), .unset, .unset]) rfl ?_
        show Steps p.tables e below (s₁.setTop (mkF m 49 #[.val (.int pa), .val (.int pb), .val (.int pm), .val (.int pd), .val (.int (pa >>> ((3 : Int32) &&& 31))), .val (.int ((pd &&& (7 : Int32)) - (4 : Int32))), .val (.int (pm &&& (3 : Int32))), .val (.int (((2 : Int32) * (pa >>> ((3 : Int32) &&& 31))) + ((pd &&& (7 : Int32)) - (4 : Int32)))), .unset, .unset] [])) _
        refine XS.goto X0.here hx rfl (pc0 := 49) (pc' := 57) rfl (hb hby at_49) (by decide) (by decide) ?_
        show Steps p.tables e below (s₁.setTop (mkF m 57 #[.val (.int pa), .val (.int pb), .val (.int pm), .val (.int pd), .val (.int (pa >>> ((3 : Int32) &&& 31))), .val (.int ((pd &&& (7 : Int32)) - (4 : Int32))), .val (.int (pm &&& (3 : Int32))), .val (.int (((2 : Int32) * (pa >>> ((3 : Int32) &&& 31))) + ((pd &&& (7 : Int32)) - (4 : Int32)))), .unset, .unset] [])) _
        refine XS.iload X0.here hx rfl (hb hby at_57) rfl ?_
        show Steps p.tables e below (s₁.setTop (mkF m 59 #[.val (.int pa), .val (.int pb), .val (.int pm), .val (.int pd), .val (.int (pa >>> ((3 : Int32) &&& 31))), .val (.int ((pd &&& (7 : Int32)) - (4 : Int32))), .val (.int (pm &&& (3 : Int32))), .val (.int (((2 : Int32) * (pa >>> ((3 : Int32) &&& 31))) + ((pd &&& (7 : Int32)) - (4 : Int32)))), .unset, .unset] [(.int (pa >>> ((3 : Int32) &&& 31)))])) _
        refine XS.iload X0.here hx rfl (hb hby at_59) rfl ?_
        show Steps p.tables e below (s₁.setTop (mkF m 61 #[.val (.int pa), .val (.int pb), .val (.int pm), .val (.int pd), .val (.int (pa >>> ((3 : Int32) &&& 31))), .val (.int ((pd &&& (7 : Int32)) - (4 : Int32))), .val (.int (pm &&& (3 : Int32))), .val (.int (((2 : Int32) * (pa >>> ((3 : Int32) &&& 31))) + ((pd &&& (7 : Int32)) - (4 : Int32)))), .unset, .unset] [(.int (((2 : Int32) * (pa >>> ((3 : Int32) &&& 31))) + ((pd &&& (7 : Int32)) - (4 : Int32)))), (.int (pa >>> ((3 : Int32) &&& 31)))])) _
        refine st10 _ ?_
        show Steps p.tables e below (T10.setTop (mkF m 64 #[.val (.int pa), .val (.int pb), .val (.int pm), .val (.int pd), .val (.int (pa >>> ((3 : Int32) &&& 31))), .val (.int ((pd &&& (7 : Int32)) - (4 : Int32))), .val (.int (pm &&& (3 : Int32))), .val (.int (((2 : Int32) * (pa >>> ((3 : Int32) &&& 31))) + ((pd &&& (7 : Int32)) - (4 : Int32)))), .unset, .unset] [(.int (lossF (pa >>> ((3 : Int32) &&& 31)) (((2 : Int32) * (pa >>> ((3 : Int32) &&& 31))) + ((pd &&& (7 : Int32)) - (4 : Int32)))))])) _
        refine XS.istore X10.here hx rfl (hb hby at_64) rfl (l' := #[.val (.int pa), .val (.int pb), .val (.int pm), .val (.int pd), .val (.int (pa >>> ((3 : Int32) &&& 31))), .val (.int ((pd &&& (7 : Int32)) - (4 : Int32))), .val (.int (pm &&& (3 : Int32))), .val (.int (((2 : Int32) * (pa >>> ((3 : Int32) &&& 31))) + ((pd &&& (7 : Int32)) - (4 : Int32)))), .val (.int (lossF (pa >>> ((3 : Int32) &&& 31)) (((2 : Int32) * (pa >>> ((3 : Int32) &&& 31))) + ((pd &&& (7 : Int32)) - (4 : Int32))))), .unset]) rfl ?_
        show Steps p.tables e below (T10.setTop (mkF m 66 #[.val (.int pa), .val (.int pb), .val (.int pm), .val (.int pd), .val (.int (pa >>> ((3 : Int32) &&& 31))), .val (.int ((pd &&& (7 : Int32)) - (4 : Int32))), .val (.int (pm &&& (3 : Int32))), .val (.int (((2 : Int32) * (pa >>> ((3 : Int32) &&& 31))) + ((pd &&& (7 : Int32)) - (4 : Int32)))), .val (.int (lossF (pa >>> ((3 : Int32) &&& 31)) (((2 : Int32) * (pa >>> ((3 : Int32) &&& 31))) + ((pd &&& (7 : Int32)) - (4 : Int32))))), .unset] [])) _
        refine XS.iload X10.here hx rfl (hb hby at_66) rfl ?_
        show Steps p.tables e below (T10.setTop (mkF m 68 #[.val (.int pa), .val (.int pb), .val (.int pm), .val (.int pd), .val (.int (pa >>> ((3 : Int32) &&& 31))), .val (.int ((pd &&& (7 : Int32)) - (4 : Int32))), .val (.int (pm &&& (3 : Int32))), .val (.int (((2 : Int32) * (pa >>> ((3 : Int32) &&& 31))) + ((pd &&& (7 : Int32)) - (4 : Int32)))), .val (.int (lossF (pa >>> ((3 : Int32) &&& 31)) (((2 : Int32) * (pa >>> ((3 : Int32) &&& 31))) + ((pd &&& (7 : Int32)) - (4 : Int32))))), .unset] [(.int (((2 : Int32) * (pa >>> ((3 : Int32) &&& 31))) + ((pd &&& (7 : Int32)) - (4 : Int32))))])) _
        refine XS.iload X10.here hx rfl (hb hby at_68) rfl ?_
        show Steps p.tables e below (T10.setTop (mkF m 70 #[.val (.int pa), .val (.int pb), .val (.int pm), .val (.int pd), .val (.int (pa >>> ((3 : Int32) &&& 31))), .val (.int ((pd &&& (7 : Int32)) - (4 : Int32))), .val (.int (pm &&& (3 : Int32))), .val (.int (((2 : Int32) * (pa >>> ((3 : Int32) &&& 31))) + ((pd &&& (7 : Int32)) - (4 : Int32)))), .val (.int (lossF (pa >>> ((3 : Int32) &&& 31)) (((2 : Int32) * (pa >>> ((3 : Int32) &&& 31))) + ((pd &&& (7 : Int32)) - (4 : Int32))))), .unset] [(.int (pa >>> ((3 : Int32) &&& 31))), (.int (((2 : Int32) * (pa >>> ((3 : Int32) &&& 31))) + ((pd &&& (7 : Int32)) - (4 : Int32))))])) _
        refine st11 _ ?_
        show Steps p.tables e below (T11.setTop (mkF m 73 #[.val (.int pa), .val (.int pb), .val (.int pm), .val (.int pd), .val (.int (pa >>> ((3 : Int32) &&& 31))), .val (.int ((pd &&& (7 : Int32)) - (4 : Int32))), .val (.int (pm &&& (3 : Int32))), .val (.int (((2 : Int32) * (pa >>> ((3 : Int32) &&& 31))) + ((pd &&& (7 : Int32)) - (4 : Int32)))), .val (.int (lossF (pa >>> ((3 : Int32) &&& 31)) (((2 : Int32) * (pa >>> ((3 : Int32) &&& 31))) + ((pd &&& (7 : Int32)) - (4 : Int32))))), .unset] [(.int (lossF (((2 : Int32) * (pa >>> ((3 : Int32) &&& 31))) + ((pd &&& (7 : Int32)) - (4 : Int32))) (pa >>> ((3 : Int32) &&& 31))))])) _
        refine XS.istore X11.here hx rfl (hb hby at_73) rfl (l' := #[.val (.int pa), .val (.int pb), .val (.int pm), .val (.int pd), .val (.int (pa >>> ((3 : Int32) &&& 31))), .val (.int ((pd &&& (7 : Int32)) - (4 : Int32))), .val (.int (pm &&& (3 : Int32))), .val (.int (((2 : Int32) * (pa >>> ((3 : Int32) &&& 31))) + ((pd &&& (7 : Int32)) - (4 : Int32)))), .val (.int (lossF (pa >>> ((3 : Int32) &&& 31)) (((2 : Int32) * (pa >>> ((3 : Int32) &&& 31))) + ((pd &&& (7 : Int32)) - (4 : Int32))))), .val (.int (lossF (((2 : Int32) * (pa >>> ((3 : Int32) &&& 31))) + ((pd &&& (7 : Int32)) - (4 : Int32))) (pa >>> ((3 : Int32) &&& 31))))]) rfl ?_
        show Steps p.tables e below (T11.setTop (mkF m 75 #[.val (.int pa), .val (.int pb), .val (.int pm), .val (.int pd), .val (.int (pa >>> ((3 : Int32) &&& 31))), .val (.int ((pd &&& (7 : Int32)) - (4 : Int32))), .val (.int (pm &&& (3 : Int32))), .val (.int (((2 : Int32) * (pa >>> ((3 : Int32) &&& 31))) + ((pd &&& (7 : Int32)) - (4 : Int32)))), .val (.int (lossF (pa >>> ((3 : Int32) &&& 31)) (((2 : Int32) * (pa >>> ((3 : Int32) &&& 31))) + ((pd &&& (7 : Int32)) - (4 : Int32))))), .val (.int (lossF (((2 : Int32) * (pa >>> ((3 : Int32) &&& 31))) + ((pd &&& (7 : Int32)) - (4 : Int32))) (pa >>> ((3 : Int32) &&& 31))))] [])) _
        refine XS.iload X11.here hx rfl (hb hby at_75) rfl ?_
        show Steps p.tables e below (T11.setTop (mkF m 77 #[.val (.int pa), .val (.int pb), .val (.int pm), .val (.int pd), .val (.int (pa >>> ((3 : Int32) &&& 31))), .val (.int ((pd &&& (7 : Int32)) - (4 : Int32))), .val (.int (pm &&& (3 : Int32))), .val (.int (((2 : Int32) * (pa >>> ((3 : Int32) &&& 31))) + ((pd &&& (7 : Int32)) - (4 : Int32)))), .val (.int (lossF (pa >>> ((3 : Int32) &&& 31)) (((2 : Int32) * (pa >>> ((3 : Int32) &&& 31))) + ((pd &&& (7 : Int32)) - (4 : Int32))))), .val (.int (lossF (((2 : Int32) * (pa >>> ((3 : Int32) &&& 31))) + ((pd &&& (7 : Int32)) - (4 : Int32))) (pa >>> ((3 : Int32) &&& 31))))] [(.int (lossF (pa >>> ((3 : Int32) &&& 31)) (((2 : Int32) * (pa >>> ((3 : Int32) &&& 31))) + ((pd &&& (7 : Int32)) - (4 : Int32)))))])) _
        refine XS.iload X11.here hx rfl (hb hby at_77) rfl ?_
        show Steps p.tables e below (T11.setTop (mkF m 79 #[.val (.int pa), .val (.int pb), .val (.int pm), .val (.int pd), .val (.int (pa >>> ((3 : Int32) &&& 31))), .val (.int ((pd &&& (7 : Int32)) - (4 : Int32))), .val (.int (pm &&& (3 : Int32))), .val (.int (((2 : Int32) * (pa >>> ((3 : Int32) &&& 31))) + ((pd &&& (7 : Int32)) - (4 : Int32)))), .val (.int (lossF (pa >>> ((3 : Int32) &&& 31)) (((2 : Int32) * (pa >>> ((3 : Int32) &&& 31))) + ((pd &&& (7 : Int32)) - (4 : Int32))))), .val (.int (lossF (((2 : Int32) * (pa >>> ((3 : Int32) &&& 31))) + ((pd &&& (7 : Int32)) - (4 : Int32))) (pa >>> ((3 : Int32) &&& 31))))] [(.int (pa >>> ((3 : Int32) &&& 31))), (.int (lossF (pa >>> ((3 : Int32) &&& 31)) (((2 : Int32) * (pa >>> ((3 : Int32) &&& 31))) + ((pd &&& (7 : Int32)) - (4 : Int32)))))])) _
        refine XS.iload X11.here hx rfl (hb hby at_79) rfl ?_
        show Steps p.tables e below (T11.setTop (mkF m 81 #[.val (.int pa), .val (.int pb), .val (.int pm), .val (.int pd), .val (.int (pa >>> ((3 : Int32) &&& 31))), .val (.int ((pd &&& (7 : Int32)) - (4 : Int32))), .val (.int (pm &&& (3 : Int32))), .val (.int (((2 : Int32) * (pa >>> ((3 : Int32) &&& 31))) + ((pd &&& (7 : Int32)) - (4 : Int32)))), .val (.int (lossF (pa >>> ((3 : Int32) &&& 31)) (((2 : Int32) * (pa >>> ((3 : Int32) &&& 31))) + ((pd &&& (7 : Int32)) - (4 : Int32))))), .val (.int (lossF (((2 : Int32) * (pa >>> ((3 : Int32) &&& 31))) + ((pd &&& (7 : Int32)) - (4 : Int32))) (pa >>> ((3 : Int32) &&& 31))))] [(.int (((2 : Int32) * (pa >>> ((3 : Int32) &&& 31))) + ((pd &&& (7 : Int32)) - (4 : Int32)))), (.int (pa >>> ((3 : Int32) &&& 31))), (.int (lossF (pa >>> ((3 : Int32) &&& 31)) (((2 : Int32) * (pa >>> ((3 : Int32) &&& 31))) + ((pd &&& (7 : Int32)) - (4 : Int32)))))])) _
        refine st12 _ ?_
        show Steps p.tables e below (T12.setTop (mkF m 84 #[.val (.int pa), .val (.int pb), .val (.int pm), .val (.int pd), .val (.int (pa >>> ((3 : Int32) &&& 31))), .val (.int ((pd &&& (7 : Int32)) - (4 : Int32))), .val (.int (pm &&& (3 : Int32))), .val (.int (((2 : Int32) * (pa >>> ((3 : Int32) &&& 31))) + ((pd &&& (7 : Int32)) - (4 : Int32)))), .val (.int (lossF (pa >>> ((3 : Int32) &&& 31)) (((2 : Int32) * (pa >>> ((3 : Int32) &&& 31))) + ((pd &&& (7 : Int32)) - (4 : Int32))))), .val (.int (lossF (((2 : Int32) * (pa >>> ((3 : Int32) &&& 31))) + ((pd &&& (7 : Int32)) - (4 : Int32))) (pa >>> ((3 : Int32) &&& 31))))] [(.int (expF (pa >>> ((3 : Int32) &&& 31)) (((2 : Int32) * (pa >>> ((3 : Int32) &&& 31))) + ((pd &&& (7 : Int32)) - (4 : Int32))))), (.int (lossF (pa >>> ((3 : Int32) &&& 31)) (((2 : Int32) * (pa >>> ((3 : Int32) &&& 31))) + ((pd &&& (7 : Int32)) - (4 : Int32)))))])) _
        refine XS.icmpNo X12.here hx rfl (hb hby at_84) rfl (teq (own_same _ _ (own_b0 pa).1 (own_b0 pa).2 : (lossF (pa >>> ((3 : Int32) &&& 31)) (((2 : Int32) * (pa >>> ((3 : Int32) &&& 31))) + ((pd &&& (7 : Int32)) - (4 : Int32)))) = (expF (pa >>> ((3 : Int32) &&& 31)) (((2 : Int32) * (pa >>> ((3 : Int32) &&& 31))) + ((pd &&& (7 : Int32)) - (4 : Int32)))))).2 ?_
        show Steps p.tables e below (T12.setTop (mkF m 87 #[.val (.int pa), .val (.int pb), .val (.int pm), .val (.int pd), .val (.int (pa >>> ((3 : Int32) &&& 31))), .val (.int ((pd &&& (7 : Int32)) - (4 : Int32))), .val (.int (pm &&& (3 : Int32))), .val (.int (((2 : Int32) * (pa >>> ((3 : Int32) &&& 31))) + ((pd &&& (7 : Int32)) - (4 : Int32)))), .val (.int (lossF (pa >>> ((3 : Int32) &&& 31)) (((2 : Int32) * (pa >>> ((3 : Int32) &&& 31))) + ((pd &&& (7 : Int32)) - (4 : Int32))))), .val (.int (lossF (((2 : Int32) * (pa >>> ((3 : Int32) &&& 31))) + ((pd &&& (7 : Int32)) - (4 : Int32))) (pa >>> ((3 : Int32) &&& 31))))] [])) _
        refine XS.iload X12.here hx rfl (hb hby at_87) rfl ?_
        show Steps p.tables e below (T12.setTop (mkF m 89 #[.val (.int pa), .val (.int pb), .val (.int pm), .val (.int pd), .val (.int (pa >>> ((3 : Int32) &&& 31))), .val (.int ((pd &&& (7 : Int32)) - (4 : Int32))), .val (.int (pm &&& (3 : Int32))), .val (.int (((2 : Int32) * (pa >>> ((3 : Int32) &&& 31))) + ((pd &&& (7 : Int32)) - (4 : Int32)))), .val (.int (lossF (pa >>> ((3 : Int32) &&& 31)) (((2 : Int32) * (pa >>> ((3 : Int32) &&& 31))) + ((pd &&& (7 : Int32)) - (4 : Int32))))), .val (.int (lossF (((2 : Int32) * (pa >>> ((3 : Int32) &&& 31))) + ((pd &&& (7 : Int32)) - (4 : Int32))) (pa >>> ((3 : Int32) &&& 31))))] [(.int (lossF (((2 : Int32) * (pa >>> ((3 : Int32) &&& 31))) + ((pd &&& (7 : Int32)) - (4 : Int32))) (pa >>> ((3 : Int32) &&& 31))))])) _
        refine XS.iload X12.here hx rfl (hb hby at_89) rfl ?_
        show Steps p.tables e below (T12.setTop (mkF m 91 #[.val (.int pa), .val (.int pb), .val (.int pm), .val (.int pd), .val (.int (pa >>> ((3 : Int32) &&& 31))), .val (.int ((pd &&& (7 : Int32)) - (4 : Int32))), .val (.int (pm &&& (3 : Int32))), .val (.int (((2 : Int32) * (pa >>> ((3 : Int32) &&& 31))) + ((pd &&& (7 : Int32)) - (4 : Int32)))), .val (.int (lossF (pa >>> ((3 : Int32) &&& 31)) (((2 : Int32) * (pa >>> ((3 : Int32) &&& 31))) + ((pd &&& (7 : Int32)) - (4 : Int32))))), .val (.int (lossF (((2 : Int32) * (pa >>> ((3 : Int32) &&& 31))) + ((pd &&& (7 : Int32)) - (4 : Int32))) (pa >>> ((3 : Int32) &&& 31))))] [(.int (((2 : Int32) * (pa >>> ((3 : Int32) &&& 31))) + ((pd &&& (7 : Int32)) - (4 : Int32)))), (.int (lossF (((2 : Int32) * (pa >>> ((3 : Int32) &&& 31))) + ((pd &&& (7 : Int32)) - (4 : Int32))) (pa >>> ((3 : Int32) &&& 31))))])) _
        refine XS.iload X12.here hx rfl (hb hby at_91) rfl ?_
        show Steps p.tables e below (T12.setTop (mkF m 93 #[.val (.int pa), .val (.int pb), .val (.int pm), .val (.int pd), .val (.int (pa >>> ((3 : Int32) &&& 31))), .val (.int ((pd &&& (7 : Int32)) - (4 : Int32))), .val (.int (pm &&& (3 : Int32))), .val (.int (((2 : Int32) * (pa >>> ((3 : Int32) &&& 31))) + ((pd &&& (7 : Int32)) - (4 : Int32)))), .val (.int (lossF (pa >>> ((3 : Int32) &&& 31)) (((2 : Int32) * (pa >>> ((3 : Int32) &&& 31))) + ((pd &&& (7 : Int32)) - (4 : Int32))))), .val (.int (lossF (((2 : Int32) * (pa >>> ((3 : Int32) &&& 31))) + ((pd &&& (7 : Int32)) - (4 : Int32))) (pa >>> ((3 : Int32) &&& 31))))] [(.int (pa >>> ((3 : Int32) &&& 31))), (.int (((2 : Int32) * (pa >>> ((3 : Int32) &&& 31))) + ((pd &&& (7 : Int32)) - (4 : Int32)))), (.int (lossF (((2 : Int32) * (pa >>> ((3 : Int32) &&& 31))) + ((pd &&& (7 : Int32)) - (4 : Int32))) (pa >>> ((3 : Int32) &&& 31))))])) _
        refine st13 _ ?_
        show Steps p.tables e below (T13.setTop (mkF m 96 #[.val (.int pa), .val (.int pb), .val (.int pm), .val (.int pd), .val (.int (pa >>> ((3 : Int32) &&& 31))), .val (.int ((pd &&& (7 : Int32)) - (4 : Int32))), .val (.int (pm &&& (3 : Int32))), .val (.int (((2 : Int32) * (pa >>> ((3 : Int32) &&& 31))) + ((pd &&& (7 : Int32)) - (4 : Int32)))), .val (.int (lossF (pa >>> ((3 : Int32) &&& 31)) (((2 : Int32) * (pa >>> ((3 : Int32) &&& 31))) + ((pd &&& (7 : Int32)) - (4 : Int32))))), .val (.int (lossF (((2 : Int32) * (pa >>> ((3 : Int32) &&& 31))) + ((pd &&& (7 : Int32)) - (4 : Int32))) (pa >>> ((3 : Int32) &&& 31))))] [(.int (expF (((2 : Int32) * (pa >>> ((3 : Int32) &&& 31))) + ((pd &&& (7 : Int32)) - (4 : Int32))) (pa >>> ((3 : Int32) &&& 31)))), (.int (lossF (((2 : Int32) * (pa >>> ((3 : Int32) &&& 31))) + ((pd &&& (7 : Int32)) - (4 : Int32))) (pa >>> ((3 : Int32) &&& 31))))])) _
        refine XS.icmpNo X13.here hx rfl (hb hby at_96) rfl (teq (own_same _ _ (own_b2 pa pd).1 (own_b2 pa pd).2 : (lossF (((2 : Int32) * (pa >>> ((3 : Int32) &&& 31))) + ((pd &&& (7 : Int32)) - (4 : Int32))) (pa >>> ((3 : Int32) &&& 31))) = (expF (((2 : Int32) * (pa >>> ((3 : Int32) &&& 31))) + ((pd &&& (7 : Int32)) - (4 : Int32))) (pa >>> ((3 : Int32) &&& 31))))).2 ?_
        show Steps p.tables e below (T13.setTop (mkF m 99 #[.val (.int pa), .val (.int pb), .val (.int pm), .val (.int pd), .val (.int (pa >>> ((3 : Int32) &&& 31))), .val (.int ((pd &&& (7 : Int32)) - (4 : Int32))), .val (.int (pm &&& (3 : Int32))), .val (.int (((2 : Int32) * (pa >>> ((3 : Int32) &&& 31))) + ((pd &&& (7 : Int32)) - (4 : Int32)))), .val (.int (lossF (pa >>> ((3 : Int32) &&& 31)) (((2 : Int32) * (pa >>> ((3 : Int32) &&& 31))) + ((pd &&& (7 : Int32)) - (4 : Int32))))), .val (.int (lossF (((2 : Int32) * (pa >>> ((3 : Int32) &&& 31))) + ((pd &&& (7 : Int32)) - (4 : Int32))) (pa >>> ((3 : Int32) &&& 31))))] [])) _
        refine XS.iconst X13.here hx rfl (hb hby at_99) ?_
        show Steps p.tables e below (T13.setTop (mkF m 100 #[.val (.int pa), .val (.int pb), .val (.int pm), .val (.int pd), .val (.int (pa >>> ((3 : Int32) &&& 31))), .val (.int ((pd &&& (7 : Int32)) - (4 : Int32))), .val (.int (pm &&& (3 : Int32))), .val (.int (((2 : Int32) * (pa >>> ((3 : Int32) &&& 31))) + ((pd &&& (7 : Int32)) - (4 : Int32)))), .val (.int (lossF (pa >>> ((3 : Int32) &&& 31)) (((2 : Int32) * (pa >>> ((3 : Int32) &&& 31))) + ((pd &&& (7 : Int32)) - (4 : Int32))))), .val (.int (lossF (((2 : Int32) * (pa >>> ((3 : Int32) &&& 31))) + ((pd &&& (7 : Int32)) - (4 : Int32))) (pa >>> ((3 : Int32) &&& 31))))] [(.int (1 : Int32))])) _
        refine XS.goto X13.here hx rfl (pc0 := 100) (pc' := 104) rfl (hb hby at_100) (by decide) (by decide) ?_
        show Steps p.tables e below (T13.setTop (mkF m 104 #[.val (.int pa), .val (.int pb), .val (.int pm), .val (.int pd), .val (.int (pa >>> ((3 : Int32) &&& 31))), .val (.int ((pd &&& (7 : Int32)) - (4 : Int32))), .val (.int (pm &&& (3 : Int32))), .val (.int (((2 : Int32) * (pa >>> ((3 : Int32) &&& 31))) + ((pd &&& (7 : Int32)) - (4 : Int32)))), .val (.int (lossF (pa >>> ((3 : Int32) &&& 31)) (((2 : Int32) * (pa >>> ((3 : Int32) &&& 31))) + ((pd &&& (7 : Int32)) - (4 : Int32))))), .val (.int (lossF (((2 : Int32) * (pa >>> ((3 : Int32) &&& 31))) + ((pd &&& (7 : Int32)) - (4 : Int32))) (pa >>> ((3 : Int32) &&& 31))))] [(.int (1 : Int32))])) _
        exact retN X13 hx (t := .boolean) Bd.returns (by simp) (hb hby at_104) hr
      · show Q0 Z pa pb pm pd h0 n0 _ T13.heap _
        rw [e13]
        exact ⟨rfl, N13⟩
    · obtain ⟨_, _, ⟨T15, L15, k15, n15⟩, -, X15, ⟨Lc15, hQ15, l15, y15, z15⟩, st15⟩ := Jvm.LawKit.callS X0 hx (y := (⟨"com/example/ticinus/ticinus/battle/Odds", "loss", "(II)I"⟩ : MethodName)) hown (mvT hZ (hw _ (List.mem_of_getElem? (i := 0) rfl))) (mvT hZ (hw _ (List.mem_of_getElem? (i := 1) rfl))) (mvT hZ (hw _ (List.mem_of_getElem? (i := 2) rfl))) (mvT hZ (hw _ (List.mem_of_getElem? (i := 3) rfl))) (by decide) (backOf (W := 0) (rm1 l Z a0 hw [] (pa >>> ((3 : Int32) &&& 31)) (pb >>> ((3 : Int32) &&& 31)) h0 n0 Z0 ) hZ (hw _ (List.mem_of_getElem? (i := 3) rfl)) (hw _ (List.mem_of_getElem? (i := 2) rfl)) (by decide) (by decide)) (g := (mkF m 61 #[.val (.int pa), .val (.int pb), .val (.int pm), .val (.int pd), .val (.int (pa >>> ((3 : Int32) &&& 31))), .val (.int ((pd &&& (7 : Int32)) - (4 : Int32))), .val (.int (pm &&& (3 : Int32))), .val (.int (pb >>> ((3 : Int32) &&& 31))), .unset, .unset] [(.int (pb >>> ((3 : Int32) &&& 31))), (.int (pa >>> ((3 : Int32) &&& 31)))])) rfl (by rw [hml]; rfl) (argsL := [(.int (pa >>> ((3 : Int32) &&& 31))), (.int (pb >>> ((3 : Int32) &&& 31)))]) (rest := []) (lenOf pd_0 rfl) rfl (by show 2 * 0 + _ ≤ _; exact Nat.le_of_eq rfl) (hb hby at_61) (fun _ _ => ⟨rfl, e0, (by decide : 0 + 0 ≤ _), (by decide : 0 + 0 ≤ _)⟩)
      dsimp only [Pt.U, Pt.locs, Pt.cells, Pt.slots] at X15 l15 y15 z15 st15 hQ15
      subst l15 y15 z15
      obtain ⟨rfl, N15q, e15⟩ := hQ15
      have N15 := Fr.app N0 N15q
      obtain ⟨_, _, ⟨T16, L16, k16, n16⟩, -, X16, ⟨Lc16, hQ16, l16, y16, z16⟩, st16⟩ := Jvm.LawKit.callS X15 hx (y := (⟨"com/example/ticinus/ticinus/battle/Odds", "loss", "(II)I"⟩ : MethodName)) hown (mvT hZ (hw _ (List.mem_of_getElem? (i := 0) rfl))) (mvT hZ (hw _ (List.mem_of_getElem? (i := 1) rfl))) (mvT hZ (hw _ (List.mem_of_getElem? (i := 2) rfl))) (mvT hZ (hw _ (List.mem_of_getElem? (i := 3) rfl))) (by decide) (backOf (W := 0) (rm1 l Z a0 hw [] (pb >>> ((3 : Int32) &&& 31)) (pa >>> ((3 : Int32) &&& 31)) h0 n0 Z0 ) hZ (hw _ (List.mem_of_getElem? (i := 3) rfl)) (hw _ (List.mem_of_getElem? (i := 2) rfl)) (by decide) (by decide)) (g := (mkF m 70 #[.val (.int pa), .val (.int pb), .val (.int pm), .val (.int pd), .val (.int (pa >>> ((3 : Int32) &&& 31))), .val (.int ((pd &&& (7 : Int32)) - (4 : Int32))), .val (.int (pm &&& (3 : Int32))), .val (.int (pb >>> ((3 : Int32) &&& 31))), .val (.int (lossF (pa >>> ((3 : Int32) &&& 31)) (pb >>> ((3 : Int32) &&& 31)))), .unset] [(.int (pa >>> ((3 : Int32) &&& 31))), (.int (pb >>> ((3 : Int32) &&& 31)))])) rfl (by rw [hml]; rfl) (argsL := [(.int (pb >>> ((3 : Int32) &&& 31))), (.int (pa >>> ((3 : Int32) &&& 31)))]) (rest := []) (lenOf pd_0 rfl) rfl (by show 2 * 0 + _ ≤ _; exact Nat.le_of_eq rfl) (hb hby at_70) (fun _ _ => ⟨rfl, e15, (by decide : 0 + 0 ≤ _), (by decide : 0 + 0 ≤ _)⟩)
      dsimp only [Pt.U, Pt.locs, Pt.cells, Pt.slots] at X16 l16 y16 z16 st16 hQ16
      subst l16 y16 z16
      obtain ⟨rfl, N16q, e16⟩ := hQ16
      have N16 := Fr.app N15 N16q
      obtain ⟨_, _, ⟨T17, L17, k17, n17⟩, -, X17, ⟨Lc17, hQ17, l17, y17, z17⟩, st17⟩ := Jvm.LawKit.callS X16 hx (y := (⟨"com/example/ticinus/ticinus/battle/OddsLossPinLaw", "expected", "(II)I"⟩ : MethodName)) hown (mvT hZ (hw _ (List.mem_of_getElem? (i := 4) rfl))) (mvT hZ (hw _ (List.mem_of_getElem? (i := 5) rfl))) (mvT hZ (hw _ (List.mem_of_getElem? (i := 6) rfl))) (mvT hZ (hw _ (List.mem_of_getElem? (i := 7) rfl))) (by decide) (backOf (W := 1) (rm2 l Z a0 hw [] (pa >>> ((3 : Int32) &&& 31)) (pb >>> ((3 : Int32) &&& 31)) h0 n0 Z0 ) hZ (hw _ (List.mem_of_getElem? (i := 7) rfl)) (hw _ (List.mem_of_getElem? (i := 6) rfl)) (by decide) (by decide)) (g := (mkF m 81 #[.val (.int pa), .val (.int pb), .val (.int pm), .val (.int pd), .val (.int (pa >>> ((3 : Int32) &&& 31))), .val (.int ((pd &&& (7 : Int32)) - (4 : Int32))), .val (.int (pm &&& (3 : Int32))), .val (.int (pb >>> ((3 : Int32) &&& 31))), .val (.int (lossF (pa >>> ((3 : Int32) &&& 31)) (pb >>> ((3 : Int32) &&& 31)))), .val (.int (lossF (pb >>> ((3 : Int32) &&& 31)) (pa >>> ((3 : Int32) &&& 31))))] [(.int (pb >>> ((3 : Int32) &&& 31))), (.int (pa >>> ((3 : Int32) &&& 31))), (.int (lossF (pa >>> ((3 : Int32) &&& 31)) (pb >>> ((3 : Int32) &&& 31))))])) rfl (by rw [hml]; rfl) (argsL := [(.int (pa >>> ((3 : Int32) &&& 31))), (.int (pb >>> ((3 : Int32) &&& 31)))]) (rest := [(.int (lossF (pa >>> ((3 : Int32) &&& 31)) (pb >>> ((3 : Int32) &&& 31))))]) (lenOf pd_0 rfl) rfl (by show 2 * 0 + _ ≤ _; exact Nat.le_of_eq rfl) (hb hby at_81) (fun _ _ => ⟨rfl, e16, (by decide : 0 + 0 ≤ _), (by decide : 0 + 0 ≤ _)⟩)
      dsimp only [Pt.U, Pt.locs, Pt.cells, Pt.slots] at X17 l17 y17 z17 st17 hQ17
      subst l17 y17 z17
      obtain ⟨rfl, N17q, e17⟩ := hQ17
      have N17 := Fr.app N16 N17q
      obtain ⟨_, _, ⟨T18, L18, k18, n18⟩, -, X18, ⟨Lc18, hQ18, l18, y18, z18⟩, st18⟩ := Jvm.LawKit.callS X17 hx (y := (⟨"com/example/ticinus/ticinus/battle/OddsLossPinLaw", "expected", "(II)I"⟩ : MethodName)) hown (mvT hZ (hw _ (List.mem_of_getElem? (i := 4) rfl))) (mvT hZ (hw _ (List.mem_of_getElem? (i := 5) rfl))) (mvT hZ (hw _ (List.mem_of_getElem? (i := 6) rfl))) (mvT hZ (hw _ (List.mem_of_getElem? (i := 7) rfl))) (by decide) (backOf (W := 1) (rm2 l Z a0 hw [] (pb >>> ((3 : Int32) &&& 31)) (pa >>> ((3 : Int32) &&& 31)) h0 n0 Z0 ) hZ (hw _ (List.mem_of_getElem? (i := 7) rfl)) (hw _ (List.mem_of_getElem? (i := 6) rfl)) (by decide) (by decide)) (g := (mkF m 93 #[.val (.int pa), .val (.int pb), .val (.int pm), .val (.int pd), .val (.int (pa >>> ((3 : Int32) &&& 31))), .val (.int ((pd &&& (7 : Int32)) - (4 : Int32))), .val (.int (pm &&& (3 : Int32))), .val (.int (pb >>> ((3 : Int32) &&& 31))), .val (.int (lossF (pa >>> ((3 : Int32) &&& 31)) (pb >>> ((3 : Int32) &&& 31)))), .val (.int (lossF (pb >>> ((3 : Int32) &&& 31)) (pa >>> ((3 : Int32) &&& 31))))] [(.int (pa >>> ((3 : Int32) &&& 31))), (.int (pb >>> ((3 : Int32) &&& 31))), (.int (lossF (pb >>> ((3 : Int32) &&& 31)) (pa >>> ((3 : Int32) &&& 31))))])) rfl (by rw [hml]; rfl) (argsL := [(.int (pb >>> ((3 : Int32) &&& 31))), (.int (pa >>> ((3 : Int32) &&& 31)))]) (rest := [(.int (lossF (pb >>> ((3 : Int32) &&& 31)) (pa >>> ((3 : Int32) &&& 31))))]) (lenOf pd_0 rfl) rfl (by show 2 * 0 + _ ≤ _; exact Nat.le_of_eq rfl) (hb hby at_93) (fun _ _ => ⟨rfl, e17, (by decide : 0 + 0 ≤ _), (by decide : 0 + 0 ≤ _)⟩)
      dsimp only [Pt.U, Pt.locs, Pt.cells, Pt.slots] at X18 l18 y18 z18 st18 hQ18
      subst l18 y18 z18
      obtain ⟨rfl, N18q, e18⟩ := hQ18
      have N18 := Fr.app N17 N18q
      obtain ⟨fs, hr, hrun, hended, hW, hsame⟩ := X18.leave (v := some (.int (1 : Int32))) (fun h => by rw [Bd.returns] at h; cases h)
      refine ⟨_, _, pre8 _ ?_, hrun, hended, _, _, rfl, ?_, ⟨_, rfl⟩, hW, hsame.mono (by decide) (by decide)⟩
      · show Steps p.tables e below (s₁.setTop (mkF m 37 #[.val (.int pa), .val (.int pb), .val (.int pm), .val (.int pd), .val (.int (pa >>> ((3 : Int32) &&& 31))), .val (.int ((pd &&& (7 : Int32)) - (4 : Int32))), .val (.int (pm &&& (3 : Int32))), .unset, .unset, .unset] [(.int (2 : Int32)), (.int (pm &&& (3 : Int32)))])) _
        refine XS.icmpYes X0.here hx rfl (pc0 := 37) (pc' := 52) rfl (hb hby at_37) rfl (feq hc37_9).2 (by decide) (by decide) ?_
        show Steps p.tables e below (s₁.setTop (mkF m 52 #[.val (.int pa), .val (.int pb), .val (.int pm), .val (.int pd), .val (.int (pa >>> ((3 : Int32) &&& 31))), .val (.int ((pd &&& (7 : Int32)) - (4 : Int32))), .val (.int (pm &&& (3 : Int32))), .unset, .unset, .unset] [])) _
        refine XS.iloadN X0.here hx rfl (hb hby at_52) rfl ?_
        show Steps p.tables e below (s₁.setTop (mkF m 53 #[.val (.int pa), .val (.int pb), .val (.int pm), .val (.int pd), .val (.int (pa >>> ((3 : Int32) &&& 31))), .val (.int ((pd &&& (7 : Int32)) - (4 : Int32))), .val (.int (pm &&& (3 : Int32))), .unset, .unset, .unset] [(.int pb)])) _
        refine XS.iconst X0.here hx rfl (hb hby at_53) ?_
        show Steps p.tables e below (s₁.setTop (mkF m 54 #[.val (.int pa), .val (.int pb), .val (.int pm), .val (.int pd), .val (.int (pa >>> ((3 : Int32) &&& 31))), .val (.int ((pd &&& (7 : Int32)) - (4 : Int32))), .val (.int (pm &&& (3 : Int32))), .unset, .unset, .unset] [(.int (3 : Int32)), (.int pb)])) _
        refine XS.ishr X0.here hx rfl (hb hby at_54) rfl ?_
        show Steps p.tables e below (s₁.setTop (mkF m 55 #[.val (.int pa), .val (.int pb), .val (.int pm), .val (.int pd), .val (.int (pa >>> ((3 : Int32) &&& 31))), .val (.int ((pd &&& (7 : Int32)) - (4 : Int32))), .val (.int (pm &&& (3 : Int32))), .unset, .unset, .unset] [(.int (pb >>> ((3 : Int32) &&& 31)))])) _
        refine XS.istore X0.here hx rfl (hb hby at_55) rfl (l' := #[.val (.int pa), .val (.int pb), .val (.int pm), .val (.int pd), .val (.int (pa >>> ((3 : Int32) &&& 31))), .val (.int ((pd &&& (7 : Int32)) - (4 : Int32))), .val (.int (pm &&& (3 : Int32))), .val (.int (pb >>> ((3 : Int32) &&& 31))), .unset, .unset]) rfl ?_
        show Steps p.tables e below (s₁.setTop (mkF m 57 #[.val (.int pa), .val (.int pb), .val (.int pm), .val (.int pd), .val (.int (pa >>> ((3 : Int32) &&& 31))), .val (.int ((pd &&& (7 : Int32)) - (4 : Int32))), .val (.int (pm &&& (3 : Int32))), .val (.int (pb >>> ((3 : Int32) &&& 31))), .unset, .unset] [])) _
        refine XS.iload X0.here hx rfl (hb hby at_57) rfl ?_
        show Steps p.tables e below (s₁.setTop (mkF m 59 #[.val (.int pa), .val (.int pb), .val (.int pm), .val (.int pd), .val (.int (pa >>> ((3 : Int32) &&& 31))), .val (.int ((pd &&& (7 : Int32)) - (4 : Int32))), .val (.int (pm &&& (3 : Int32))), .val (.int (pb >>> ((3 : Int32) &&& 31))), .unset, .unset] [(.int (pa >>> ((3 : Int32) &&& 31)))])) _
        refine XS.iload X0.here hx rfl (hb hby at_59) rfl ?_
        show Steps p.tables e below (s₁.setTop (mkF m 61 #[.val (.int pa), .val (.int pb), .val (.int pm), .val (.int pd), .val (.int (pa >>> ((3 : Int32) &&& 31))), .val (.int ((pd &&& (7 : Int32)) - (4 : Int32))), .val (.int (pm &&& (3 : Int32))), .val (.int (pb >>> ((3 : Int32) &&& 31))), .unset, .unset] [(.int (pb >>> ((3 : Int32) &&& 31))), (.int (pa >>> ((3 : Int32) &&& 31)))])) _
        refine st15 _ ?_
        show Steps p.tables e below (T15.setTop (mkF m 64 #[.val (.int pa), .val (.int pb), .val (.int pm), .val (.int pd), .val (.int (pa >>> ((3 : Int32) &&& 31))), .val (.int ((pd &&& (7 : Int32)) - (4 : Int32))), .val (.int (pm &&& (3 : Int32))), .val (.int (pb >>> ((3 : Int32) &&& 31))), .unset, .unset] [(.int (lossF (pa >>> ((3 : Int32) &&& 31)) (pb >>> ((3 : Int32) &&& 31))))])) _
        refine XS.istore X15.here hx rfl (hb hby at_64) rfl (l' := #[.val (.int pa), .val (.int pb), .val (.int pm), .val (.int pd), .val (.int (pa >>> ((3 : Int32) &&& 31))), .val (.int ((pd &&& (7 : Int32)) - (4 : Int32))), .val (.int (pm &&& (3 : Int32))), .val (.int (pb >>> ((3 : Int32) &&& 31))), .val (.int (lossF (pa >>> ((3 : Int32) &&& 31)) (pb >>> ((3 : Int32) &&& 31)))), .unset]) rfl ?_
        show Steps p.tables e below (T15.setTop (mkF m 66 #[.val (.int pa), .val (.int pb), .val (.int pm), .val (.int pd), .val (.int (pa >>> ((3 : Int32) &&& 31))), .val (.int ((pd &&& (7 : Int32)) - (4 : Int32))), .val (.int (pm &&& (3 : Int32))), .val (.int (pb >>> ((3 : Int32) &&& 31))), .val (.int (lossF (pa >>> ((3 : Int32) &&& 31)) (pb >>> ((3 : Int32) &&& 31)))), .unset] [])) _
        refine XS.iload X15.here hx rfl (hb hby at_66) rfl ?_
        show Steps p.tables e below (T15.setTop (mkF m 68 #[.val (.int pa), .val (.int pb), .val (.int pm), .val (.int pd), .val (.int (pa >>> ((3 : Int32) &&& 31))), .val (.int ((pd &&& (7 : Int32)) - (4 : Int32))), .val (.int (pm &&& (3 : Int32))), .val (.int (pb >>> ((3 : Int32) &&& 31))), .val (.int (lossF (pa >>> ((3 : Int32) &&& 31)) (pb >>> ((3 : Int32) &&& 31)))), .unset] [(.int (pb >>> ((3 : Int32) &&& 31)))])) _
        refine XS.iload X15.here hx rfl (hb hby at_68) rfl ?_
        show Steps p.tables e below (T15.setTop (mkF m 70 #[.val (.int pa), .val (.int pb), .val (.int pm), .val (.int pd), .val (.int (pa >>> ((3 : Int32) &&& 31))), .val (.int ((pd &&& (7 : Int32)) - (4 : Int32))), .val (.int (pm &&& (3 : Int32))), .val (.int (pb >>> ((3 : Int32) &&& 31))), .val (.int (lossF (pa >>> ((3 : Int32) &&& 31)) (pb >>> ((3 : Int32) &&& 31)))), .unset] [(.int (pa >>> ((3 : Int32) &&& 31))), (.int (pb >>> ((3 : Int32) &&& 31)))])) _
        refine st16 _ ?_
        show Steps p.tables e below (T16.setTop (mkF m 73 #[.val (.int pa), .val (.int pb), .val (.int pm), .val (.int pd), .val (.int (pa >>> ((3 : Int32) &&& 31))), .val (.int ((pd &&& (7 : Int32)) - (4 : Int32))), .val (.int (pm &&& (3 : Int32))), .val (.int (pb >>> ((3 : Int32) &&& 31))), .val (.int (lossF (pa >>> ((3 : Int32) &&& 31)) (pb >>> ((3 : Int32) &&& 31)))), .unset] [(.int (lossF (pb >>> ((3 : Int32) &&& 31)) (pa >>> ((3 : Int32) &&& 31))))])) _
        refine XS.istore X16.here hx rfl (hb hby at_73) rfl (l' := #[.val (.int pa), .val (.int pb), .val (.int pm), .val (.int pd), .val (.int (pa >>> ((3 : Int32) &&& 31))), .val (.int ((pd &&& (7 : Int32)) - (4 : Int32))), .val (.int (pm &&& (3 : Int32))), .val (.int (pb >>> ((3 : Int32) &&& 31))), .val (.int (lossF (pa >>> ((3 : Int32) &&& 31)) (pb >>> ((3 : Int32) &&& 31)))), .val (.int (lossF (pb >>> ((3 : Int32) &&& 31)) (pa >>> ((3 : Int32) &&& 31))))]) rfl ?_
        show Steps p.tables e below (T16.setTop (mkF m 75 #[.val (.int pa), .val (.int pb), .val (.int pm), .val (.int pd), .val (.int (pa >>> ((3 : Int32) &&& 31))), .val (.int ((pd &&& (7 : Int32)) - (4 : Int32))), .val (.int (pm &&& (3 : Int32))), .val (.int (pb >>> ((3 : Int32) &&& 31))), .val (.int (lossF (pa >>> ((3 : Int32) &&& 31)) (pb >>> ((3 : Int32) &&& 31)))), .val (.int (lossF (pb >>> ((3 : Int32) &&& 31)) (pa >>> ((3 : Int32) &&& 31))))] [])) _
        refine XS.iload X16.here hx rfl (hb hby at_75) rfl ?_
        show Steps p.tables e below (T16.setTop (mkF m 77 #[.val (.int pa), .val (.int pb), .val (.int pm), .val (.int pd), .val (.int (pa >>> ((3 : Int32) &&& 31))), .val (.int ((pd &&& (7 : Int32)) - (4 : Int32))), .val (.int (pm &&& (3 : Int32))), .val (.int (pb >>> ((3 : Int32) &&& 31))), .val (.int (lossF (pa >>> ((3 : Int32) &&& 31)) (pb >>> ((3 : Int32) &&& 31)))), .val (.int (lossF (pb >>> ((3 : Int32) &&& 31)) (pa >>> ((3 : Int32) &&& 31))))] [(.int (lossF (pa >>> ((3 : Int32) &&& 31)) (pb >>> ((3 : Int32) &&& 31))))])) _
        refine XS.iload X16.here hx rfl (hb hby at_77) rfl ?_
        show Steps p.tables e below (T16.setTop (mkF m 79 #[.val (.int pa), .val (.int pb), .val (.int pm), .val (.int pd), .val (.int (pa >>> ((3 : Int32) &&& 31))), .val (.int ((pd &&& (7 : Int32)) - (4 : Int32))), .val (.int (pm &&& (3 : Int32))), .val (.int (pb >>> ((3 : Int32) &&& 31))), .val (.int (lossF (pa >>> ((3 : Int32) &&& 31)) (pb >>> ((3 : Int32) &&& 31)))), .val (.int (lossF (pb >>> ((3 : Int32) &&& 31)) (pa >>> ((3 : Int32) &&& 31))))] [(.int (pa >>> ((3 : Int32) &&& 31))), (.int (lossF (pa >>> ((3 : Int32) &&& 31)) (pb >>> ((3 : Int32) &&& 31))))])) _
        refine XS.iload X16.here hx rfl (hb hby at_79) rfl ?_
        show Steps p.tables e below (T16.setTop (mkF m 81 #[.val (.int pa), .val (.int pb), .val (.int pm), .val (.int pd), .val (.int (pa >>> ((3 : Int32) &&& 31))), .val (.int ((pd &&& (7 : Int32)) - (4 : Int32))), .val (.int (pm &&& (3 : Int32))), .val (.int (pb >>> ((3 : Int32) &&& 31))), .val (.int (lossF (pa >>> ((3 : Int32) &&& 31)) (pb >>> ((3 : Int32) &&& 31)))), .val (.int (lossF (pb >>> ((3 : Int32) &&& 31)) (pa >>> ((3 : Int32) &&& 31))))] [(.int (pb >>> ((3 : Int32) &&& 31))), (.int (pa >>> ((3 : Int32) &&& 31))), (.int (lossF (pa >>> ((3 : Int32) &&& 31)) (pb >>> ((3 : Int32) &&& 31))))])) _
        refine st17 _ ?_
        show Steps p.tables e below (T17.setTop (mkF m 84 #[.val (.int pa), .val (.int pb), .val (.int pm), .val (.int pd), .val (.int (pa >>> ((3 : Int32) &&& 31))), .val (.int ((pd &&& (7 : Int32)) - (4 : Int32))), .val (.int (pm &&& (3 : Int32))), .val (.int (pb >>> ((3 : Int32) &&& 31))), .val (.int (lossF (pa >>> ((3 : Int32) &&& 31)) (pb >>> ((3 : Int32) &&& 31)))), .val (.int (lossF (pb >>> ((3 : Int32) &&& 31)) (pa >>> ((3 : Int32) &&& 31))))] [(.int (expF (pa >>> ((3 : Int32) &&& 31)) (pb >>> ((3 : Int32) &&& 31)))), (.int (lossF (pa >>> ((3 : Int32) &&& 31)) (pb >>> ((3 : Int32) &&& 31))))])) _
        refine XS.icmpNo X17.here hx rfl (hb hby at_84) rfl (teq (own_same _ _ (own_b0 pa).1 (own_b0 pa).2 : (lossF (pa >>> ((3 : Int32) &&& 31)) (pb >>> ((3 : Int32) &&& 31))) = (expF (pa >>> ((3 : Int32) &&& 31)) (pb >>> ((3 : Int32) &&& 31))))).2 ?_
        show Steps p.tables e below (T17.setTop (mkF m 87 #[.val (.int pa), .val (.int pb), .val (.int pm), .val (.int pd), .val (.int (pa >>> ((3 : Int32) &&& 31))), .val (.int ((pd &&& (7 : Int32)) - (4 : Int32))), .val (.int (pm &&& (3 : Int32))), .val (.int (pb >>> ((3 : Int32) &&& 31))), .val (.int (lossF (pa >>> ((3 : Int32) &&& 31)) (pb >>> ((3 : Int32) &&& 31)))), .val (.int (lossF (pb >>> ((3 : Int32) &&& 31)) (pa >>> ((3 : Int32) &&& 31))))] [])) _
        refine XS.iload X17.here hx rfl (hb hby at_87) rfl ?_
        show Steps p.tables e below (T17.setTop (mkF m 89 #[.val (.int pa), .val (.int pb), .val (.int pm), .val (.int pd), .val (.int (pa >>> ((3 : Int32) &&& 31))), .val (.int ((pd &&& (7 : Int32)) - (4 : Int32))), .val (.int (pm &&& (3 : Int32))), .val (.int (pb >>> ((3 : Int32) &&& 31))), .val (.int (lossF (pa >>> ((3 : Int32) &&& 31)) (pb >>> ((3 : Int32) &&& 31)))), .val (.int (lossF (pb >>> ((3 : Int32) &&& 31)) (pa >>> ((3 : Int32) &&& 31))))] [(.int (lossF (pb >>> ((3 : Int32) &&& 31)) (pa >>> ((3 : Int32) &&& 31))))])) _
        refine XS.iload X17.here hx rfl (hb hby at_89) rfl ?_
        show Steps p.tables e below (T17.setTop (mkF m 91 #[.val (.int pa), .val (.int pb), .val (.int pm), .val (.int pd), .val (.int (pa >>> ((3 : Int32) &&& 31))), .val (.int ((pd &&& (7 : Int32)) - (4 : Int32))), .val (.int (pm &&& (3 : Int32))), .val (.int (pb >>> ((3 : Int32) &&& 31))), .val (.int (lossF (pa >>> ((3 : Int32) &&& 31)) (pb >>> ((3 : Int32) &&& 31)))), .val (.int (lossF (pb >>> ((3 : Int32) &&& 31)) (pa >>> ((3 : Int32) &&& 31))))] [(.int (pb >>> ((3 : Int32) &&& 31))), (.int (lossF (pb >>> ((3 : Int32) &&& 31)) (pa >>> ((3 : Int32) &&& 31))))])) _
        refine XS.iload X17.here hx rfl (hb hby at_91) rfl ?_
        show Steps p.tables e below (T17.setTop (mkF m 93 #[.val (.int pa), .val (.int pb), .val (.int pm), .val (.int pd), .val (.int (pa >>> ((3 : Int32) &&& 31))), .val (.int ((pd &&& (7 : Int32)) - (4 : Int32))), .val (.int (pm &&& (3 : Int32))), .val (.int (pb >>> ((3 : Int32) &&& 31))), .val (.int (lossF (pa >>> ((3 : Int32) &&& 31)) (pb >>> ((3 : Int32) &&& 31)))), .val (.int (lossF (pb >>> ((3 : Int32) &&& 31)) (pa >>> ((3 : Int32) &&& 31))))] [(.int (pa >>> ((3 : Int32) &&& 31))), (.int (pb >>> ((3 : Int32) &&& 31))), (.int (lossF (pb >>> ((3 : Int32) &&& 31)) (pa >>> ((3 : Int32) &&& 31))))])) _
        refine st18 _ ?_
        show Steps p.tables e below (T18.setTop (mkF m 96 #[.val (.int pa), .val (.int pb), .val (.int pm), .val (.int pd), .val (.int (pa >>> ((3 : Int32) &&& 31))), .val (.int ((pd &&& (7 : Int32)) - (4 : Int32))), .val (.int (pm &&& (3 : Int32))), .val (.int (pb >>> ((3 : Int32) &&& 31))), .val (.int (lossF (pa >>> ((3 : Int32) &&& 31)) (pb >>> ((3 : Int32) &&& 31)))), .val (.int (lossF (pb >>> ((3 : Int32) &&& 31)) (pa >>> ((3 : Int32) &&& 31))))] [(.int (expF (pb >>> ((3 : Int32) &&& 31)) (pa >>> ((3 : Int32) &&& 31)))), (.int (lossF (pb >>> ((3 : Int32) &&& 31)) (pa >>> ((3 : Int32) &&& 31))))])) _
        refine XS.icmpNo X18.here hx rfl (hb hby at_96) rfl (teq (own_same _ _ (own_b0 pb).1 (own_b0 pb).2 : (lossF (pb >>> ((3 : Int32) &&& 31)) (pa >>> ((3 : Int32) &&& 31))) = (expF (pb >>> ((3 : Int32) &&& 31)) (pa >>> ((3 : Int32) &&& 31))))).2 ?_
        show Steps p.tables e below (T18.setTop (mkF m 99 #[.val (.int pa), .val (.int pb), .val (.int pm), .val (.int pd), .val (.int (pa >>> ((3 : Int32) &&& 31))), .val (.int ((pd &&& (7 : Int32)) - (4 : Int32))), .val (.int (pm &&& (3 : Int32))), .val (.int (pb >>> ((3 : Int32) &&& 31))), .val (.int (lossF (pa >>> ((3 : Int32) &&& 31)) (pb >>> ((3 : Int32) &&& 31)))), .val (.int (lossF (pb >>> ((3 : Int32) &&& 31)) (pa >>> ((3 : Int32) &&& 31))))] [])) _
        refine XS.iconst X18.here hx rfl (hb hby at_99) ?_
        show Steps p.tables e below (T18.setTop (mkF m 100 #[.val (.int pa), .val (.int pb), .val (.int pm), .val (.int pd), .val (.int (pa >>> ((3 : Int32) &&& 31))), .val (.int ((pd &&& (7 : Int32)) - (4 : Int32))), .val (.int (pm &&& (3 : Int32))), .val (.int (pb >>> ((3 : Int32) &&& 31))), .val (.int (lossF (pa >>> ((3 : Int32) &&& 31)) (pb >>> ((3 : Int32) &&& 31)))), .val (.int (lossF (pb >>> ((3 : Int32) &&& 31)) (pa >>> ((3 : Int32) &&& 31))))] [(.int (1 : Int32))])) _
        refine XS.goto X18.here hx rfl (pc0 := 100) (pc' := 104) rfl (hb hby at_100) (by decide) (by decide) ?_
        show Steps p.tables e below (T18.setTop (mkF m 104 #[.val (.int pa), .val (.int pb), .val (.int pm), .val (.int pd), .val (.int (pa >>> ((3 : Int32) &&& 31))), .val (.int ((pd &&& (7 : Int32)) - (4 : Int32))), .val (.int (pm &&& (3 : Int32))), .val (.int (pb >>> ((3 : Int32) &&& 31))), .val (.int (lossF (pa >>> ((3 : Int32) &&& 31)) (pb >>> ((3 : Int32) &&& 31)))), .val (.int (lossF (pb >>> ((3 : Int32) &&& 31)) (pa >>> ((3 : Int32) &&& 31))))] [(.int (1 : Int32))])) _
        exact retN X18 hx (t := .boolean) Bd.returns (by simp) (hb hby at_104) hr
      · show Q0 Z pa pb pm pd h0 n0 _ T18.heap _
        rw [e18]
        exact ⟨rfl, N18⟩
set_option maxRecDepth 65536 in
set_option maxHeartbeats 40000000 in
theorem comes_1 {Post : Tables → Env → Array Value → State → Outcome → State → Prop} (hpost : ∀ tb e args s v u, (limb_1_1.after args s (.returned v) u = true ∧ limb_1_2.after args s (.returned v) u = true ∧ True) → FrameEnd s (.returned v) u (Jvm.fieldLocs frame_1_writes args s ++ Jvm.arrayLocs frame_1_arrays args s ++ Jvm.staticLocs frame_1_statics s) 0 0 → Post tb e args s (.returned v) u) :
    ArmFor flags0 classFile x code maxLocals ret World_1 tables_1 room_1 Calls_1 rest_1 Pre_1 Post := by
  intro l hfl _ _ p e ha hc hk s m args below hf hA hF happ hP
  obtain ⟨hcalls, hrest, hpre⟩ := hP
  obtain ⟨-, -, -, hnamed, -, -, -, hat⟩ := (Spec.applies_iff hf).mp happ
  obtain ⟨hg, hn⟩ := and_e (Cond.before_iff.mp (show (Jvm.Cond.and given_1 narrow_1).before args s = true from hpre))
  obtain ⟨g1, g2⟩ := and_e hg
  obtain ⟨g3, g4⟩ := and_e g2
  obtain ⟨g5, g6⟩ := and_e g4
  obtain ⟨g7, g8⟩ := and_e g6
  obtain ⟨w0, w1, w2, w3, rfl⟩ : ∃ w0 w1 w2 w3 : Value, args = #[w0, w1, w2, w3] := by
    have hs : args.size = 4 := by simpa [Cond.value, given_1] using g1
    obtain ⟨L⟩ := args
    match L, hs with
    | [w0, w1, w2, w3], _ => exact ⟨w0, w1, w2, w3, rfl⟩
  have hw := fun d (hd : d ∈ tables_1) => atoms_spec (ws := Jvm.Cond.code x code maxLocals ret :: tables_1) hat d (List.mem_cons_of_mem _ hd)
  have hfit : Fit s := fun {y c} hc i hi => by
    obtain ⟨ha, rfl⟩ := Array.getElem?_eq_some_iff.mp hc
    have q := List.all_eq_true.mp ((Array.all_eq_true_iff_forall_mem.mp hF) _ (Array.getElem_mem ha)) i (List.mem_range.mpr hi)
    simpa [Array.getElem?_eq_getElem hi] using q
  obtain ⟨i0, ei0⟩ := is_v g3
  obtain rfl : w0 = (.int i0) := Option.some.inj ei0
  obtain ⟨i1, ei1⟩ := is_v g5
  obtain rfl : w1 = (.int i1) := Option.some.inj ei1
  obtain ⟨i2, ei2⟩ := is_v g7
  obtain rfl : w2 = (.int i2) := Option.some.inj ei2
  obtain ⟨i3, ei3⟩ := is_v g8
  obtain rfl : w3 = (.int i3) := Option.some.inj ei3
  obtain ⟨n, o, h1, h2, h3, _, L, rfl, ⟨rfl, N⟩, hq⟩ := rm0 l s _ hw tables_1 i0 i1 i2 i3 s.heap s.heap.size (Nat.le_refl _)  p e ha hc hk s m _ below hf ((Spec.applies_iff_loose hf).mp happ).1 ⟨rfl, State.Warmed39.refl s, rfl⟩ trivial
  refine ⟨n, _, h1, h2, h3, hpost _ _ _ _ _ _ ⟨Cond.after_iff.mpr rfl, Cond.after_iff.mpr (eq_i res_at (Term.int_eval (1)) rfl), trivial⟩ ⟨hq.1, hq.2.1, (hq.2.2.sift fun y hy => Or.inr (N y hy)).mono (by decide) (by decide)⟩⟩
theorem main_1_1 : Claimed_1_1 := comes_1 fun _ _ _ _ _ _ h hF => ⟨h.1, hF⟩
theorem main_1_2 : Claimed_1_2 := comes_1 fun _ _ _ _ _ _ h hF => ⟨h.2.1, hF⟩
end Jvm.Pilot.@@N@@
namespace Jvm.Pilot.@@N@@
open Jvm Jvm.ClassFile Sem Op Lib Jvm.Free Jvm.Stand Jvm.Pilot.@@N@@.Jvm.D
/-! MADE BY PROGRAM (witnessworld.py) out of the Statement's table words and the real class files: 10 classes; the members and pool entries that the words name. The judged class is class 1, her method 1. -/
namespace start1
open Jvm.ClassFile
def u (s : String) : CpInfo := .utf8 (stringToUtf16 s)
/-- a pool by its gaps: so many unusable entries, then the entry; so many at the end -/
def gap : Nat → List CpInfo → List CpInfo
  | 0, r => r
  | n + 1, r => .unusable :: gap n r
def poolList (es : List (Nat × CpInfo)) (last : Nat) : List CpInfo := es.foldr (fun e r => gap e.1 (e.2 :: r)) (gap last [])
def pool (es : List (Nat × CpInfo)) (last : Nat) : Array CpInfo := ⟨poolList es last⟩
def fileOf (pool : Array CpInfo) (this : Nat) (attrs : Array Attribute := #[]) (ms : Array MethodInfo := #[]) (fl : Nat := 33) (sup : Nat := 0) (ifs : Array Nat := #[]) (fds : Array FieldInfo := #[]) : ClassFile where
  minorVersion := 0
  majorVersion := 65
  constantPool := pool
  accessFlags := fl
  thisClass := this
  superClass := sup
  interfaces := ifs
  fields := fds
  methods := ms
  attributes := attrs
def plain (name : String) (sup : Option ClassId) : Class where
  name := name
  kind := .ordinary
  loader := none
  accessFlags := 33
  super := sup
  interfaces := #[]
  cf := none
  fields := #[]
  methods := #[]
  instanceTypes := #[]
  staticTypes := #[]
  resolved := #[]
  callSites := []
  init := .initialized
  statics := none
  mirror := none

def pool0 : Array CpInfo := pool [(5, u "<init>"), (0, u "()V"), (1, .class_ 10), (1, u "java/lang/Object")] 113

def k0m0 : Method := { name := "<init>", desc := "()V", sig := { parameters := [], returnType := none }, accessFlags := 1, code := none }
/-- java/lang/Object -/
def k0 : Class := { plain "java/lang/Object" none with
  accessFlags := 33
  interfaces := #[]
  cf := some (fileOf pool0 8 #[] #[{ accessFlags := 1, nameIndex := 5, descriptorIndex := 6, attributes := #[] }] 33 0 #[] #[])
  fields := #[]
  methods := #[k0m0]
  instanceTypes := #[]
  staticTypes := #[]
  resolved := Array.replicate 124 none
  statics := none }

def pool1 : Array CpInfo := pool [(2, .class_ 4), (1, u "java/lang/Object"), (0, u "<init>"), (0, u "()V"), (0, .methodref 8 9), (0, .class_ 10), (0, .nameAndType 11 12), (0, u "com/example/ticinus/ticinus/battle/Odds"), (0, u "loss"), (0, u "(II)I"), (0, .methodref 14 15), (0, .class_ 16), (0, .nameAndType 17 12), (0, u "com/example/ticinus/ticinus/battle/OddsLossPinLaw"), (0, u "expected"), (2, u "law"), (0, u "(IIII)Z")] 3

def k1m0 : Method := { name := "<init>", desc := "()V", sig := { parameters := [], returnType := none }, accessFlags := 1, code := none }
def k1c1 : Code := { maxStack := 3, maxLocals := 10, code := code, exceptionTable := #[], attributes := #[] }
def k1m1 : Method := { name := "law", desc := "(IIII)Z", sig := { parameters := [.int, .int, .int, .int], returnType := some .boolean }, accessFlags := 9, code := some k1c1 }
def k1c2 : Code := { maxStack := 4, maxLocals := 8, code := method_3_code, exceptionTable := #[], attributes := #[] }
def k1m2 : Method := { name := "expected", desc := "(II)I", sig := { parameters := [.int, .int], returnType := some .int }, accessFlags := 10, code := some k1c2 }
/-- com/example/ticinus/ticinus/battle/OddsLossPinLaw -/
def k1 : Class := { plain "com/example/ticinus/ticinus/battle/OddsLossPinLaw" (some 0) with
  accessFlags := 49
  interfaces := #[]
  cf := some (fileOf pool1 14 #[] #[{ accessFlags := 1, nameIndex := 5, descriptorIndex := 6, attributes := #[] }, { accessFlags := 9, nameIndex := 20, descriptorIndex := 21, attributes := #[] }, { accessFlags := 10, nameIndex := 17, descriptorIndex := 12, attributes := #[] }] 49 2 #[] #[])
  fields := #[]
  methods := #[k1m0, k1m1, k1m2]
  instanceTypes := #[]
  staticTypes := #[]
  resolved := Array.replicate 25 none
  statics := none }

def pool2 : Array CpInfo := pool [(2, .class_ 4), (1, u "java/lang/Object"), (0, u "<init>"), (0, u "()V"), (0, .class_ 8), (0, u "java/lang/Record")] 13

def k2m0 : Method := { name := "<init>", desc := "()V", sig := { parameters := [], returnType := none }, accessFlags := 4, code := none }
/-- java/lang/Record -/
def k2 : Class := { plain "java/lang/Record" (some 0) with
  accessFlags := 1057
  interfaces := #[]
  cf := some (fileOf pool2 7 #[] #[{ accessFlags := 4, nameIndex := 5, descriptorIndex := 6, attributes := #[] }] 1057 2 #[] #[])
  fields := #[]
  methods := #[k2m0]
  instanceTypes := #[]
  staticTypes := #[]
  resolved := Array.replicate 22 none
  statics := none }

def pool3 : Array CpInfo := pool [(4, .class_ 6), (1, u "java/lang/Record"), (3, .class_ 12), (1, u "com/example/ticinus/ticinus/battle/Odds"), (0, u "attack"), (0, u "I"), (2, u "defence"), (5, u "loss"), (0, u "(II)I"), (12, u "THROWS")] 33

def k3c0 : Code := { maxStack := 3, maxLocals := 2, code := prog_44_method_4_code, exceptionTable := #[], attributes := #[] }
def k3m0 : Method := { name := "loss", desc := "(II)I", sig := { parameters := [.int, .int], returnType := some .int }, accessFlags := 8, code := some k3c0 }
/-- com/example/ticinus/ticinus/battle/Odds -/
def k3 : Class := { plain "com/example/ticinus/ticinus/battle/Odds" (some 2) with
  accessFlags := 49
  interfaces := #[]
  cf := some (fileOf pool3 10 #[] #[{ accessFlags := 8, nameIndex := 23, descriptorIndex := 24, attributes := #[] }] 49 4 #[] #[{ accessFlags := 18, nameIndex := 13, descriptorIndex := 14, attributes := #[] }, { accessFlags := 18, nameIndex := 17, descriptorIndex := 14, attributes := #[] }, { accessFlags := 25, nameIndex := 37, descriptorIndex := 14, attributes := #[] }])
  fields := #[{ name := "attack", type := .int, accessFlags := 18, slot := 0, constantValue := 0 }, { name := "defence", type := .int, accessFlags := 18, slot := 1, constantValue := 0 }, { name := "THROWS", type := .int, accessFlags := 25, slot := 0, constantValue := 0 }]
  methods := #[k3m0]
  instanceTypes := #[.int, .int]
  staticTypes := #[.int]
  resolved := Array.replicate 71 none
  statics := none }

def pool4 : Array CpInfo := pool [(1, u "java/lang/Cloneable"), (0, .class_ 1), (0, u "java/lang/Object"), (0, .class_ 3)] 3

/-- java/lang/Cloneable -/
def k4 : Class := { plain "java/lang/Cloneable" (some 0) with
  accessFlags := 1537
  interfaces := #[]
  cf := some (fileOf pool4 2 #[] #[] 1537 4 #[] #[])
  fields := #[]
  methods := #[]
  instanceTypes := #[]
  staticTypes := #[]
  resolved := Array.replicate 8 none
  statics := none }

def pool5 : Array CpInfo := pool [(1, u "java/io/Serializable"), (0, .class_ 1), (0, u "java/lang/Object"), (0, .class_ 3)] 3

/-- java/io/Serializable -/
def k5 : Class := { plain "java/io/Serializable" (some 0) with
  accessFlags := 1537
  interfaces := #[]
  cf := some (fileOf pool5 2 #[] #[] 1537 4 #[] #[])
  fields := #[]
  methods := #[]
  instanceTypes := #[]
  staticTypes := #[]
  resolved := Array.replicate 8 none
  statics := none }

/-- the primitive byte -/
def k6 : Class := { plain "byte" none with kind := .primitive 'B', accessFlags := 0x411 }
/-- [B -/
def k7 : Class := { plain "[B" (some 0) with kind := .array 6 .byte, interfaces := #[4, 5], accessFlags := 1041 }

/-- the primitive int -/
def k8 : Class := { plain "int" none with kind := .primitive 'I', accessFlags := 0x411 }
/-- [I -/
def k9 : Class := { plain "[I" (some 0) with kind := .array 8 .int, interfaces := #[4, 5], accessFlags := 1041 }

def heap : Heap := #[]
def classes : Array Class := #[k0, k1, k2, k3, k4, k5, k6, k7, k8, k9]
def interned : List (Array UInt16 × Addr) := []
def slotsUsed : Nat := 0
def theMethod : MethodId := ⟨1, 1⟩
def args0 : Array Value := #[.int 0, .int 3, .int 2, .int 1]
def aboutOver (below : List Frame) : State where
  vm := { classes := classes, interned := interned.toArray }
  heap := heap
  slotsUsed := slotsUsed
  threads := #[{ frames := .invoking theMethod args0 :: below }]
def below0 : List Frame := [.native { method := ⟨0, 0⟩, args := #[] }]
def about1 : State := aboutOver below0
def p0 : Program := .bare "" "" ""
def e0 : Env := launch0.env 0 0 0
theorem w_frames : about1.frames = Frame.invoking theMethod args0 :: below0 := rfl
set_option maxRecDepth 65536 in
theorem w_args : argsFit about1.vm theMethod args0 = true := by decide +kernel
set_option maxRecDepth 65536 in
theorem w_heap : heapFits about1 = true := by decide +kernel
set_option maxRecDepth 65536 in
theorem w_runnable : about1.curStatus? = some .runnable := by decide +kernel
set_option maxRecDepth 65536 in
theorem w_alone : about1.alone = true := by decide +kernel
set_option maxRecDepth 65536 in
theorem w_named : about1.methodNamed? x = some theMethod := by decide +kernel
set_option maxRecDepth 65536 in
theorem w_hears : about1.hears theMethod below0 = true := by decide +kernel
set_option maxRecDepth 65536 in
theorem w_ripe : about1.ripe theMethod args0 below0 = true := by decide +kernel
theorem w_running : about1.status = .running := rfl
set_option maxRecDepth 65536 in
theorem w_room : about1.hasRoom e0.platform room_1 = true :=
  launch0.hasRoom_least _ room_1 (by decide +kernel) (by decide +kernel) (by decide +kernel) (by decide +kernel) (by decide +kernel) (by decide +kernel)
theorem allAtoms_all (ts : List Jvm.Cond) (a : Array Jvm.Value) (st : Jvm.State) : (allAtoms ts).before a st = ts.all (fun c => c.before a st) := by
  induction ts with
  | nil => rfl
  | cons c t ih =>
    show (Jvm.Cond.and c (allAtoms t)).before a st = _
    rw [Jvm.Cond.before_and, ih, List.all_cons]
def words1 : List Jvm.Cond := Jvm.Cond.code x code maxLocals ret :: tables_1
/-- a 'code' word, met by the world's own term for the bytes: nothing is compared byte by byte -/
theorem code_word {y : MethodName} {bytes : ByteArray} {mx : Nat} {rt : Option FieldType} {a : Array Value} {s : State} {m : MethodId} {meth : Method} {c : Code} (h1 : s.methodNamed? y = some m) (h2 : s.vm.method? m = some meth) (h3 : meth.code = some c) (h4 : c.code = bytes)
    (h5 : (c.maxLocals == mx && c.exceptionTable.isEmpty && decide (c.maxStack ≤ mostOperands) && decide (meth.sig.returnType = rt) && !meth.locks && decide (parseMethodDescriptor y.desc = some meth.sig)) = true) : (Jvm.Cond.code y bytes mx rt).before a s = true := by
  simp only [Bool.and_eq_true, beq_iff_eq, Bool.not_eq_true', decide_eq_true_eq] at h5
  obtain ⟨⟨⟨⟨⟨g1, g2⟩, g3⟩, g4⟩, g5⟩, g6⟩ := h5
  simp [Cond.before, Cond.holds, Cond.value, h1, h2, h3, h4, g1, g2, g3, g4, g5, g6]
def isCode : Jvm.Cond → Bool
  | .code _ _ _ _ => true
  | _ => false
theorem all_split {L : List Jvm.Cond} {P : Jvm.Cond → Bool} (h1 : L.all (fun c => isCode c || P c) = true) (h2 : ∀ c ∈ L.filter isCode, P c = true) : L.all P = true := by
  refine List.all_eq_true.mpr fun c hc => ?_
  have h := List.all_eq_true.mp h1 c hc
  rcases Bool.eq_false_or_eq_true (isCode c) with hi | hi
  · exact h2 c (List.mem_filter.mpr ⟨hc, hi⟩)
  · simpa [hi] using h
set_option maxRecDepth 65536 in
theorem w_c0 : (Jvm.Cond.code x code maxLocals ret).before args0 about1 = true := code_word (m := ⟨1, 1⟩) (meth := k1m1) (c := k1c1) (by decide +kernel) rfl rfl rfl (by decide +kernel)
set_option maxRecDepth 65536 in
theorem w_c1 : (Jvm.Cond.code ({ cls := "com/example/ticinus/ticinus/battle/Odds", name := "loss", desc := "(II)I" } : Jvm.MethodName) prog_44_method_4_code (2 : Nat) (Option.some Jvm.ClassFile.FieldType.int)).before args0 about1 = true := code_word (m := ⟨3, 0⟩) (meth := k3m0) (c := k3c0) (by decide +kernel) rfl rfl rfl (by decide +kernel)
set_option maxRecDepth 65536 in
theorem w_c2 : (Jvm.Cond.code ({ cls := "com/example/ticinus/ticinus/battle/OddsLossPinLaw", name := "expected", desc := "(II)I" } : Jvm.MethodName) method_3_code (8 : Nat) (Option.some Jvm.ClassFile.FieldType.int)).before args0 about1 = true := code_word (m := ⟨1, 2⟩) (meth := k1m2) (c := k1c2) (by decide +kernel) rfl rfl rfl (by decide +kernel)
def codes1 : List Jvm.Cond := [Jvm.Cond.code x code maxLocals ret, Jvm.Cond.code ({ cls := "com/example/ticinus/ticinus/battle/Odds", name := "loss", desc := "(II)I" } : Jvm.MethodName) prog_44_method_4_code (2 : Nat) (Option.some Jvm.ClassFile.FieldType.int), Jvm.Cond.code ({ cls := "com/example/ticinus/ticinus/battle/OddsLossPinLaw", name := "expected", desc := "(II)I" } : Jvm.MethodName) method_3_code (8 : Nat) (Option.some Jvm.ClassFile.FieldType.int)]
set_option maxRecDepth 65536 in
theorem codes_eq : words1.filter isCode = codes1 := rfl
theorem w_codes : ∀ c ∈ words1.filter isCode, c.before args0 about1 = true := by
  rw [codes_eq]
  intro c hc
  simp only [codes1, List.mem_cons, List.not_mem_nil, or_false] at hc
  rcases hc with rfl | rfl | rfl
  · exact w_c0
  · exact w_c1
  · exact w_c2
set_option maxRecDepth 65536 in
theorem w_t1 : words1.all (fun c => isCode c || c.before args0 about1) = true := by decide +kernel
theorem w_tables : (allAtoms (Jvm.Cond.code x code maxLocals ret :: tables_1)).before args0 about1 = true := by
  rw [allAtoms_all]
  show words1.all (fun c => c.before args0 about1) = true
  refine all_split ?_ w_codes
  rw [w_t1]
set_option maxRecDepth 65536 in
theorem w_case : (Jvm.Cond.and given_1 narrow_1).before args0 about1 = true := by decide +kernel
theorem w_applies : (headSpec (Jvm.Cond.code x code maxLocals ret :: tables_1) room_1).applies x e0.platform about1 = true :=
  (Spec.applies_iff w_frames).mpr ⟨w_running, w_runnable, w_alone, w_named, w_hears, w_ripe, w_room, w_tables⟩
theorem atStart : AtStart classFile x code maxLocals ret World_1 tables_1 room_1 Calls_1 rest_1 Pre_1 launch0 p0 e0 about1 theMethod args0 below0 :=
  ⟨lists_1, trivial, launch0.admits_env _ _ _, launch0.least_env, fairChoices_fair.cas, fairChoices_fair.clock, w_frames, w_args, w_heap, w_applies, trivial, trivial, w_case⟩
end start1
theorem witness_1 : WitnessClaimed_1 := ⟨start1.p0, start1.e0, start1.about1, start1.theMethod, start1.args0, start1.below0, start1.atStart⟩
end Jvm.Pilot.@@N@@
