import JvmDerived
import JvmDerived.Pilot.@@N@@Statement
import JvmDerived.Pilot.@@N@@Code
set_option linter.unusedVariables false
set_option linter.unusedSimpArgs false
namespace Jvm.RoadKit
open Sem ClassFile Op Lib Jvm.Stand Jvm.Free Jvm.LawKit
section New
variable {p : Program} {l : Launch} {e : Env} {R : Room} {s : State} {m : MethodId} {args : Array Value} {below : List Frame} {meth : Method} {c : Code} {T : State} {locs : List Loc} {cells slots : Nat}
theorem retI (X : Stand p l e R s m args below meth c T locs cells slots) (hx : p.tables.exec = Jvm.exec) {pc : Nat} {Ls : Array Slot} {z : Int32} {rest : List Value} (hret : meth.sig.returnType = some .int) (hd : decode c.code pc = .ok (.ireturn, 1)) {fs : List Frame}
    (hl : ∀ (f : JFrame) (acts : List Action), f.method = m → f.locked = none → f.entered = [] → (doReturn e (T.setTop f) acts (some (.int z))).1 = T.setFrames fs) : Steps p.tables e below (T.setTop (mkF m pc Ls (.int z :: rest))) (T.setFrames fs) :=
  retOut X hx hret rfl (Or.inl ⟨rfl, Or.inl rfl, _, rfl⟩) hd hl
end New
end Jvm.RoadKit
namespace Jvm.Pilot.@@N@@
open Jvm Jvm.ClassFile Sem Op Lib Jvm.Free Jvm.Stand Jvm.LawKit Jvm.RoadKit Bundle Jvm.Pilot.@@N@@.Jvm.D
theorem d1_0 : decode method_2_code 0 = .ok (.iload_n 0, 1) := by decide +kernel
theorem d1_1 : decode method_2_code 1 = .ok (.ldc 7, 2) := by decide +kernel
theorem d1_3 : decode method_2_code 3 = .ok (.iand, 1) := by decide +kernel
theorem d1_4 : decode method_2_code 4 = .ok (.iconst 5, 1) := by decide +kernel
theorem d1_5 : decode method_2_code 5 = .ok (.irem, 1) := by decide +kernel
theorem d1_6 : decode method_2_code 6 = .ok (.istore_n 1, 1) := by decide +kernel
theorem d1_7 : decode method_2_code 7 = .ok (.iload_n 1, 1) := by decide +kernel
theorem d1_8 : decode method_2_code 8 = .ok (.ifCond .ne 7, 3) := by decide +kernel
theorem d1_11 : decode method_2_code 11 = .ok (.getstatic 8, 3) := by decide +kernel
theorem d1_14 : decode method_2_code 14 = .ok (.areturn, 1) := by decide +kernel
theorem d1_15 : decode method_2_code 15 = .ok (.iload_n 1, 1) := by decide +kernel
theorem d1_16 : decode method_2_code 16 = .ok (.iconst 1, 1) := by decide +kernel
theorem d1_17 : decode method_2_code 17 = .ok (.if_icmp .ne 7, 3) := by decide +kernel
theorem d1_20 : decode method_2_code 20 = .ok (.getstatic 14, 3) := by decide +kernel
theorem d1_23 : decode method_2_code 23 = .ok (.areturn, 1) := by decide +kernel
theorem d1_24 : decode method_2_code 24 = .ok (.iload_n 1, 1) := by decide +kernel
theorem d1_25 : decode method_2_code 25 = .ok (.iconst 2, 1) := by decide +kernel
theorem d1_26 : decode method_2_code 26 = .ok (.if_icmp .ne 7, 3) := by decide +kernel
theorem d1_29 : decode method_2_code 29 = .ok (.getstatic 17, 3) := by decide +kernel
theorem d1_32 : decode method_2_code 32 = .ok (.areturn, 1) := by decide +kernel
theorem d1_33 : decode method_2_code 33 = .ok (.iload_n 1, 1) := by decide +kernel
theorem d1_34 : decode method_2_code 34 = .ok (.iconst 3, 1) := by decide +kernel
theorem d1_35 : decode method_2_code 35 = .ok (.if_icmp .ne 7, 3) := by decide +kernel
theorem d1_38 : decode method_2_code 38 = .ok (.getstatic 20, 3) := by decide +kernel
theorem d1_41 : decode method_2_code 41 = .ok (.areturn, 1) := by decide +kernel
theorem d1_42 : decode method_2_code 42 = .ok (.getstatic 23, 3) := by decide +kernel
theorem d1_45 : decode method_2_code 45 = .ok (.areturn, 1) := by decide +kernel
theorem pn_0 : plainName "com/example/ruffwork/ruffwork/ContractSlamBonusPinLaw" = true := by first | (simp [plainName, overriddenIn]; done) | decide +kernel
theorem ef_rm1 (m : MethodId) (x0 : Int32) : entryFrame m #[(.int x0)] 2 = mkF m 0 #[.val (.int x0), .unset] [] := by first | (simp [entryFrame, mkF, argsToLocals, Value.category]; done) | rfl
def strainF (p1 : Int32) (w_CLUBS : Addr) (w_DIAMONDS : Addr) (w_HEARTS : Addr) (w_SPADES : Addr) (w_NO_TRUMP : Addr) : Addr :=
  if ((p1 &&& (2147483647 : Int32)) % (5 : Int32)) = (0 : Int32) then w_CLUBS
  else if ((p1 &&& (2147483647 : Int32)) % (5 : Int32)) = (1 : Int32) then w_DIAMONDS
    else if ((p1 &&& (2147483647 : Int32)) % (5 : Int32)) = (2 : Int32) then w_HEARTS
      else if ((p1 &&& (2147483647 : Int32)) % (5 : Int32)) = (3 : Int32) then w_SPADES
        else w_NO_TRUMP
def Q1 (Z : State) (p1 : Int32) (w_CLUBS : Addr) (w_DIAMONDS : Addr) (w_HEARTS : Addr) (w_SPADES : Addr) (w_NO_TRUMP : Addr) (h0 : Heap) (n0 : Nat) (v : Option Value) (h : Heap) (L : List Loc) : Prop := v = some (.ref (strainF p1 w_CLUBS w_DIAMONDS w_HEARTS w_SPADES w_NO_TRUMP)) ∧ Fr n0 L ∧ h = h0
set_option maxRecDepth 65536 in
set_option maxHeartbeats 40000000 in
theorem rm1 (l : Launch) (Z : State) (a0 : Array Value) (hw : ∀ d ∈ tables_1, d.before a0 Z = true) (ws : List Jvm.Cond) (p1 : Int32) (w_CLUBS : Addr) (w_DIAMONDS : Addr) (w_HEARTS : Addr) (w_SPADES : Addr) (w_NO_TRUMP : Addr) (h0 : Heap) (n0 : Nat) (Z0 : n0 ≤ h0.size) (S_CLUBS : Sta Z h0 "com/example/ruffwork/ruffwork/Strain" "CLUBS" "Lcom/example/ruffwork/ruffwork/Strain;" (.ref w_CLUBS)) (S_DIAMONDS : Sta Z h0 "com/example/ruffwork/ruffwork/Strain" "DIAMONDS" "Lcom/example/ruffwork/ruffwork/Strain;" (.ref w_DIAMONDS)) (S_HEARTS : Sta Z h0 "com/example/ruffwork/ruffwork/Strain" "HEARTS" "Lcom/example/ruffwork/ruffwork/Strain;" (.ref w_HEARTS)) (S_SPADES : Sta Z h0 "com/example/ruffwork/ruffwork/Strain" "SPADES" "Lcom/example/ruffwork/ruffwork/Strain;" (.ref w_SPADES)) (S_NO_TRUMP : Sta Z h0 "com/example/ruffwork/ruffwork/Strain" "NO_TRUMP" "Lcom/example/ruffwork/ruffwork/Strain;" (.ref w_NO_TRUMP)) :
    MetFree l (⟨"com/example/ruffwork/ruffwork/ContractSlamBonusPinLaw", "strainOf", "(I)Lcom/example/ruffwork/ruffwork/Strain;"⟩ : MethodName) (head1 (Jvm.Cond.code (⟨"com/example/ruffwork/ruffwork/ContractSlamBonusPinLaw", "strainOf", "(I)Lcom/example/ruffwork/ruffwork/Strain;"⟩ : MethodName) method_2_code 2 (some (.object "com/example/ruffwork/ruffwork/Strain")) :: ws) ({ frames := 0, cells := 0, slots := 0, locals := 0 } : Room)) (fun a U => a = #[(.int p1)] ∧ Z.Warmed39 U.vm ∧ U.heap = h0) (fun _ _ _ _ _ => True) (fun _ U o U' => ∃ v L, o = .returned v ∧ Q1 Z p1 w_CLUBS w_DIAMONDS w_HEARTS w_SPADES w_NO_TRUMP h0 n0 v U'.heap L ∧ FrameEnd U o U' L ({ frames := 0, cells := 0, slots := 0, locals := 0 } : Room).cells ({ frames := 0, cells := 0, slots := 0, locals := 0 } : Room).slots) := by
  refine MetFree.of_bodySF (plainFor_of_name pn_0) hisR ?_
  intro p e s m args below meth c s₁ Bd hml0 hP hK
  obtain ⟨rfl, hZ, hh⟩ := hP
  have hx := Bd.exec
  have hby := Bd.bytes
  have hml : c.maxLocals = 2 := hml0
  have hown : s.vm.findClass "com/example/ruffwork/ruffwork/ContractSlamBonusPinLaw" = some m.cls := findClass_of_methodNamed Bd.named
  have hnm := (name_of_methodNamed Bd.named Bd.method).1
  have X0 : Stand p l e ({ frames := 0, cells := 0, slots := 0, locals := 0 } : Room) s m #[(.int p1)] below meth c s₁ [] 0 0 := Stand.of_body Bd
  have e0 : s₁.heap = h0 := by rw [← hh, Bd.state]; rfl
  have N0 := Fr.nil n0
  have pre0 : ∀ t, Steps p.tables e below (s₁.setTop (mkF m 0 #[.val (.int p1), .unset] [])) t → Steps p.tables e below (s₁.setTop (entryFrame m #[(.int p1)] 2)) t := fun t k => castTop (ef_rm1 m p1) k
  have pre1 : ∀ t, Steps p.tables e below (s₁.setTop (mkF m 8 #[.val (.int p1), .val (.int ((p1 &&& (2147483647 : Int32)) % (5 : Int32)))] [(.int ((p1 &&& (2147483647 : Int32)) % (5 : Int32)))])) t → Steps p.tables e below (s₁.setTop (entryFrame m #[(.int p1)] 2)) t := by
    intro t kt
    refine pre0 t ?_
    show Steps p.tables e below (s₁.setTop (mkF m 0 #[.val (.int p1), .unset] [])) _
    refine XS.iloadN X0.here hx rfl (hb hby d1_0) rfl ?_
    show Steps p.tables e below (s₁.setTop (mkF m 1 #[.val (.int p1), .unset] [(.int p1)])) _
    refine X0.ldcInt hx hown (mvT hZ (hw _ (List.mem_of_getElem? (i := 0) rfl))) (g := (mkF m 1 #[.val (.int p1), .unset] [(.int p1)])) rfl (hb hby d1_1) _ ?_
    show Steps p.tables e below (s₁.setTop (mkF m 3 #[.val (.int p1), .unset] [(.int (2147483647 : Int32)), (.int p1)])) _
    refine XS.iand X0.here hx rfl (hb hby d1_3) rfl ?_
    show Steps p.tables e below (s₁.setTop (mkF m 4 #[.val (.int p1), .unset] [(.int (p1 &&& (2147483647 : Int32)))])) _
    refine XS.iconst X0.here hx rfl (hb hby d1_4) ?_
    show Steps p.tables e below (s₁.setTop (mkF m 5 #[.val (.int p1), .unset] [(.int (5 : Int32)), (.int (p1 &&& (2147483647 : Int32)))])) _
    refine iremM X0 hx rfl (hb hby d1_5) rfl (by decide) ?_
    show Steps p.tables e below (s₁.setTop (mkF m 6 #[.val (.int p1), .unset] [(.int ((p1 &&& (2147483647 : Int32)) % (5 : Int32)))])) _
    refine XS.istoreN X0.here hx rfl (hb hby d1_6) rfl (l' := #[.val (.int p1), .val (.int ((p1 &&& (2147483647 : Int32)) % (5 : Int32)))]) rfl ?_
    show Steps p.tables e below (s₁.setTop (mkF m 7 #[.val (.int p1), .val (.int ((p1 &&& (2147483647 : Int32)) % (5 : Int32)))] [])) _
    refine XS.iloadN X0.here hx rfl (hb hby d1_7) rfl ?_
    show Steps p.tables e below (s₁.setTop (mkF m 8 #[.val (.int p1), .val (.int ((p1 &&& (2147483647 : Int32)) % (5 : Int32)))] [(.int ((p1 &&& (2147483647 : Int32)) % (5 : Int32)))])) _
    exact kt
  by_cases hc8_2 : ((p1 &&& (2147483647 : Int32)) % (5 : Int32)) = (0 : Int32)
  · obtain ⟨T3, X3, e3, st3⟩ := getS2 X0 hx hZ hown (host := "") (Or.inl (hw _ (List.mem_of_getElem? (i := 60) rfl))) Via.refl e0 S_CLUBS (g := (mkF m 11 #[.val (.int p1), .val (.int ((p1 &&& (2147483647 : Int32)) % (5 : Int32)))] [])) rfl (hb hby d1_11)
    obtain ⟨fs, hr, hrun, hended, hW, hsame⟩ := X3.leave (v := some (.ref w_CLUBS)) (fun h => by rw [Bd.returns] at h; cases h)
    refine ⟨_, _, pre1 _ ?_, hrun, hended, _, _, rfl, ?_, ⟨_, rfl⟩, hW, hsame.mono (by decide) (by decide)⟩
    · show Steps p.tables e below (s₁.setTop (mkF m 8 #[.val (.int p1), .val (.int ((p1 &&& (2147483647 : Int32)) % (5 : Int32)))] [(.int ((p1 &&& (2147483647 : Int32)) % (5 : Int32)))])) _
      refine XS.ifNo X0.here hx rfl (hb hby d1_8) rfl ((if0 _ _).trans (teq hc8_2).2) ?_
      show Steps p.tables e below (s₁.setTop (mkF m 11 #[.val (.int p1), .val (.int ((p1 &&& (2147483647 : Int32)) % (5 : Int32)))] [])) _
      refine st3 _ ?_
      show Steps p.tables e below (T3.setTop (mkF m 14 #[.val (.int p1), .val (.int ((p1 &&& (2147483647 : Int32)) % (5 : Int32)))] [(.ref w_CLUBS)])) _
      exact retOut X3 hx Bd.returns rfl (Or.inr (Or.inr (Or.inr (Or.inr ⟨rfl, rfl, rfl⟩)))) (hb hby d1_14) hr
    · show Q1 Z p1 w_CLUBS w_DIAMONDS w_HEARTS w_SPADES w_NO_TRUMP h0 n0 _ T3.heap _
      rw [e3]
      refine ⟨?_, N0, rfl⟩
      show (some (.ref w_CLUBS) : Option Value) = some (.ref (strainF p1 w_CLUBS w_DIAMONDS w_HEARTS w_SPADES w_NO_TRUMP))
      rw [show (strainF p1 w_CLUBS w_DIAMONDS w_HEARTS w_SPADES w_NO_TRUMP) = w_CLUBS from by unfold strainF; rw [if_pos hc8_2]]
  · have pre5 : ∀ t, Steps p.tables e below (s₁.setTop (mkF m 17 #[.val (.int p1), .val (.int ((p1 &&& (2147483647 : Int32)) % (5 : Int32)))] [(.int (1 : Int32)), (.int ((p1 &&& (2147483647 : Int32)) % (5 : Int32)))])) t → Steps p.tables e below (s₁.setTop (entryFrame m #[(.int p1)] 2)) t := by
      intro t kt
      refine pre1 t ?_
      show Steps p.tables e below (s₁.setTop (mkF m 8 #[.val (.int p1), .val (.int ((p1 &&& (2147483647 : Int32)) % (5 : Int32)))] [(.int ((p1 &&& (2147483647 : Int32)) % (5 : Int32)))])) _
      refine XS.ifYes X0.here hx rfl (pc0 := 8) (pc' := 15) rfl (hb hby d1_8) rfl ((if0 _ _).trans (feq hc8_2).2) (by decide) (by decide) ?_
      show Steps p.tables e below (s₁.setTop (mkF m 15 #[.val (.int p1), .val (.int ((p1 &&& (2147483647 : Int32)) % (5 : Int32)))] [])) _
      refine XS.iloadN X0.here hx rfl (hb hby d1_15) rfl ?_
      show Steps p.tables e below (s₁.setTop (mkF m 16 #[.val (.int p1), .val (.int ((p1 &&& (2147483647 : Int32)) % (5 : Int32)))] [(.int ((p1 &&& (2147483647 : Int32)) % (5 : Int32)))])) _
      refine XS.iconst X0.here hx rfl (hb hby d1_16) ?_
      show Steps p.tables e below (s₁.setTop (mkF m 17 #[.val (.int p1), .val (.int ((p1 &&& (2147483647 : Int32)) % (5 : Int32)))] [(.int (1 : Int32)), (.int ((p1 &&& (2147483647 : Int32)) % (5 : Int32)))])) _
      exact kt
    by_cases hc17_6 : ((p1 &&& (2147483647 : Int32)) % (5 : Int32)) = (1 : Int32)
    · obtain ⟨T7, X7, e7, st7⟩ := getS2 X0 hx hZ hown (host := "") (Or.inl (hw _ (List.mem_of_getElem? (i := 62) rfl))) Via.refl e0 S_DIAMONDS (g := (mkF m 20 #[.val (.int p1), .val (.int ((p1 &&& (2147483647 : Int32)) % (5 : Int32)))] [])) rfl (hb hby d1_20)
      obtain ⟨fs, hr, hrun, hended, hW, hsame⟩ := X7.leave (v := some (.ref w_DIAMONDS)) (fun h => by rw [Bd.returns] at h; cases h)
      refine ⟨_, _, pre5 _ ?_, hrun, hended, _, _, rfl, ?_, ⟨_, rfl⟩, hW, hsame.mono (by decide) (by decide)⟩
      · show Steps p.tables e below (s₁.setTop (mkF m 17 #[.val (.int p1), .val (.int ((p1 &&& (2147483647 : Int32)) % (5 : Int32)))] [(.int (1 : Int32)), (.int ((p1 &&& (2147483647 : Int32)) % (5 : Int32)))])) _
        refine XS.icmpNo X0.here hx rfl (hb hby d1_17) rfl (teq hc17_6).2 ?_
        show Steps p.tables e below (s₁.setTop (mkF m 20 #[.val (.int p1), .val (.int ((p1 &&& (2147483647 : Int32)) % (5 : Int32)))] [])) _
        refine st7 _ ?_
        show Steps p.tables e below (T7.setTop (mkF m 23 #[.val (.int p1), .val (.int ((p1 &&& (2147483647 : Int32)) % (5 : Int32)))] [(.ref w_DIAMONDS)])) _
        exact retOut X7 hx Bd.returns rfl (Or.inr (Or.inr (Or.inr (Or.inr ⟨rfl, rfl, rfl⟩)))) (hb hby d1_23) hr
      · show Q1 Z p1 w_CLUBS w_DIAMONDS w_HEARTS w_SPADES w_NO_TRUMP h0 n0 _ T7.heap _
        rw [e7]
        refine ⟨?_, N0, rfl⟩
        show (some (.ref w_DIAMONDS) : Option Value) = some (.ref (strainF p1 w_CLUBS w_DIAMONDS w_HEARTS w_SPADES w_NO_TRUMP))
        rw [show (strainF p1 w_CLUBS w_DIAMONDS w_HEARTS w_SPADES w_NO_TRUMP) = w_DIAMONDS from by unfold strainF; rw [if_neg hc8_2, if_pos hc17_6]]
    · have pre9 : ∀ t, Steps p.tables e below (s₁.setTop (mkF m 26 #[.val (.int p1), .val (.int ((p1 &&& (2147483647 : Int32)) % (5 : Int32)))] [(.int (2 : Int32)), (.int ((p1 &&& (2147483647 : Int32)) % (5 : Int32)))])) t → Steps p.tables e below (s₁.setTop (entryFrame m #[(.int p1)] 2)) t := by
        intro t kt
        refine pre5 t ?_
        show Steps p.tables e below (s₁.setTop (mkF m 17 #[.val (.int p1), .val (.int ((p1 &&& (2147483647 : Int32)) % (5 : Int32)))] [(.int (1 : Int32)), (.int ((p1 &&& (2147483647 : Int32)) % (5 : Int32)))])) _
        refine XS.icmpYes X0.here hx rfl (pc0 := 17) (pc' := 24) rfl (hb hby d1_17) rfl (feq hc17_6).2 (by decide) (by decide) ?_
        show Steps p.tables e below (s₁.setTop (mkF m 24 #[.val (.int p1), .val (.int ((p1 &&& (2147483647 : Int32)) % (5 : Int32)))] [])) _
        refine XS.iloadN X0.here hx rfl (hb hby d1_24) rfl ?_
        show Steps p.tables e below (s₁.setTop (mkF m 25 #[.val (.int p1), .val (.int ((p1 &&& (2147483647 : Int32)) % (5 : Int32)))] [(.int ((p1 &&& (2147483647 : Int32)) % (5 : Int32)))])) _
        refine XS.iconst X0.here hx rfl (hb hby d1_25) ?_
        show Steps p.tables e below (s₁.setTop (mkF m 26 #[.val (.int p1), .val (.int ((p1 &&& (2147483647 : Int32)) % (5 : Int32)))] [(.int (2 : Int32)), (.int ((p1 &&& (2147483647 : Int32)) % (5 : Int32)))])) _
        exact kt
      by_cases hc26_10 : ((p1 &&& (2147483647 : Int32)) % (5 : Int32)) = (2 : Int32)
      · obtain ⟨T11, X11, e11, st11⟩ := getS2 X0 hx hZ hown (host := "") (Or.inl (hw _ (List.mem_of_getElem? (i := 66) rfl))) Via.refl e0 S_HEARTS (g := (mkF m 29 #[.val (.int p1), .val (.int ((p1 &&& (2147483647 : Int32)) % (5 : Int32)))] [])) rfl (hb hby d1_29)
        obtain ⟨fs, hr, hrun, hended, hW, hsame⟩ := X11.leave (v := some (.ref w_HEARTS)) (fun h => by rw [Bd.returns] at h; cases h)
        refine ⟨_, _, pre9 _ ?_, hrun, hended, _, _, rfl, ?_, ⟨_, rfl⟩, hW, hsame.mono (by decide) (by decide)⟩
        · show Steps p.tables e below (s₁.setTop (mkF m 26 #[.val (.int p1), .val (.int ((p1 &&& (2147483647 : Int32)) % (5 : Int32)))] [(.int (2 : Int32)), (.int ((p1 &&& (2147483647 : Int32)) % (5 : Int32)))])) _
          refine XS.icmpNo X0.here hx rfl (hb hby d1_26) rfl (teq hc26_10).2 ?_
          show Steps p.tables e below (s₁.setTop (mkF m 29 #[.val (.int p1), .val (.int ((p1 &&& (2147483647 : Int32)) % (5 : Int32)))] [])) _
          refine st11 _ ?_
          show Steps p.tables e below (T11.setTop (mkF m 32 #[.val (.int p1), .val (.int ((p1 &&& (2147483647 : Int32)) % (5 : Int32)))] [(.ref w_HEARTS)])) _
          exact retOut X11 hx Bd.returns rfl (Or.inr (Or.inr (Or.inr (Or.inr ⟨rfl, rfl, rfl⟩)))) (hb hby d1_32) hr
        · show Q1 Z p1 w_CLUBS w_DIAMONDS w_HEARTS w_SPADES w_NO_TRUMP h0 n0 _ T11.heap _
          rw [e11]
          refine ⟨?_, N0, rfl⟩
          show (some (.ref w_HEARTS) : Option Value) = some (.ref (strainF p1 w_CLUBS w_DIAMONDS w_HEARTS w_SPADES w_NO_TRUMP))
          rw [show (strainF p1 w_CLUBS w_DIAMONDS w_HEARTS w_SPADES w_NO_TRUMP) = w_HEARTS from by unfold strainF; rw [if_neg hc8_2, if_neg hc17_6, if_pos hc26_10]]
      · have pre13 : ∀ t, Steps p.tables e below (s₁.setTop (mkF m 35 #[.val (.int p1), .val (.int ((p1 &&& (2147483647 : Int32)) % (5 : Int32)))] [(.int (3 : Int32)), (.int ((p1 &&& (2147483647 : Int32)) % (5 : Int32)))])) t → Steps p.tables e below (s₁.setTop (entryFrame m #[(.int p1)] 2)) t := by
          intro t kt
          refine pre9 t ?_
          show Steps p.tables e below (s₁.setTop (mkF m 26 #[.val (.int p1), .val (.int ((p1 &&& (2147483647 : Int32)) % (5 : Int32)))] [(.int (2 : Int32)), (.int ((p1 &&& (2147483647 : Int32)) % (5 : Int32)))])) _
          refine XS.icmpYes X0.here hx rfl (pc0 := 26) (pc' := 33) rfl (hb hby d1_26) rfl (feq hc26_10).2 (by decide) (by decide) ?_
          show Steps p.tables e below (s₁.setTop (mkF m 33 #[.val (.int p1), .val (.int ((p1 &&& (2147483647 : Int32)) % (5 : Int32)))] [])) _
          refine XS.iloadN X0.here hx rfl (hb hby d1_33) rfl ?_
          show Steps p.tables e below (s₁.setTop (mkF m 34 #[.val (.int p1), .val (.int ((p1 &&& (2147483647 : Int32)) % (5 : Int32)))] [(.int ((p1 &&& (2147483647 : Int32)) % (5 : Int32)))])) _
          refine XS.iconst X0.here hx rfl (hb hby d1_34) ?_
          show Steps p.tables e below (s₁.setTop (mkF m 35 #[.val (.int p1), .val (.int ((p1 &&& (2147483647 : Int32)) % (5 : Int32)))] [(.int (3 : Int32)), (.int ((p1 &&& (2147483647 : Int32)) % (5 : Int32)))])) _
          exact kt
        by_cases hc35_14 : ((p1 &&& (2147483647 : Int32)) % (5 : Int32)) = (3 : Int32)
        · obtain ⟨T15, X15, e15, st15⟩ := getS2 X0 hx hZ hown (host := "") (Or.inl (hw _ (List.mem_of_getElem? (i := 8) rfl))) Via.refl e0 S_SPADES (g := (mkF m 38 #[.val (.int p1), .val (.int ((p1 &&& (2147483647 : Int32)) % (5 : Int32)))] [])) rfl (hb hby d1_38)
          obtain ⟨fs, hr, hrun, hended, hW, hsame⟩ := X15.leave (v := some (.ref w_SPADES)) (fun h => by rw [Bd.returns] at h; cases h)
          refine ⟨_, _, pre13 _ ?_, hrun, hended, _, _, rfl, ?_, ⟨_, rfl⟩, hW, hsame.mono (by decide) (by decide)⟩
          · show Steps p.tables e below (s₁.setTop (mkF m 35 #[.val (.int p1), .val (.int ((p1 &&& (2147483647 : Int32)) % (5 : Int32)))] [(.int (3 : Int32)), (.int ((p1 &&& (2147483647 : Int32)) % (5 : Int32)))])) _
            refine XS.icmpNo X0.here hx rfl (hb hby d1_35) rfl (teq hc35_14).2 ?_
            show Steps p.tables e below (s₁.setTop (mkF m 38 #[.val (.int p1), .val (.int ((p1 &&& (2147483647 : Int32)) % (5 : Int32)))] [])) _
            refine st15 _ ?_
            show Steps p.tables e below (T15.setTop (mkF m 41 #[.val (.int p1), .val (.int ((p1 &&& (2147483647 : Int32)) % (5 : Int32)))] [(.ref w_SPADES)])) _
            exact retOut X15 hx Bd.returns rfl (Or.inr (Or.inr (Or.inr (Or.inr ⟨rfl, rfl, rfl⟩)))) (hb hby d1_41) hr
          · show Q1 Z p1 w_CLUBS w_DIAMONDS w_HEARTS w_SPADES w_NO_TRUMP h0 n0 _ T15.heap _
            rw [e15]
            refine ⟨?_, N0, rfl⟩
            show (some (.ref w_SPADES) : Option Value) = some (.ref (strainF p1 w_CLUBS w_DIAMONDS w_HEARTS w_SPADES w_NO_TRUMP))
            rw [show (strainF p1 w_CLUBS w_DIAMONDS w_HEARTS w_SPADES w_NO_TRUMP) = w_SPADES from by unfold strainF; rw [if_neg hc8_2, if_neg hc17_6, if_neg hc26_10, if_pos hc35_14]]
        · obtain ⟨T17, X17, e17, st17⟩ := getS2 X0 hx hZ hown (host := "") (Or.inl (hw _ (List.mem_of_getElem? (i := 58) rfl))) Via.refl e0 S_NO_TRUMP (g := (mkF m 42 #[.val (.int p1), .val (.int ((p1 &&& (2147483647 : Int32)) % (5 : Int32)))] [])) rfl (hb hby d1_42)
          obtain ⟨fs, hr, hrun, hended, hW, hsame⟩ := X17.leave (v := some (.ref w_NO_TRUMP)) (fun h => by rw [Bd.returns] at h; cases h)
          refine ⟨_, _, pre13 _ ?_, hrun, hended, _, _, rfl, ?_, ⟨_, rfl⟩, hW, hsame.mono (by decide) (by decide)⟩
          · show Steps p.tables e below (s₁.setTop (mkF m 35 #[.val (.int p1), .val (.int ((p1 &&& (2147483647 : Int32)) % (5 : Int32)))] [(.int (3 : Int32)), (.int ((p1 &&& (2147483647 : Int32)) % (5 : Int32)))])) _
            refine XS.icmpYes X0.here hx rfl (pc0 := 35) (pc' := 42) rfl (hb hby d1_35) rfl (feq hc35_14).2 (by decide) (by decide) ?_
            show Steps p.tables e below (s₁.setTop (mkF m 42 #[.val (.int p1), .val (.int ((p1 &&& (2147483647 : Int32)) % (5 : Int32)))] [])) _
            refine st17 _ ?_
            show Steps p.tables e below (T17.setTop (mkF m 45 #[.val (.int p1), .val (.int ((p1 &&& (2147483647 : Int32)) % (5 : Int32)))] [(.ref w_NO_TRUMP)])) _
            exact retOut X17 hx Bd.returns rfl (Or.inr (Or.inr (Or.inr (Or.inr ⟨rfl, rfl, rfl⟩)))) (hb hby d1_45) hr
          · show Q1 Z p1 w_CLUBS w_DIAMONDS w_HEARTS w_SPADES w_NO_TRUMP h0 n0 _ T17.heap _
            rw [e17]
            refine ⟨?_, N0, rfl⟩
            show (some (.ref w_NO_TRUMP) : Option Value) = some (.ref (strainF p1 w_CLUBS w_DIAMONDS w_HEARTS w_SPADES w_NO_TRUMP))
            rw [show (strainF p1 w_CLUBS w_DIAMONDS w_HEARTS w_SPADES w_NO_TRUMP) = w_NO_TRUMP from by unfold strainF; rw [if_neg hc8_2, if_neg hc17_6, if_neg hc26_10, if_neg hc35_14]]
theorem d2_0 : decode method_3_code 0 = .ok (.iload_n 0, 1) := by decide +kernel
theorem d2_1 : decode method_3_code 1 = .ok (.ldc 7, 2) := by decide +kernel
theorem d2_3 : decode method_3_code 3 = .ok (.iand, 1) := by decide +kernel
theorem d2_4 : decode method_3_code 4 = .ok (.iconst 3, 1) := by decide +kernel
theorem d2_5 : decode method_3_code 5 = .ok (.irem, 1) := by decide +kernel
theorem d2_6 : decode method_3_code 6 = .ok (.istore_n 1, 1) := by decide +kernel
theorem d2_7 : decode method_3_code 7 = .ok (.iload_n 1, 1) := by decide +kernel
theorem d2_8 : decode method_3_code 8 = .ok (.ifCond .ne 7, 3) := by decide +kernel
theorem d2_11 : decode method_3_code 11 = .ok (.getstatic 26, 3) := by decide +kernel
theorem d2_14 : decode method_3_code 14 = .ok (.areturn, 1) := by decide +kernel
theorem d2_15 : decode method_3_code 15 = .ok (.iload_n 1, 1) := by decide +kernel
theorem d2_16 : decode method_3_code 16 = .ok (.iconst 1, 1) := by decide +kernel
theorem d2_17 : decode method_3_code 17 = .ok (.if_icmp .ne 7, 3) := by decide +kernel
theorem d2_20 : decode method_3_code 20 = .ok (.getstatic 32, 3) := by decide +kernel
theorem d2_23 : decode method_3_code 23 = .ok (.areturn, 1) := by decide +kernel
theorem d2_24 : decode method_3_code 24 = .ok (.getstatic 35, 3) := by decide +kernel
theorem d2_27 : decode method_3_code 27 = .ok (.areturn, 1) := by decide +kernel
theorem ef_rm2 (m : MethodId) (x0 : Int32) : entryFrame m #[(.int x0)] 2 = mkF m 0 #[.val (.int x0), .unset] [] := by first | (simp [entryFrame, mkF, argsToLocals, Value.category]; done) | rfl
def doublF (p1 : Int32) (w_UNDOUBLED : Addr) (w_DOUBLED : Addr) (w_REDOUBLED : Addr) : Addr :=
  if ((p1 &&& (2147483647 : Int32)) % (3 : Int32)) = (0 : Int32) then w_UNDOUBLED
  else if ((p1 &&& (2147483647 : Int32)) % (3 : Int32)) = (1 : Int32) then w_DOUBLED
    else w_REDOUBLED
def Q2 (Z : State) (p1 : Int32) (w_UNDOUBLED : Addr) (w_DOUBLED : Addr) (w_REDOUBLED : Addr) (h0 : Heap) (n0 : Nat) (v : Option Value) (h : Heap) (L : List Loc) : Prop := v = some (.ref (doublF p1 w_UNDOUBLED w_DOUBLED w_REDOUBLED)) ∧ Fr n0 L ∧ h = h0
set_option maxRecDepth 65536 in
set_option maxHeartbeats 40000000 in
theorem rm2 (l : Launch) (Z : State) (a0 : Array Value) (hw : ∀ d ∈ tables_1, d.before a0 Z = true) (ws : List Jvm.Cond) (p1 : Int32) (w_UNDOUBLED : Addr) (w_DOUBLED : Addr) (w_REDOUBLED : Addr) (h0 : Heap) (n0 : Nat) (Z0 : n0 ≤ h0.size) (S_UNDOUBLED : Sta Z h0 "com/example/ruffwork/ruffwork/Doubling" "UNDOUBLED" "Lcom/example/ruffwork/ruffwork/Doubling;" (.ref w_UNDOUBLED)) (S_DOUBLED : Sta Z h0 "com/example/ruffwork/ruffwork/Doubling" "DOUBLED" "Lcom/example/ruffwork/ruffwork/Doubling;" (.ref w_DOUBLED)) (S_REDOUBLED : Sta Z h0 "com/example/ruffwork/ruffwork/Doubling" "REDOUBLED" "Lcom/example/ruffwork/ruffwork/Doubling;" (.ref w_REDOUBLED)) :
    MetFree l (⟨"com/example/ruffwork/ruffwork/ContractSlamBonusPinLaw", "doublingOf", "(I)Lcom/example/ruffwork/ruffwork/Doubling;"⟩ : MethodName) (head1 (Jvm.Cond.code (⟨"com/example/ruffwork/ruffwork/ContractSlamBonusPinLaw", "doublingOf", "(I)Lcom/example/ruffwork/ruffwork/Doubling;"⟩ : MethodName) method_3_code 2 (some (.object "com/example/ruffwork/ruffwork/Doubling")) :: ws) ({ frames := 0, cells := 0, slots := 0, locals := 0 } : Room)) (fun a U => a = #[(.int p1)] ∧ Z.Warmed39 U.vm ∧ U.heap = h0) (fun _ _ _ _ _ => True) (fun _ U o U' => ∃ v L, o = .returned v ∧ Q2 Z p1 w_UNDOUBLED w_DOUBLED w_REDOUBLED h0 n0 v U'.heap L ∧ FrameEnd U o U' L ({ frames := 0, cells := 0, slots := 0, locals := 0 } : Room).cells ({ frames := 0, cells := 0, slots := 0, locals := 0 } : Room).slots) := by
  refine MetFree.of_bodySF (plainFor_of_name pn_0) hisR ?_
  intro p e s m args below meth c s₁ Bd hml0 hP hK
  obtain ⟨rfl, hZ, hh⟩ := hP
  have hx := Bd.exec
  have hby := Bd.bytes
  have hml : c.maxLocals = 2 := hml0
  have hown : s.vm.findClass "com/example/ruffwork/ruffwork/ContractSlamBonusPinLaw" = some m.cls := findClass_of_methodNamed Bd.named
  have hnm := (name_of_methodNamed Bd.named Bd.method).1
  have X0 : Stand p l e ({ frames := 0, cells := 0, slots := 0, locals := 0 } : Room) s m #[(.int p1)] below meth c s₁ [] 0 0 := Stand.of_body Bd
  have e0 : s₁.heap = h0 := by rw [← hh, Bd.state]; rfl
  have N0 := Fr.nil n0
  have pre0 : ∀ t, Steps p.tables e below (s₁.setTop (mkF m 0 #[.val (.int p1), .unset] [])) t → Steps p.tables e below (s₁.setTop (entryFrame m #[(.int p1)] 2)) t := fun t k => castTop (ef_rm2 m p1) k
  have pre1 : ∀ t, Steps p.tables e below (s₁.setTop (mkF m 8 #[.val (.int p1), .val (.int ((p1 &&& (2147483647 : Int32)) % (3 : Int32)))] [(.int ((p1 &&& (2147483647 : Int32)) % (3 : Int32)))])) t → Steps p.tables e below (s₁.setTop (entryFrame m #[(.int p1)] 2)) t := by
    intro t kt
    refine pre0 t ?_
    show Steps p.tables e below (s₁.setTop (mkF m 0 #[.val (.int p1), .unset] [])) _
    refine XS.iloadN X0.here hx rfl (hb hby d2_0) rfl ?_
    show Steps p.tables e below (s₁.setTop (mkF m 1 #[.val (.int p1), .unset] [(.int p1)])) _
    refine X0.ldcInt hx hown (mvT hZ (hw _ (List.mem_of_getElem? (i := 0) rfl))) (g := (mkF m 1 #[.val (.int p1), .unset] [(.int p1)])) rfl (hb hby d2_1) _ ?_
    show Steps p.tables e below (s₁.setTop (mkF m 3 #[.val (.int p1), .unset] [(.int (2147483647 : Int32)), (.int p1)])) _
    refine XS.iand X0.here hx rfl (hb hby d2_3) rfl ?_
    show Steps p.tables e below (s₁.setTop (mkF m 4 #[.val (.int p1), .unset] [(.int (p1 &&& (2147483647 : Int32)))])) _
    refine XS.iconst X0.here hx rfl (hb hby d2_4) ?_
    show Steps p.tables e below (s₁.setTop (mkF m 5 #[.val (.int p1), .unset] [(.int (3 : Int32)), (.int (p1 &&& (2147483647 : Int32)))])) _
    refine iremM X0 hx rfl (hb hby d2_5) rfl (by decide) ?_
    show Steps p.tables e below (s₁.setTop (mkF m 6 #[.val (.int p1), .unset] [(.int ((p1 &&& (2147483647 : Int32)) % (3 : Int32)))])) _
    refine XS.istoreN X0.here hx rfl (hb hby d2_6) rfl (l' := #[.val (.int p1), .val (.int ((p1 &&& (2147483647 : Int32)) % (3 : Int32)))]) rfl ?_
    show Steps p.tables e below (s₁.setTop (mkF m 7 #[.val (.int p1), .val (.int ((p1 &&& (2147483647 : Int32)) % (3 : Int32)))] [])) _
    refine XS.iloadN X0.here hx rfl (hb hby d2_7) rfl ?_
    show Steps p.tables e below (s₁.setTop (mkF m 8 #[.val (.int p1), .val (.int ((p1 &&& (2147483647 : Int32)) % (3 : Int32)))] [(.int ((p1 &&& (2147483647 : Int32)) % (3 : Int32)))])) _
    exact kt
  by_cases hc8_2 : ((p1 &&& (2147483647 : Int32)) % (3 : Int32)) = (0 : Int32)
  · obtain ⟨T3, X3, e3, st3⟩ := getS2 X0 hx hZ hown (host := "") (Or.inl (hw _ (List.mem_of_getElem? (i := 64) rfl))) Via.refl e0 S_UNDOUBLED (g := (mkF m 11 #[.val (.int p1), .val (.int ((p1 &&& (2147483647 : Int32)) % (3 : Int32)))] [])) rfl (hb hby d2_11)
    obtain ⟨fs, hr, hrun, hended, hW, hsame⟩ := X3.leave (v := some (.ref w_UNDOUBLED)) (fun h => by rw [Bd.returns] at h; cases h)
    refine ⟨_, _, pre1 _ ?_, hrun, hended, _, _, rfl, ?_, ⟨_, rfl⟩, hW, hsame.mono (by decide) (by decide)⟩
    · show Steps p.tables e below (s₁.setTop (mkF m 8 #[.val (.int p1), .val (.int ((p1 &&& (2147483647 : Int32)) % (3 : Int32)))] [(.int ((p1 &&& (2147483647 : Int32)) % (3 : Int32)))])) _
      refine XS.ifNo X0.here hx rfl (hb hby d2_8) rfl ((if0 _ _).trans (teq hc8_2).2) ?_
      show Steps p.tables e below (s₁.setTop (mkF m 11 #[.val (.int p1), .val (.int ((p1 &&& (2147483647 : Int32)) % (3 : Int32)))] [])) _
      refine st3 _ ?_
      show Steps p.tables e below (T3.setTop (mkF m 14 #[.val (.int p1), .val (.int ((p1 &&& (2147483647 : Int32)) % (3 : Int32)))] [(.ref w_UNDOUBLED)])) _
      exact retOut X3 hx Bd.returns rfl (Or.inr (Or.inr (Or.inr (Or.inr ⟨rfl, rfl, rfl⟩)))) (hb hby d2_14) hr
    · show Q2 Z p1 w_UNDOUBLED w_DOUBLED w_REDOUBLED h0 n0 _ T3.heap _
      rw [e3]
      refine ⟨?_, N0, rfl⟩
      show (some (.ref w_UNDOUBLED) : Option Value) = some (.ref (doublF p1 w_UNDOUBLED w_DOUBLED w_REDOUBLED))
      rw [show (doublF p1 w_UNDOUBLED w_DOUBLED w_REDOUBLED) = w_UNDOUBLED from by unfold doublF; rw [if_pos hc8_2]]
  · have pre5 : ∀ t, Steps p.tables e below (s₁.setTop (mkF m 17 #[.val (.int p1), .val (.int ((p1 &&& (2147483647 : Int32)) % (3 : Int32)))] [(.int (1 : Int32)), (.int ((p1 &&& (2147483647 : Int32)) % (3 : Int32)))])) t → Steps p.tables e below (s₁.setTop (entryFrame m #[(.int p1)] 2)) t := by
      intro t kt
      refine pre1 t ?_
      show Steps p.tables e below (s₁.setTop (mkF m 8 #[.val (.int p1), .val (.int ((p1 &&& (2147483647 : Int32)) % (3 : Int32)))] [(.int ((p1 &&& (2147483647 : Int32)) % (3 : Int32)))])) _
      refine XS.ifYes X0.here hx rfl (pc0 := 8) (pc' := 15) rfl (hb hby d2_8) rfl ((if0 _ _).trans (feq hc8_2).2) (by decide) (by decide) ?_
      show Steps p.tables e below (s₁.setTop (mkF m 15 #[.val (.int p1), .val (.int ((p1 &&& (2147483647 : Int32)) % (3 : Int32)))] [])) _
      refine XS.iloadN X0.here hx rfl (hb hby d2_15) rfl ?_
      show Steps p.tables e below (s₁.setTop (mkF m 16 #[.val (.int p1), .val (.int ((p1 &&& (2147483647 : Int32)) % (3 : Int32)))] [(.int ((p1 &&& (2147483647 : Int32)) % (3 : Int32)))])) _
      refine XS.iconst X0.here hx rfl (hb hby d2_16) ?_
      show Steps p.tables e below (s₁.setTop (mkF m 17 #[.val (.int p1), .val (.int ((p1 &&& (2147483647 : Int32)) % (3 : Int32)))] [(.int (1 : Int32)), (.int ((p1 &&& (2147483647 : Int32)) % (3 : Int32)))])) _
      exact kt
    by_cases hc17_6 : ((p1 &&& (2147483647 : Int32)) % (3 : Int32)) = (1 : Int32)
    · obtain ⟨T7, X7, e7, st7⟩ := getS2 X0 hx hZ hown (host := "") (Or.inl (hw _ (List.mem_of_getElem? (i := 56) rfl))) Via.refl e0 S_DOUBLED (g := (mkF m 20 #[.val (.int p1), .val (.int ((p1 &&& (2147483647 : Int32)) % (3 : Int32)))] [])) rfl (hb hby d2_20)
      obtain ⟨fs, hr, hrun, hended, hW, hsame⟩ := X7.leave (v := some (.ref w_DOUBLED)) (fun h => by rw [Bd.returns] at h; cases h)
      refine ⟨_, _, pre5 _ ?_, hrun, hended, _, _, rfl, ?_, ⟨_, rfl⟩, hW, hsame.mono (by decide) (by decide)⟩
      · show Steps p.tables e below (s₁.setTop (mkF m 17 #[.val (.int p1), .val (.int ((p1 &&& (2147483647 : Int32)) % (3 : Int32)))] [(.int (1 : Int32)), (.int ((p1 &&& (2147483647 : Int32)) % (3 : Int32)))])) _
        refine XS.icmpNo X0.here hx rfl (hb hby d2_17) rfl (teq hc17_6).2 ?_
        show Steps p.tables e below (s₁.setTop (mkF m 20 #[.val (.int p1), .val (.int ((p1 &&& (2147483647 : Int32)) % (3 : Int32)))] [])) _
        refine st7 _ ?_
        show Steps p.tables e below (T7.setTop (mkF m 23 #[.val (.int p1), .val (.int ((p1 &&& (2147483647 : Int32)) % (3 : Int32)))] [(.ref w_DOUBLED)])) _
        exact retOut X7 hx Bd.returns rfl (Or.inr (Or.inr (Or.inr (Or.inr ⟨rfl, rfl, rfl⟩)))) (hb hby d2_23) hr
      · show Q2 Z p1 w_UNDOUBLED w_DOUBLED w_REDOUBLED h0 n0 _ T7.heap _
        rw [e7]
        refine ⟨?_, N0, rfl⟩
        show (some (.ref w_DOUBLED) : Option Value) = some (.ref (doublF p1 w_UNDOUBLED w_DOUBLED w_REDOUBLED))
        rw [show (doublF p1 w_UNDOUBLED w_DOUBLED w_REDOUBLED) = w_DOUBLED from by unfold doublF; rw [if_neg hc8_2, if_pos hc17_6]]
    · obtain ⟨T9, X9, e9, st9⟩ := getS2 X0 hx hZ hown (host := "") (Or.inl (hw _ (List.mem_of_getElem? (i := 14) rfl))) Via.refl e0 S_REDOUBLED (g := (mkF m 24 #[.val (.int p1), .val (.int ((p1 &&& (2147483647 : Int32)) % (3 : Int32)))] [])) rfl (hb hby d2_24)
      obtain ⟨fs, hr, hrun, hended, hW, hsame⟩ := X9.leave (v := some (.ref w_REDOUBLED)) (fun h => by rw [Bd.returns] at h; cases h)
      refine ⟨_, _, pre5 _ ?_, hrun, hended, _, _, rfl, ?_, ⟨_, rfl⟩, hW, hsame.mono (by decide) (by decide)⟩
      · show Steps p.tables e below (s₁.setTop (mkF m 17 #[.val (.int p1), .val (.int ((p1 &&& (2147483647 : Int32)) % (3 : Int32)))] [(.int (1 : Int32)), (.int ((p1 &&& (2147483647 : Int32)) % (3 : Int32)))])) _
        refine XS.icmpYes X0.here hx rfl (pc0 := 17) (pc' := 24) rfl (hb hby d2_17) rfl (feq hc17_6).2 (by decide) (by decide) ?_
        show Steps p.tables e below (s₁.setTop (mkF m 24 #[.val (.int p1), .val (.int ((p1 &&& (2147483647 : Int32)) % (3 : Int32)))] [])) _
        refine st9 _ ?_
        show Steps p.tables e below (T9.setTop (mkF m 27 #[.val (.int p1), .val (.int ((p1 &&& (2147483647 : Int32)) % (3 : Int32)))] [(.ref w_REDOUBLED)])) _
        exact retOut X9 hx Bd.returns rfl (Or.inr (Or.inr (Or.inr (Or.inr ⟨rfl, rfl, rfl⟩)))) (hb hby d2_27) hr
      · show Q2 Z p1 w_UNDOUBLED w_DOUBLED w_REDOUBLED h0 n0 _ T9.heap _
        rw [e9]
        refine ⟨?_, N0, rfl⟩
        show (some (.ref w_REDOUBLED) : Option Value) = some (.ref (doublF p1 w_UNDOUBLED w_DOUBLED w_REDOUBLED))
        rw [show (doublF p1 w_UNDOUBLED w_DOUBLED w_REDOUBLED) = w_REDOUBLED from by unfold doublF; rw [if_neg hc8_2, if_neg hc17_6]]
theorem d6_0 : decode prog_21_method_9_code 0 = .ok (.iload_n 0, 1) := by decide +kernel
theorem d6_1 : decode prog_21_method_9_code 1 = .ok (.iconst 1, 1) := by decide +kernel
theorem d6_2 : decode prog_21_method_9_code 2 = .ok (.if_icmp .lt 13, 3) := by decide +kernel
theorem d6_15 : decode prog_21_method_9_code 15 = .ok (.iconst 0, 1) := by decide +kernel
theorem d6_16 : decode prog_21_method_9_code 16 = .ok (.ireturn, 1) := by decide +kernel
theorem d6_5 : decode prog_21_method_9_code 5 = .ok (.iload_n 0, 1) := by decide +kernel
theorem d6_6 : decode prog_21_method_9_code 6 = .ok (.bipush 7, 2) := by decide +kernel
theorem d6_8 : decode prog_21_method_9_code 8 = .ok (.if_icmp .gt 7, 3) := by decide +kernel
theorem d6_11 : decode prog_21_method_9_code 11 = .ok (.iconst 1, 1) := by decide +kernel
theorem d6_12 : decode prog_21_method_9_code 12 = .ok (.goto 4, 3) := by decide +kernel
theorem pn_1 : plainName "com/example/ruffwork/ruffwork/Call" = true := by first | (simp [plainName, overriddenIn]; done) | decide +kernel
theorem ef_rm6 (m : MethodId) (x0 : Int32) : entryFrame m #[(.int x0)] 1 = mkF m 0 #[.val (.int x0)] [] := by first | (simp [entryFrame, mkF, argsToLocals, Value.category]; done) | rfl
def levelF (p1 : Int32) : Int32 :=
  if p1 < (1 : Int32) then (0 : Int32)
  else if (7 : Int32) < p1 then (0 : Int32)
    else (1 : Int32)
def Q6 (Z : State) (p1 : Int32) (h0 : Heap) (n0 : Nat) (v : Option Value) (h : Heap) (L : List Loc) : Prop := v = some (.int (levelF p1)) ∧ Fr n0 L ∧ h = h0
set_option maxRecDepth 65536 in
set_option maxHeartbeats 40000000 in
theorem rm6 (l : Launch) (Z : State) (a0 : Array Value) (hw : ∀ d ∈ tables_1, d.before a0 Z = true) (ws : List Jvm.Cond) (p1 : Int32) (h0 : Heap) (n0 : Nat) (Z0 : n0 ≤ h0.size) :
    MetFree l (⟨"com/example/ruffwork/ruffwork/Call", "isLevel", "(I)Z"⟩ : MethodName) (head1 (Jvm.Cond.code (⟨"com/example/ruffwork/ruffwork/Call", "isLevel", "(I)Z"⟩ : MethodName) prog_21_method_9_code 1 (some .boolean) :: ws) ({ frames := 0, cells := 0, slots := 0, locals := 0 } : Room)) (fun a U => a = #[(.int p1)] ∧ Z.Warmed39 U.vm ∧ U.heap = h0) (fun _ _ _ _ _ => True) (fun _ U o U' => ∃ v L, o = .returned v ∧ Q6 Z p1 h0 n0 v U'.heap L ∧ FrameEnd U o U' L ({ frames := 0, cells := 0, slots := 0, locals := 0 } : Room).cells ({ frames := 0, cells := 0, slots := 0, locals := 0 } : Room).slots) := by
  refine MetFree.of_bodySF (plainFor_of_name pn_1) hisR ?_
  intro p e s m args below meth c s₁ Bd hml0 hP hK
  obtain ⟨rfl, hZ, hh⟩ := hP
  have hx := Bd.exec
  have hby := Bd.bytes
  have hml : c.maxLocals = 1 := hml0
  have hown : s.vm.findClass "com/example/ruffwork/ruffwork/Call" = some m.cls := findClass_of_methodNamed Bd.named
  have hnm := (name_of_methodNamed Bd.named Bd.method).1
  have X0 : Stand p l e ({ frames := 0, cells := 0, slots := 0, locals := 0 } : Room) s m #[(.int p1)] below meth c s₁ [] 0 0 := Stand.of_body Bd
  have e0 : s₁.heap = h0 := by rw [← hh, Bd.state]; rfl
  have N0 := Fr.nil n0
  have pre0 : ∀ t, Steps p.tables e below (s₁.setTop (mkF m 0 #[.val (.int p1)] [])) t → Steps p.tables e below (s₁.setTop (entryFrame m #[(.int p1)] 1)) t := fun t k => castTop (ef_rm6 m p1) k
  have pre1 : ∀ t, Steps p.tables e below (s₁.setTop (mkF m 2 #[.val (.int p1)] [(.int (1 : Int32)), (.int p1)])) t → Steps p.tables e below (s₁.setTop (entryFrame m #[(.int p1)] 1)) t := by
    intro t kt
    refine pre0 t ?_
    show Steps p.tables e below (s₁.setTop (mkF m 0 #[.val (.int p1)] [])) _
    refine XS.iloadN X0.here hx rfl (hb hby d6_0) rfl ?_
    show Steps p.tables e below (s₁.setTop (mkF m 1 #[.val (.int p1)] [(.int p1)])) _
    refine XS.iconst X0.here hx rfl (hb hby d6_1) ?_
    show Steps p.tables e below (s₁.setTop (mkF m 2 #[.val (.int p1)] [(.int (1 : Int32)), (.int p1)])) _
    exact kt
  by_cases hc2_2 : p1 < (1 : Int32)
  · obtain ⟨fs, hr, hrun, hended, hW, hsame⟩ := X0.leave (v := some (.int (0 : Int32))) (fun h => by rw [Bd.returns] at h; cases h)
    refine ⟨_, _, pre1 _ ?_, hrun, hended, _, _, rfl, ?_, ⟨_, rfl⟩, hW, hsame.mono (by decide) (by decide)⟩
    · show Steps p.tables e below (s₁.setTop (mkF m 2 #[.val (.int p1)] [(.int (1 : Int32)), (.int p1)])) _
      refine XS.icmpYes X0.here hx rfl (pc0 := 2) (pc' := 15) rfl (hb hby d6_2) rfl (tlt hc2_2).1 (by decide) (by decide) ?_
      show Steps p.tables e below (s₁.setTop (mkF m 15 #[.val (.int p1)] [])) _
      refine XS.iconst X0.here hx rfl (hb hby d6_15) ?_
      show Steps p.tables e below (s₁.setTop (mkF m 16 #[.val (.int p1)] [(.int (0 : Int32))])) _
      exact retN X0 hx (t := .boolean) Bd.returns (by simp) (hb hby d6_16) hr
    · show Q6 Z p1 h0 n0 _ s₁.heap _
      rw [e0]
      refine ⟨?_, N0, rfl⟩
      show (some (.int (0 : Int32)) : Option Value) = some (.int (levelF p1))
      rw [show (levelF p1) = (0 : Int32) from by unfold levelF; rw [if_pos hc2_2]]
  · have pre4 : ∀ t, Steps p.tables e below (s₁.setTop (mkF m 8 #[.val (.int p1)] [(.int (7 : Int32)), (.int p1)])) t → Steps p.tables e below (s₁.setTop (entryFrame m #[(.int p1)] 1)) t := by
      intro t kt
      refine pre1 t ?_
      show Steps p.tables e below (s₁.setTop (mkF m 2 #[.val (.int p1)] [(.int (1 : Int32)), (.int p1)])) _
      refine XS.icmpNo X0.here hx rfl (hb hby d6_2) rfl (flt hc2_2).1 ?_
      show Steps p.tables e below (s₁.setTop (mkF m 5 #[.val (.int p1)] [])) _
      refine XS.iloadN X0.here hx rfl (hb hby d6_5) rfl ?_
      show Steps p.tables e below (s₁.setTop (mkF m 6 #[.val (.int p1)] [(.int p1)])) _
      refine XS.bipush X0.here hx rfl (hb hby d6_6) ?_
      show Steps p.tables e below (s₁.setTop (mkF m 8 #[.val (.int p1)] [(.int (7 : Int32)), (.int p1)])) _
      exact kt
    by_cases hc8_5 : (7 : Int32) < p1
    · obtain ⟨fs, hr, hrun, hended, hW, hsame⟩ := X0.leave (v := some (.int (0 : Int32))) (fun h => by rw [Bd.returns] at h; cases h)
      refine ⟨_, _, pre4 _ ?_, hrun, hended, _, _, rfl, ?_, ⟨_, rfl⟩, hW, hsame.mono (by decide) (by decide)⟩
      · show Steps p.tables e below (s₁.setTop (mkF m 8 #[.val (.int p1)] [(.int (7 : Int32)), (.int p1)])) _
        refine XS.icmpYes X0.here hx rfl (pc0 := 8) (pc' := 15) rfl (hb hby d6_8) rfl (tlt hc8_5).2.2.1 (by decide) (by decide) ?_
        show Steps p.tables e below (s₁.setTop (mkF m 15 #[.val (.int p1)] [])) _
        refine XS.iconst X0.here hx rfl (hb hby d6_15) ?_
        show Steps p.tables e below (s₁.setTop (mkF m 16 #[.val (.int p1)] [(.int (0 : Int32))])) _
        exact retN X0 hx (t := .boolean) Bd.returns (by simp) (hb hby d6_16) hr
      · show Q6 Z p1 h0 n0 _ s₁.heap _
        rw [e0]
        refine ⟨?_, N0, rfl⟩
        show (some (.int (0 : Int32)) : Option Value) = some (.int (levelF p1))
        rw [show (levelF p1) = (0 : Int32) from by unfold levelF; rw [if_neg hc2_2, if_pos hc8_5]]
    · obtain ⟨fs, hr, hrun, hended, hW, hsame⟩ := X0.leave (v := some (.int (1 : Int32))) (fun h => by rw [Bd.returns] at h; cases h)
      refine ⟨_, _, pre4 _ ?_, hrun, hended, _, _, rfl, ?_, ⟨_, rfl⟩, hW, hsame.mono (by decide) (by decide)⟩
      · show Steps p.tables e below (s₁.setTop (mkF m 8 #[.val (.int p1)] [(.int (7 : Int32)), (.int p1)])) _
        refine XS.icmpNo X0.here hx rfl (hb hby d6_8) rfl (flt hc8_5).2.2.1 ?_
        show Steps p.tables e below (s₁.setTop (mkF m 11 #[.val (.int p1)] [])) _
        refine XS.iconst X0.here hx rfl (hb hby d6_11) ?_
        show Steps p.tables e below (s₁.setTop (mkF m 12 #[.val (.int p1)] [(.int (1 : Int32))])) _
        refine XS.goto X0.here hx rfl (pc0 := 12) (pc' := 16) rfl (hb hby d6_12) (by decide) (by decide) ?_
        show Steps p.tables e below (s₁.setTop (mkF m 16 #[.val (.int p1)] [(.int (1 : Int32))])) _
        exact retN X0 hx (t := .boolean) Bd.returns (by simp) (hb hby d6_16) hr
      · show Q6 Z p1 h0 n0 _ s₁.heap _
        rw [e0]
        refine ⟨?_, N0, rfl⟩
        show (some (.int (1 : Int32)) : Option Value) = some (.int (levelF p1))
        rw [show (levelF p1) = (1 : Int32) from by unfold levelF; rw [if_neg hc2_2, if_neg hc8_5]]
theorem d4_0 : decode jdk_30_method_1_code 0 = .ok (.aload_n 0, 1) := by decide +kernel
theorem d4_1 : decode jdk_30_method_1_code 1 = .ok (.invokespecial 1, 3) := by decide +kernel
theorem d4_4 : decode jdk_30_method_1_code 4 = .ok (.return_, 1) := by decide +kernel
theorem pn_2 : plainName "java/lang/Record" = true := by first | (simp [plainName, overriddenIn]; done) | decide +kernel
theorem ef_rm4 (m : MethodId) (x0 : Addr) : entryFrame m #[(.ref x0)] 1 = mkF m 0 #[.val (.ref x0)] [] := by first | (simp [entryFrame, mkF, argsToLocals, Value.category]; done) | rfl
def Q4 (Z : State) (ob : Addr) (h0 : Heap) (n0 : Nat) (v : Option Value) (h : Heap) (L : List Loc) : Prop := v = none ∧ Fr n0 L ∧ h = h0
set_option maxRecDepth 65536 in
set_option maxHeartbeats 40000000 in
theorem rm4 (l : Launch) (Z : State) (a0 : Array Value) (hw : ∀ d ∈ tables_1, d.before a0 Z = true) (ws : List Jvm.Cond) (ob : Addr) (h0 : Heap) (n0 : Nat) (Z0 : n0 ≤ h0.size) :
    MetFree l (⟨"java/lang/Record", "<init>", "()V"⟩ : MethodName) (head1 (Jvm.Cond.code (⟨"java/lang/Record", "<init>", "()V"⟩ : MethodName) jdk_30_method_1_code 1 none :: ws) ({ frames := 1, cells := 0, slots := 0, locals := 12 } : Room)) (fun a U => a = #[(.ref ob)] ∧ Z.Warmed39 U.vm ∧ U.heap = h0) (fun _ _ _ _ _ => True) (fun _ U o U' => ∃ v L, o = .returned v ∧ Q4 Z ob h0 n0 v U'.heap L ∧ FrameEnd U o U' L ({ frames := 1, cells := 0, slots := 0, locals := 12 } : Room).cells ({ frames := 1, cells := 0, slots := 0, locals := 12 } : Room).slots) := by
  refine MetFree.of_bodySF (plainFor_of_name pn_2) hisR ?_
  intro p e s m args below meth c s₁ Bd hml0 hP hK
  obtain ⟨rfl, hZ, hh⟩ := hP
  have hx := Bd.exec
  have hby := Bd.bytes
  have hml : c.maxLocals = 1 := hml0
  have hown : s.vm.findClass "java/lang/Record" = some m.cls := findClass_of_methodNamed Bd.named
  have hnm := (name_of_methodNamed Bd.named Bd.method).1
  have X0 : Stand p l e ({ frames := 1, cells := 0, slots := 0, locals := 12 } : Room) s m #[(.ref ob)] below meth c s₁ [] 0 0 := Stand.of_body Bd
  have e0 : s₁.heap = h0 := by rw [← hh, Bd.state]; rfl
  have N0 := Fr.nil n0
  have pre0 : ∀ t, Steps p.tables e below (s₁.setTop (mkF m 0 #[.val (.ref ob)] [])) t → Steps p.tables e below (s₁.setTop (entryFrame m #[(.ref ob)] 1)) t := fun t k => castTop (ef_rm4 m ob) k
  obtain ⟨T1, X1, e1, st1⟩ := initO X0 hx hZ hown (hw _ (List.mem_of_getElem? (i := 25) rfl)) (hw _ (List.mem_of_getElem? (i := 26) rfl)) (hw _ (List.mem_of_getElem? (i := 27) rfl)) e0 (g := (mkF m 1 #[.val (.ref ob)] [(.ref ob)])) rfl (by rw [hml]; rfl) rfl (hb hby d4_1) (by decide) (W := 0) (by show 2 * 0 + _ ≤ _; exact Nat.le_of_eq rfl) (by decide)
  obtain ⟨fs, hr, hrun, hended, hW, hsame⟩ := X1.leave (v := none) (fun _ => rfl)
  refine ⟨_, _, pre0 _ ?_, hrun, hended, _, _, rfl, ?_, ⟨_, rfl⟩, hW, hsame.mono (by decide) (by decide)⟩
  · show Steps p.tables e below (s₁.setTop (mkF m 0 #[.val (.ref ob)] [])) _
    refine XS.aloadN X0.here hx rfl (hb hby d4_0) rfl rfl ?_
    show Steps p.tables e below (s₁.setTop (mkF m 1 #[.val (.ref ob)] [(.ref ob)])) _
    refine st1 _ ?_
    show Steps p.tables e below (T1.setTop (mkF m 4 #[.val (.ref ob)] [])) _
    exact X1.returnOut hx Bd.returns (hb hby d4_4) hr
  · show Q4 Z ob h0 n0 _ T1.heap _
    rw [e1]
    exact ⟨rfl, N0, rfl⟩
theorem d7_0 : decode jdk_31_method_11_code 0 = .ok (.aload_n 0, 1) := by decide +kernel
theorem d7_1 : decode jdk_31_method_11_code 1 = .ok (.ifnonnull 12, 3) := by decide +kernel
theorem d7_13 : decode jdk_31_method_11_code 13 = .ok (.aload_n 0, 1) := by decide +kernel
theorem d7_14 : decode jdk_31_method_11_code 14 = .ok (.areturn, 1) := by decide +kernel
theorem pn_3 : plainName "java/util/Objects" = true := by first | (simp [plainName, overriddenIn]; done) | decide +kernel
theorem ef_rm7 (m : MethodId) (x0 : Addr) (x1 : Addr) : entryFrame m #[(.ref x0), (.ref x1)] 2 = mkF m 0 #[.val (.ref x0), .val (.ref x1)] [] := by first | (simp [entryFrame, mkF, argsToLocals, Value.category]; done) | rfl
def Q7 (Z : State) (pa : Addr) (pb : Addr) (h0 : Heap) (n0 : Nat) (v : Option Value) (h : Heap) (L : List Loc) : Prop := v = some (.ref pa) ∧ Fr n0 L ∧ h = h0
set_option maxRecDepth 65536 in
set_option maxHeartbeats 40000000 in
theorem rm7 (l : Launch) (Z : State) (a0 : Array Value) (hw : ∀ d ∈ tables_1, d.before a0 Z = true) (ws : List Jvm.Cond) (pa : Addr) (pb : Addr) (h0 : Heap) (n0 : Nat) (Z0 : n0 ≤ h0.size) :
    MetFree l (⟨"java/util/Objects", "requireNonNull", "(Ljava/lang/Object;Ljava/lang/String;)Ljava/lang/Object;"⟩ : MethodName) (head1 (Jvm.Cond.code (⟨"java/util/Objects", "requireNonNull", "(Ljava/lang/Object;Ljava/lang/String;)Ljava/lang/Object;"⟩ : MethodName) jdk_31_method_11_code 2 (some (.object "java/lang/Object")) :: ws) ({ frames := 0, cells := 0, slots := 0, locals := 0 } : Room)) (fun a U => a = #[(.ref pa), (.ref pb)] ∧ Z.Warmed39 U.vm ∧ U.heap = h0) (fun _ _ _ _ _ => True) (fun _ U o U' => ∃ v L, o = .returned v ∧ Q7 Z pa pb h0 n0 v U'.heap L ∧ FrameEnd U o U' L ({ frames := 0, cells := 0, slots := 0, locals := 0 } : Room).cells ({ frames := 0, cells := 0, slots := 0, locals := 0 } : Room).slots) := by
  refine MetFree.of_bodySF (plainFor_of_name pn_3) hisR ?_
  intro p e s m args below meth c s₁ Bd hml0 hP hK
  obtain ⟨rfl, hZ, hh⟩ := hP
  have hx := Bd.exec
  have hby := Bd.bytes
  have hml : c.maxLocals = 2 := hml0
  have hown : s.vm.findClass "java/util/Objects" = some m.cls := findClass_of_methodNamed Bd.named
  have hnm := (name_of_methodNamed Bd.named Bd.method).1
  have X0 : Stand p l e ({ frames := 0, cells := 0, slots := 0, locals := 0 } : Room) s m #[(.ref pa), (.ref pb)] below meth c s₁ [] 0 0 := Stand.of_body Bd
  have e0 : s₁.heap = h0 := by rw [← hh, Bd.state]; rfl
  have N0 := Fr.nil n0
  have pre0 : ∀ t, Steps p.tables e below (s₁.setTop (mkF m 0 #[.val (.ref pa), .val (.ref pb)] [])) t → Steps p.tables e below (s₁.setTop (entryFrame m #[(.ref pa), (.ref pb)] 2)) t := fun t k => castTop (ef_rm7 m pa pb) k
  obtain ⟨fs, hr, hrun, hended, hW, hsame⟩ := X0.leave (v := some (.ref pa)) (fun h => by rw [Bd.returns] at h; cases h)
  refine ⟨_, _, pre0 _ ?_, hrun, hended, _, _, rfl, ?_, ⟨_, rfl⟩, hW, hsame.mono (by decide) (by decide)⟩
  · show Steps p.tables e below (s₁.setTop (mkF m 0 #[.val (.ref pa), .val (.ref pb)] [])) _
    refine XS.aloadN X0.here hx rfl (hb hby d7_0) rfl rfl ?_
    show Steps p.tables e below (s₁.setTop (mkF m 1 #[.val (.ref pa), .val (.ref pb)] [(.ref pa)])) _
    refine XS.ifnonnullYes X0.here hx rfl (pc0 := 1) (pc' := 13) rfl (hb hby d7_1) rfl (by decide) (by decide) ?_
    show Steps p.tables e below (s₁.setTop (mkF m 13 #[.val (.ref pa), .val (.ref pb)] [])) _
    refine XS.aloadN X0.here hx rfl (hb hby d7_13) rfl rfl ?_
    show Steps p.tables e below (s₁.setTop (mkF m 14 #[.val (.ref pa), .val (.ref pb)] [(.ref pa)])) _
    exact retOut X0 hx Bd.returns rfl (Or.inr (Or.inr (Or.inr (Or.inr ⟨rfl, rfl, rfl⟩)))) (hb hby d7_14) hr
  · show Q7 Z pa pb h0 n0 _ s₁.heap _
    rw [e0]
    exact ⟨rfl, N0, rfl⟩
theorem d3_0 : decode prog_25_method_1_code 0 = .ok (.aload_n 0, 1) := by decide +kernel
theorem d3_1 : decode prog_25_method_1_code 1 = .ok (.invokespecial 1, 3) := by decide +kernel
theorem pd_0 : parseMethodDescriptor "()V" = some ⟨[], none⟩ := by decide +kernel
theorem d3_4 : decode prog_25_method_1_code 4 = .ok (.iload_n 1, 1) := by decide +kernel
theorem d3_5 : decode prog_25_method_1_code 5 = .ok (.invokestatic 7, 3) := by decide +kernel
theorem pd_1 : parseMethodDescriptor "(I)Z" = some ⟨[.int], some .boolean⟩ := by decide +kernel
theorem d3_8 : decode prog_25_method_1_code 8 = .ok (.ifCond .ne 18, 3) := by decide +kernel
theorem d3_26 : decode prog_25_method_1_code 26 = .ok (.aload_n 2, 1) := by decide +kernel
theorem d3_27 : decode prog_25_method_1_code 27 = .ok (.ldc 28, 2) := by decide +kernel
theorem d3_29 : decode prog_25_method_1_code 29 = .ok (.invokestatic 30, 3) := by decide +kernel
theorem pd_2 : parseMethodDescriptor "(Ljava/lang/Object;Ljava/lang/String;)Ljava/lang/Object;" = some ⟨[(.object "java/lang/Object"), (.object "java/lang/String")], some (.object "java/lang/Object")⟩ := by decide +kernel
theorem d3_32 : decode prog_25_method_1_code 32 = .ok (.pop, 1) := by decide +kernel
theorem d3_33 : decode prog_25_method_1_code 33 = .ok (.aload_n 3, 1) := by decide +kernel
theorem d3_34 : decode prog_25_method_1_code 34 = .ok (.ldc 36, 2) := by decide +kernel
theorem d3_36 : decode prog_25_method_1_code 36 = .ok (.invokestatic 30, 3) := by decide +kernel
theorem d3_39 : decode prog_25_method_1_code 39 = .ok (.pop, 1) := by decide +kernel
theorem d3_40 : decode prog_25_method_1_code 40 = .ok (.aload_n 0, 1) := by decide +kernel
theorem d3_41 : decode prog_25_method_1_code 41 = .ok (.iload_n 1, 1) := by decide +kernel
theorem d3_42 : decode prog_25_method_1_code 42 = .ok (.putfield 38, 3) := by decide +kernel
theorem d3_45 : decode prog_25_method_1_code 45 = .ok (.aload_n 0, 1) := by decide +kernel
theorem d3_46 : decode prog_25_method_1_code 46 = .ok (.aload_n 2, 1) := by decide +kernel
theorem d3_47 : decode prog_25_method_1_code 47 = .ok (.putfield 44, 3) := by decide +kernel
theorem d3_50 : decode prog_25_method_1_code 50 = .ok (.aload_n 0, 1) := by decide +kernel
theorem d3_51 : decode prog_25_method_1_code 51 = .ok (.aload_n 3, 1) := by decide +kernel
theorem d3_52 : decode prog_25_method_1_code 52 = .ok (.putfield 47, 3) := by decide +kernel
theorem d3_55 : decode prog_25_method_1_code 55 = .ok (.return_, 1) := by decide +kernel
theorem pn_4 : plainName "com/example/ruffwork/ruffwork/Contract" = true := by first | (simp [plainName, overriddenIn]; done) | decide +kernel
theorem ef_rm3 (m : MethodId) (x0 : Addr) (x1 : Int32) (x2 : Addr) (x3 : Addr) : entryFrame m #[(.ref x0), (.int x1), (.ref x2), (.ref x3)] 4 = mkF m 0 #[.val (.ref x0), .val (.int x1), .val (.ref x2), .val (.ref x3)] [] := by first | (simp [entryFrame, mkF, argsToLocals, Value.category]; done) | rfl
def Q3 (Z : State) (ob : Addr) (pl : Int32) (ps : Addr) (pd : Addr) (h0 : Heap) (n0 : Nat) (v : Option Value) (h : Heap) (L : List Loc) : Prop := v = none ∧ Fr n0 L ∧ Keep h0 h [ob] ∧ Exa Z h ob "com/example/ruffwork/ruffwork/Contract" ∧ Fld Z h ob "com/example/ruffwork/ruffwork/Contract" "level" "I" (.int pl)
set_option maxRecDepth 65536 in
set_option maxHeartbeats 40000000 in
theorem rm3 (l : Launch) (Z : State) (a0 : Array Value) (hw : ∀ d ∈ tables_1, d.before a0 Z = true) (ws : List Jvm.Cond) (ob : Addr) (pl : Int32) (ps : Addr) (pd : Addr) (h0 : Heap) (n0 : Nat) (Z0 : n0 ≤ h0.size) (E_ob : Exa Z h0 ob "com/example/ruffwork/ruffwork/Contract") (g_ob : n0 ≤ ob) (F_level : Fld Z h0 ob "com/example/ruffwork/ruffwork/Contract" "level" "I" (.int (0 : Int32))) (F_strain : Fld Z h0 ob "com/example/ruffwork/ruffwork/Contract" "strain" "Lcom/example/ruffwork/ruffwork/Strain;" .null) (F_doubling : Fld Z h0 ob "com/example/ruffwork/ruffwork/Contract" "doubling" "Lcom/example/ruffwork/ruffwork/Doubling;" .null) (hlev : ¬ ((levelF pl) = (0 : Int32))) :
    MetFree l (⟨"com/example/ruffwork/ruffwork/Contract", "<init>", "(ILcom/example/ruffwork/ruffwork/Strain;Lcom/example/ruffwork/ruffwork/Doubling;)V"⟩ : MethodName) (head1 (Jvm.Cond.code (⟨"com/example/ruffwork/ruffwork/Contract", "<init>", "(ILcom/example/ruffwork/ruffwork/Strain;Lcom/example/ruffwork/ruffwork/Doubling;)V"⟩ : MethodName) prog_25_method_1_code 4 none :: ws) ({ frames := 2, cells := 4, slots := 64, locals := 24 } : Room)) (fun a U => a = #[(.ref ob), (.int pl), (.ref ps), (.ref pd)] ∧ Z.Warmed39 U.vm ∧ U.heap = h0) (fun _ _ _ _ _ => True) (fun _ U o U' => ∃ v L, o = .returned v ∧ Q3 Z ob pl ps pd h0 n0 v U'.heap L ∧ ReturnedEndW U o U' L ({ frames := 2, cells := 4, slots := 64, locals := 24 } : Room).cells ({ frames := 2, cells := 4, slots := 64, locals := 24 } : Room).slots) := by
  refine MetFree.of_bodySF (plainFor_of_name pn_4) hisR ?_
  intro p e s m args below meth c s₁ Bd hml0 hP hK
  obtain ⟨rfl, hZ, hh⟩ := hP
  have hx := Bd.exec
  have hby := Bd.bytes
  have hml : c.maxLocals = 4 := hml0
  have hown : s.vm.findClass "com/example/ruffwork/ruffwork/Contract" = some m.cls := findClass_of_methodNamed Bd.named
  have hnm := (name_of_methodNamed Bd.named Bd.method).1
  have X0 : Stand p l e ({ frames := 2, cells := 4, slots := 64, locals := 24 } : Room) (s.setVm s.vm) m #[(.ref ob), (.int pl), (.ref ps), (.ref pd)] below meth c s₁ [] 0 0 := Stand.of_body Bd
  have e0 : s₁.heap = h0 := by rw [← hh, Bd.state]; rfl
  have N0 := Fr.nil n0
  have pre0 : ∀ t, Steps p.tables e below (s₁.setTop (mkF m 0 #[.val (.ref ob), .val (.int pl), .val (.ref ps), .val (.ref pd)] [])) t → Steps p.tables e below (s₁.setTop (entryFrame m #[(.ref ob), (.int pl), (.ref ps), (.ref pd)] 4)) t := fun t k => castTop (ef_rm3 m ob pl ps pd) k
  have hS0 : s.Since s.vm 0 := (State.WarmedH.refl s).since 0
  have hwS : ∀ a ∈ Bundle.stringAtoms, a.before a0 Z = true := fun d hd => hw d ((by decide +kernel : ∀ d ∈ Bundle.stringAtoms, d ∈ tables_1) d hd)
  obtain ⟨_, _, ⟨T1, L1, k1, n1⟩, -, X1, ⟨Lc1, hQ1, l1, y1, z1⟩, st1⟩ := X0.specialBack hx (y := (⟨"java/lang/Record", "<init>", "()V"⟩ : MethodName)) rfl hown (mvT hZ (hw _ (List.mem_of_getElem? (i := 20) rfl))) (mvT hZ (hw _ (List.mem_of_getElem? (i := 21) rfl))) (mvT hZ (hw _ (List.mem_of_getElem? (i := 24) rfl))) (by decide) (backOf (W := 0) (rm4 l Z a0 hw [] ob h0 n0 Z0 ) hZ (hw _ (List.mem_of_getElem? (i := 24) rfl)) (hw _ (List.mem_of_getElem? (i := 23) rfl)) (by decide) (by decide)) (g := (mkF m 1 #[.val (.ref ob), .val (.int pl), .val (.ref ps), .val (.ref pd)] [(.ref ob)])) rfl (by rw [hml]; rfl) (Steps.refl _) (a := ob) (argsL := []) (rest := []) (lenOf pd_0 rfl) rfl (by show 2 * 0 + _ ≤ _; exact Nat.le_of_eq rfl) (hb hby d3_1) (fun _ _ => ⟨rfl, e0, (by decide : 0 + 0 ≤ _), (by decide : 0 + 0 ≤ _)⟩)
  dsimp only [Pt.U, Pt.locs, Pt.cells, Pt.slots] at X1 l1 y1 z1 st1 hQ1
  subst l1 y1 z1
  obtain ⟨rfl, N1q, e1⟩ := hQ1
  have N1 := Fr.app N0 N1q
  obtain ⟨_, _, ⟨T2, L2, k2, n2⟩, -, X2, ⟨Lc2, hQ2, l2, y2, z2⟩, st2⟩ := Jvm.LawKit.callS X1 hx (y := (⟨"com/example/ruffwork/ruffwork/Call", "isLevel", "(I)Z"⟩ : MethodName)) hown (mvT hZ (hw _ (List.mem_of_getElem? (i := 28) rfl))) (mvT hZ (hw _ (List.mem_of_getElem? (i := 29) rfl))) (mvT hZ (hw _ (List.mem_of_getElem? (i := 30) rfl))) (mvT hZ (hw _ (List.mem_of_getElem? (i := 31) rfl))) (by decide) (backOf (W := 0) (rm6 l Z a0 hw [] pl h0 n0 Z0 ) hZ (hw _ (List.mem_of_getElem? (i := 31) rfl)) (hw _ (List.mem_of_getElem? (i := 30) rfl)) (by decide) (by decide)) (g := (mkF m 5 #[.val (.ref ob), .val (.int pl), .val (.ref ps), .val (.ref pd)] [(.int pl)])) rfl (by rw [hml]; rfl) (argsL := [(.int pl)]) (rest := []) (lenOf pd_1 rfl) rfl (by show 2 * 0 + _ ≤ _; exact Nat.le_of_eq rfl) (hb hby d3_5) (fun _ _ => ⟨rfl, e1, (by decide : 0 + 0 ≤ _), (by decide : 0 + 0 ≤ _)⟩)
  dsimp only [Pt.U, Pt.locs, Pt.cells, Pt.slots] at X2 l2 y2 z2 st2 hQ2
  subst l2 y2 z2
  obtain ⟨rfl, N2q, e2⟩ := hQ2
  have N2 := Fr.app N1 N2q
  obtain ⟨b3, T3, h3, k3, X3, e3, E3, hS3, hk3, hZ3, hown3, st3⟩ := ldcS (s := s) (vm0 := s.vm) X2 hx hZ hown (hw _ (List.mem_of_getElem? (i := 32) rfl)) hwS e2 hS0 (Nat.zero_le _) (g := (mkF m 27 #[.val (.ref ob), .val (.int pl), .val (.ref ps), .val (.ref pd)] [(.ref ps)])) rfl (hb hby d3_27) (n := 24) (by decide) (by decide) (by decide) (by decide)
  have Kc3 : Keep h0 h3 [ob] := (Keep.refl h0 [ob]).ext E3
  obtain ⟨_, _, ⟨T4, L4, k4, n4⟩, -, X4, ⟨Lc4, hQ4, l4, y4, z4⟩, st4⟩ := Jvm.LawKit.callS X3 hx (y := (⟨"java/util/Objects", "requireNonNull", "(Ljava/lang/Object;Ljava/lang/String;)Ljava/lang/Object;"⟩ : MethodName)) hown3 (mvT hZ3 (hw _ (List.mem_of_getElem? (i := 40) rfl))) (mvT hZ3 (hw _ (List.mem_of_getElem? (i := 41) rfl))) (mvT hZ3 (hw _ (List.mem_of_getElem? (i := 42) rfl))) (mvT hZ3 (hw _ (List.mem_of_getElem? (i := 43) rfl))) (by decide) (backOf (W := 0) (rm7 l Z a0 hw [] ps b3 h3 n0 (Nat.le_trans Z0 Kc3.1) ) hZ3 (hw _ (List.mem_of_getElem? (i := 43) rfl)) (hw _ (List.mem_of_getElem? (i := 42) rfl)) (by decide) (by decide)) (g := (mkF m 29 #[.val (.ref ob), .val (.int pl), .val (.ref ps), .val (.ref pd)] [(.ref b3), (.ref ps)])) rfl (by rw [hml]; rfl) (argsL := [(.ref ps), (.ref b3)]) (rest := []) (lenOf pd_2 rfl) rfl (by show 2 * 0 + _ ≤ _; exact Nat.le_of_eq rfl) (hb hby d3_29) (fun _ _ => ⟨rfl, e3, (by decide : 2 + 0 ≤ _), (by decide : 28 + 0 ≤ _)⟩)
  dsimp only [Pt.U, Pt.locs, Pt.cells, Pt.slots] at X4 l4 y4 z4 st4 hQ4
  subst l4 y4 z4
  obtain ⟨rfl, N4q, e4⟩ := hQ4
  have N4 := Fr.app N2 N4q
  obtain ⟨b5, T5, h5, k5, X5, e5, E5, hS5, hk5, hZ5, hown5, st5⟩ := ldcS (s := s) (vm0 := T3.vm) X4 hx hZ3 hown3 (hw _ (List.mem_of_getElem? (i := 44) rfl)) hwS e4 hS3 hk3 (g := (mkF m 34 #[.val (.ref ob), .val (.int pl), .val (.ref ps), .val (.ref pd)] [(.ref pd)])) rfl (hb hby d3_34) (n := 32) (by decide) (by decide) (by decide) (by decide)
  have Kc5 : Keep h0 h5 [ob] := Kc3.ext E5
  obtain ⟨_, _, ⟨T6, L6, k6, n6⟩, -, X6, ⟨Lc6, hQ6, l6, y6, z6⟩, st6⟩ := Jvm.LawKit.callS X5 hx (y := (⟨"java/util/Objects", "requireNonNull", "(Ljava/lang/Object;Ljava/lang/String;)Ljava/lang/Object;"⟩ : MethodName)) hown5 (mvT hZ5 (hw _ (List.mem_of_getElem? (i := 40) rfl))) (mvT hZ5 (hw _ (List.mem_of_getElem? (i := 41) rfl))) (mvT hZ5 (hw _ (List.mem_of_getElem? (i := 42) rfl))) (mvT hZ5 (hw _ (List.mem_of_getElem? (i := 43) rfl))) (by decide) (backOf (W := 0) (rm7 l Z a0 hw [] pd b5 h5 n0 (Nat.le_trans Z0 Kc5.1) ) hZ5 (hw _ (List.mem_of_getElem? (i := 43) rfl)) (hw _ (List.mem_of_getElem? (i := 42) rfl)) (by decide) (by decide)) (g := (mkF m 36 #[.val (.ref ob), .val (.int pl), .val (.ref ps), .val (.ref pd)] [(.ref b5), (.ref pd)])) rfl (by rw [hml]; rfl) (argsL := [(.ref pd), (.ref b5)]) (rest := []) (lenOf pd_2 rfl) rfl (by show 2 * 0 + _ ≤ _; exact Nat.le_of_eq rfl) (hb hby d3_36) (fun _ _ => ⟨rfl, e5, (by decide : 4 + 0 ≤ _), (by decide : 64 + 0 ≤ _)⟩)
  dsimp only [Pt.U, Pt.locs, Pt.cells, Pt.slots] at X6 l6 y6 z6 st6 hQ6
  subst l6 y6 z6
  obtain ⟨rfl, N6q, e6⟩ := hQ6
  have N6 := Fr.app N4 N6q
  obtain ⟨T7, h7, X7, e7, W7, st7⟩ := putF X6 hx hZ5 hown5 (host := "") (Or.inl (hw _ (List.mem_of_getElem? (i := 45) rfl))) Via.refl e6 ((F_level.ext E3).ext E5) ((E_ob.ext E3).ext E5) (Or.inr ⟨(hw _ (List.mem_of_getElem? (i := 46) rfl)), rfl, hnm⟩) (hw _ (List.mem_of_getElem? (i := 2) rfl)) (ty := .int) (by decide) rfl rfl (g := (mkF m 42 #[.val (.ref ob), .val (.int pl), .val (.ref ps), .val (.ref pd)] [(.int pl), (.ref ob)])) rfl rfl (hb hby d3_42)
  have Kc7 : Keep h0 h7 [ob] := Kc5.wr W7 (Or.inl (List.mem_of_getElem? (i := 0) rfl))
  have N7 := Fr.snoc X7 N6 g_ob
  have Fw7 : Fld Z h7 ob "com/example/ruffwork/ruffwork/Contract" "level" "I" (.int pl) := ((F_level.ext E3).ext E5).same W7
  obtain ⟨T8, h8, X8, e8, W8, st8⟩ := putF X7 hx hZ5 hown5 (host := "") (Or.inl (hw _ (List.mem_of_getElem? (i := 47) rfl))) Via.refl e7 (((F_strain.ext E3).ext E5).other W7 (Or.inr (slot_ne (Or.inr (hw _ (List.mem_of_getElem? (i := 48) rfl))) (Or.inr (hw _ (List.mem_of_getElem? (i := 46) rfl))) (by decide) (t := (.object "com/example/ruffwork/ruffwork/Strain")) (t' := .int) (by decide) (by decide)))) (((E_ob.ext E3).ext E5).wr W7) (Or.inr ⟨(hw _ (List.mem_of_getElem? (i := 48) rfl)), rfl, hnm⟩) (hw _ (List.mem_of_getElem? (i := 2) rfl)) (ty := (.object "com/example/ruffwork/ruffwork/Strain")) (by decide) rfl rfl (g := (mkF m 47 #[.val (.ref ob), .val (.int pl), .val (.ref ps), .val (.ref pd)] [(.ref ps), (.ref ob)])) rfl rfl (hb hby d3_47)
  have Kc8 : Keep h0 h8 [ob] := Kc7.wr W8 (Or.inl (List.mem_of_getElem? (i := 0) rfl))
  have N8 := Fr.snoc X8 N7 g_ob
  have Fw8 : Fld Z h8 ob "com/example/ruffwork/ruffwork/Contract" "strain" "Lcom/example/ruffwork/ruffwork/Strain;" (.ref ps) := (((F_strain.ext E3).ext E5).other W7 (Or.inr (slot_ne (Or.inr (hw _ (List.mem_of_getElem? (i := 48) rfl))) (Or.inr (hw _ (List.mem_of_getElem? (i := 46) rfl))) (by decide) (t := (.object "com/example/ruffwork/ruffwork/Strain")) (t' := .int) (by decide) (by decide)))).same W8
  obtain ⟨T9, h9, X9, e9, W9, st9⟩ := putF X8 hx hZ5 hown5 (host := "") (Or.inl (hw _ (List.mem_of_getElem? (i := 49) rfl))) Via.refl e8 ((((F_doubling.ext E3).ext E5).other W7 (Or.inr (slot_ne (Or.inr (hw _ (List.mem_of_getElem? (i := 50) rfl))) (Or.inr (hw _ (List.mem_of_getElem? (i := 46) rfl))) (by decide) (t := (.object "com/example/ruffwork/ruffwork/Doubling")) (t' := .int) (by decide) (by decide)))).other W8 (Or.inr (slot_ne (Or.inr (hw _ (List.mem_of_getElem? (i := 50) rfl))) (Or.inr (hw _ (List.mem_of_getElem? (i := 48) rfl))) (by decide) (t := (.object "com/example/ruffwork/ruffwork/Doubling")) (t' := (.object "com/example/ruffwork/ruffwork/Strain")) (by decide) (by decide)))) ((((E_ob.ext E3).ext E5).wr W7).wr W8) (Or.inr ⟨(hw _ (List.mem_of_getElem? (i := 50) rfl)), rfl, hnm⟩) (hw _ (List.mem_of_getElem? (i := 2) rfl)) (ty := (.object "com/example/ruffwork/ruffwork/Doubling")) (by decide) rfl rfl (g := (mkF m 52 #[.val (.ref ob), .val (.int pl), .val (.ref ps), .val (.ref pd)] [(.ref pd), (.ref ob)])) rfl rfl (hb hby d3_52)
  have Kc9 : Keep h0 h9 [ob] := Kc8.wr W9 (Or.inl (List.mem_of_getElem? (i := 0) rfl))
  have N9 := Fr.snoc X9 N8 g_ob
  have Fw9 : Fld Z h9 ob "com/example/ruffwork/ruffwork/Contract" "doubling" "Lcom/example/ruffwork/ruffwork/Doubling;" (.ref pd) := ((((F_doubling.ext E3).ext E5).other W7 (Or.inr (slot_ne (Or.inr (hw _ (List.mem_of_getElem? (i := 50) rfl))) (Or.inr (hw _ (List.mem_of_getElem? (i := 46) rfl))) (by decide) (t := (.object "com/example/ruffwork/ruffwork/Doubling")) (t' := .int) (by decide) (by decide)))).other W8 (Or.inr (slot_ne (Or.inr (hw _ (List.mem_of_getElem? (i := 50) rfl))) (Or.inr (hw _ (List.mem_of_getElem? (i := 48) rfl))) (by decide) (t := (.object "com/example/ruffwork/ruffwork/Doubling")) (t' := (.object "com/example/ruffwork/ruffwork/Strain")) (by decide) (by decide)))).same W9
  obtain ⟨fs, hr, hrun, hended, hend⟩ := Stand.leaveW (s := s) (vm₁ := T5.vm) X9 hS5 (by rw [e9]; exact (Nat.le_trans (Nat.le_trans (Nat.le_trans hk5 (Keep.of_wr W7).1) (Keep.of_wr W8).1) (Keep.of_wr W9).1)) (v := none) (fun _ => rfl)
  refine ⟨_, _, pre0 _ ?_, hrun, hended, _, _, rfl, ?_, hend.1, hend.2.1, hend.2.2.1, hend.2.2.2.mono (by decide) (by decide)⟩
  · show Steps p.tables e below (s₁.setTop (mkF m 0 #[.val (.ref ob), .val (.int pl), .val (.ref ps), .val (.ref pd)] [])) _
    refine XS.aloadN X0.here hx rfl (hb hby d3_0) rfl rfl ?_
    show Steps p.tables e below (s₁.setTop (mkF m 1 #[.val (.ref ob), .val (.int pl), .val (.ref ps), .val (.ref pd)] [(.ref ob)])) _
    refine st1.trans ?_
    show Steps p.tables e below (T1.setTop (mkF m 4 #[.val (.ref ob), .val (.int pl), .val (.ref ps), .val (.ref pd)] [])) _
    refine XS.iloadN X1.here hx rfl (hb hby d3_4) rfl ?_
    show Steps p.tables e below (T1.setTop (mkF m 5 #[.val (.ref ob), .val (.int pl), .val (.ref ps), .val (.ref pd)] [(.int pl)])) _
    refine st2 _ ?_
    show Steps p.tables e below (T2.setTop (mkF m 8 #[.val (.ref ob), .val (.int pl), .val (.ref ps), .val (.ref pd)] [(.int (levelF pl))])) _
    refine XS.ifYes X2.here hx rfl (pc0 := 8) (pc' := 26) rfl (hb hby d3_8) rfl ((if0 _ _).trans (feq hlev).2) (by decide) (by decide) ?_
    show Steps p.tables e below (T2.setTop (mkF m 26 #[.val (.ref ob), .val (.int pl), .val (.ref ps), .val (.ref pd)] [])) _
    refine XS.aloadN X2.here hx rfl (hb hby d3_26) rfl rfl ?_
    show Steps p.tables e below (T2.setTop (mkF m 27 #[.val (.ref ob), .val (.int pl), .val (.ref ps), .val (.ref pd)] [(.ref ps)])) _
    refine st3 _ ?_
    show Steps p.tables e below (T3.setTop (mkF m 29 #[.val (.ref ob), .val (.int pl), .val (.ref ps), .val (.ref pd)] [(.ref b3), (.ref ps)])) _
    refine st4 _ ?_
    show Steps p.tables e below (T4.setTop (mkF m 32 #[.val (.ref ob), .val (.int pl), .val (.ref ps), .val (.ref pd)] [(.ref ps)])) _
    refine XS.pop X4.here hx rfl (hb hby d3_32) rfl rfl ?_
    show Steps p.tables e below (T4.setTop (mkF m 33 #[.val (.ref ob), .val (.int pl), .val (.ref ps), .val (.ref pd)] [])) _
    refine XS.aloadN X4.here hx rfl (hb hby d3_33) rfl rfl ?_
    show Steps p.tables e below (T4.setTop (mkF m 34 #[.val (.ref ob), .val (.int pl), .val (.ref ps), .val (.ref pd)] [(.ref pd)])) _
    refine st5 _ ?_
    show Steps p.tables e below (T5.setTop (mkF m 36 #[.val (.ref ob), .val (.int pl), .val (.ref ps), .val (.ref pd)] [(.ref b5), (.ref pd)])) _
    refine st6 _ ?_
    show Steps p.tables e below (T6.setTop (mkF m 39 #[.val (.ref ob), .val (.int pl), .val (.ref ps), .val (.ref pd)] [(.ref pd)])) _
    refine XS.pop X6.here hx rfl (hb hby d3_39) rfl rfl ?_
    show Steps p.tables e below (T6.setTop (mkF m 40 #[.val (.ref ob), .val (.int pl), .val (.ref ps), .val (.ref pd)] [])) _
    refine XS.aloadN X6.here hx rfl (hb hby d3_40) rfl rfl ?_
    show Steps p.tables e below (T6.setTop (mkF m 41 #[.val (.ref ob), .val (.int pl), .val (.ref ps), .val (.ref pd)] [(.ref ob)])) _
    refine XS.iloadN X6.here hx rfl (hb hby d3_41) rfl ?_
    show Steps p.tables e below (T6.setTop (mkF m 42 #[.val (.ref ob), .val (.int pl), .val (.ref ps), .val (.ref pd)] [(.int pl), (.ref ob)])) _
    refine st7 _ ?_
    show Steps p.tables e below (T7.setTop (mkF m 45 #[.val (.ref ob), .val (.int pl), .val (.ref ps), .val (.ref pd)] [])) _
    refine XS.aloadN X7.here hx rfl (hb hby d3_45) rfl rfl ?_
    show Steps p.tables e below (T7.setTop (mkF m 46 #[.val (.ref ob), .val (.int pl), .val (.ref ps), .val (.ref pd)] [(.ref ob)])) _
    refine XS.aloadN X7.here hx rfl (hb hby d3_46) rfl rfl ?_
    show Steps p.tables e below (T7.setTop (mkF m 47 #[.val (.ref ob), .val (.int pl), .val (.ref ps), .val (.ref pd)] [(.ref ps), (.ref ob)])) _
    refine st8 _ ?_
    show Steps p.tables e below (T8.setTop (mkF m 50 #[.val (.ref ob), .val (.int pl), .val (.ref ps), .val (.ref pd)] [])) _
    refine XS.aloadN X8.here hx rfl (hb hby d3_50) rfl rfl ?_
    show Steps p.tables e below (T8.setTop (mkF m 51 #[.val (.ref ob), .val (.int pl), .val (.ref ps), .val (.ref pd)] [(.ref ob)])) _
    refine XS.aloadN X8.here hx rfl (hb hby d3_51) rfl rfl ?_
    show Steps p.tables e below (T8.setTop (mkF m 52 #[.val (.ref ob), .val (.int pl), .val (.ref ps), .val (.ref pd)] [(.ref pd), (.ref ob)])) _
    refine st9 _ ?_
    show Steps p.tables e below (T9.setTop (mkF m 55 #[.val (.ref ob), .val (.int pl), .val (.ref ps), .val (.ref pd)] [])) _
    exact X9.returnOut hx Bd.returns (hb hby d3_55) hr
  · show Q3 Z ob pl ps pd h0 n0 _ T9.heap _
    rw [e9]
    exact ⟨rfl, N9, Kc9, (((((E_ob.ext E3).ext E5).wr W7).wr W8).wr W9), ((Fw7.other W8 (Or.inr (slot_ne (Or.inr (hw _ (List.mem_of_getElem? (i := 46) rfl))) (Or.inr (hw _ (List.mem_of_getElem? (i := 48) rfl))) (by decide) (t := .int) (t' := (.object "com/example/ruffwork/ruffwork/Strain")) (by decide) (by decide)))).other W9 (Or.inr (slot_ne (Or.inr (hw _ (List.mem_of_getElem? (i := 46) rfl))) (Or.inr (hw _ (List.mem_of_getElem? (i := 50) rfl))) (by decide) (t := .int) (t' := (.object "com/example/ruffwork/ruffwork/Doubling")) (by decide) (by decide))))⟩
theorem d8_0 : decode prog_25_method_8_code 0 = .ok (.aload_n 0, 1) := by decide +kernel
theorem d8_1 : decode prog_25_method_8_code 1 = .ok (.getfield 38, 3) := by decide +kernel
theorem d8_4 : decode prog_25_method_8_code 4 = .ok (.bipush 6, 2) := by decide +kernel
theorem d8_6 : decode prog_25_method_8_code 6 = .ok (.if_icmp .ne 17, 3) := by decide +kernel
theorem d8_9 : decode prog_25_method_8_code 9 = .ok (.iload_n 1, 1) := by decide +kernel
theorem d8_10 : decode prog_25_method_8_code 10 = .ok (.ifCond .eq 9, 3) := by decide +kernel
theorem d8_19 : decode prog_25_method_8_code 19 = .ok (.sipush 500, 3) := by decide +kernel
theorem d8_22 : decode prog_25_method_8_code 22 = .ok (.ireturn, 1) := by decide +kernel
theorem d8_13 : decode prog_25_method_8_code 13 = .ok (.sipush 750, 3) := by decide +kernel
theorem d8_16 : decode prog_25_method_8_code 16 = .ok (.goto 6, 3) := by decide +kernel
theorem d8_23 : decode prog_25_method_8_code 23 = .ok (.aload_n 0, 1) := by decide +kernel
theorem d8_24 : decode prog_25_method_8_code 24 = .ok (.getfield 38, 3) := by decide +kernel
theorem d8_27 : decode prog_25_method_8_code 27 = .ok (.bipush 7, 2) := by decide +kernel
theorem d8_29 : decode prog_25_method_8_code 29 = .ok (.if_icmp .ne 17, 3) := by decide +kernel
theorem d8_32 : decode prog_25_method_8_code 32 = .ok (.iload_n 1, 1) := by decide +kernel
theorem d8_33 : decode prog_25_method_8_code 33 = .ok (.ifCond .eq 9, 3) := by decide +kernel
theorem d8_42 : decode prog_25_method_8_code 42 = .ok (.sipush 1000, 3) := by decide +kernel
theorem d8_45 : decode prog_25_method_8_code 45 = .ok (.ireturn, 1) := by decide +kernel
theorem d8_36 : decode prog_25_method_8_code 36 = .ok (.sipush 1500, 3) := by decide +kernel
theorem d8_39 : decode prog_25_method_8_code 39 = .ok (.goto 6, 3) := by decide +kernel
theorem d8_46 : decode prog_25_method_8_code 46 = .ok (.iconst 0, 1) := by decide +kernel
theorem d8_47 : decode prog_25_method_8_code 47 = .ok (.ireturn, 1) := by decide +kernel
theorem ef_rm8 (m : MethodId) (x0 : Addr) (x1 : Int32) : entryFrame m #[(.ref x0), (.int x1)] 2 = mkF m 0 #[.val (.ref x0), .val (.int x1)] [] := by first | (simp [entryFrame, mkF, argsToLocals, Value.category]; done) | rfl
def slamF (pv : Int32) (lv : Int32) : Int32 :=
  if lv = (6 : Int32) then (if pv = (0 : Int32) then (500 : Int32)
    else (750 : Int32))
  else if lv = (7 : Int32) then (if pv = (0 : Int32) then (1000 : Int32)
      else (1500 : Int32))
    else (0 : Int32)
def Q8 (Z : State) (ob : Addr) (pv : Int32) (lv : Int32) (h0 : Heap) (n0 : Nat) (v : Option Value) (h : Heap) (L : List Loc) : Prop := v = some (.int (slamF pv lv)) ∧ Fr n0 L ∧ h = h0
set_option maxRecDepth 65536 in
set_option maxHeartbeats 40000000 in
theorem rm8 (l : Launch) (Z : State) (a0 : Array Value) (hw : ∀ d ∈ tables_1, d.before a0 Z = true) (ws : List Jvm.Cond) (ob : Addr) (pv : Int32) (lv : Int32) (h0 : Heap) (n0 : Nat) (Z0 : n0 ≤ h0.size) (F_level : Fld Z h0 ob "com/example/ruffwork/ruffwork/Contract" "level" "I" (.int lv)) :
    MetFree l (⟨"com/example/ruffwork/ruffwork/Contract", "slamBonus", "(Z)I"⟩ : MethodName) (head1 (Jvm.Cond.code (⟨"com/example/ruffwork/ruffwork/Contract", "slamBonus", "(Z)I"⟩ : MethodName) prog_25_method_8_code 2 (some .int) :: ws) ({ frames := 0, cells := 0, slots := 0, locals := 0 } : Room)) (fun a U => a = #[(.ref ob), (.int pv)] ∧ Z.Warmed39 U.vm ∧ U.heap = h0) (fun _ _ _ _ _ => True) (fun _ U o U' => ∃ v L, o = .returned v ∧ Q8 Z ob pv lv h0 n0 v U'.heap L ∧ FrameEnd U o U' L ({ frames := 0, cells := 0, slots := 0, locals := 0 } : Room).cells ({ frames := 0, cells := 0, slots := 0, locals := 0 } : Room).slots) := by
  refine MetFree.of_bodySF (plainFor_of_name pn_4) hisR ?_
  intro p e s m args below meth c s₁ Bd hml0 hP hK
  obtain ⟨rfl, hZ, hh⟩ := hP
  have hx := Bd.exec
  have hby := Bd.bytes
  have hml : c.maxLocals = 2 := hml0
  have hown : s.vm.findClass "com/example/ruffwork/ruffwork/Contract" = some m.cls := findClass_of_methodNamed Bd.named
  have hnm := (name_of_methodNamed Bd.named Bd.method).1
  have X0 : Stand p l e ({ frames := 0, cells := 0, slots := 0, locals := 0 } : Room) s m #[(.ref ob), (.int pv)] below meth c s₁ [] 0 0 := Stand.of_body Bd
  have e0 : s₁.heap = h0 := by rw [← hh, Bd.state]; rfl
  have N0 := Fr.nil n0
  have pre0 : ∀ t, Steps p.tables e below (s₁.setTop (mkF m 0 #[.val (.ref ob), .val (.int pv)] [])) t → Steps p.tables e below (s₁.setTop (entryFrame m #[(.ref ob), (.int pv)] 2)) t := fun t k => castTop (ef_rm8 m ob pv) k
  obtain ⟨T1, X1, e1, st1⟩ := getF X0 hx hZ hown (host := "") (Or.inl (hw _ (List.mem_of_getElem? (i := 45) rfl))) Via.refl e0 F_level (g := (mkF m 1 #[.val (.ref ob), .val (.int pv)] [(.ref ob)])) rfl rfl (hb hby d8_1)
  have pre2 : ∀ t, Steps p.tables e below (T1.setTop (mkF m 6 #[.val (.ref ob), .val (.int pv)] [(.int (6 : Int32)), (.int lv)])) t → Steps p.tables e below (s₁.setTop (entryFrame m #[(.ref ob), (.int pv)] 2)) t := by
    intro t kt
    refine pre0 t ?_
    show Steps p.tables e below (s₁.setTop (mkF m 0 #[.val (.ref ob), .val (.int pv)] [])) _
    refine XS.aloadN X0.here hx rfl (hb hby d8_0) rfl rfl ?_
    show Steps p.tables e below (s₁.setTop (mkF m 1 #[.val (.ref ob), .val (.int pv)] [(.ref ob)])) _
    refine st1 _ ?_
    show Steps p.tables e below (T1.setTop (mkF m 4 #[.val (.ref ob), .val (.int pv)] [(.int lv)])) _
    refine XS.bipush X1.here hx rfl (hb hby d8_4) ?_
    show Steps p.tables e below (T1.setTop (mkF m 6 #[.val (.ref ob), .val (.int pv)] [(.int (6 : Int32)), (.int lv)])) _
    exact kt
  by_cases hc6_3 : lv = (6 : Int32)
  · have pre4 : ∀ t, Steps p.tables e below (T1.setTop (mkF m 10 #[.val (.ref ob), .val (.int pv)] [(.int pv)])) t → Steps p.tables e below (s₁.setTop (entryFrame m #[(.ref ob), (.int pv)] 2)) t := by
      intro t kt
      refine pre2 t ?_
      show Steps p.tables e below (T1.setTop (mkF m 6 #[.val (.ref ob), .val (.int pv)] [(.int (6 : Int32)), (.int lv)])) _
      refine XS.icmpNo X1.here hx rfl (hb hby d8_6) rfl (teq hc6_3).2 ?_
      show Steps p.tables e below (T1.setTop (mkF m 9 #[.val (.ref ob), .val (.int pv)] [])) _
      refine XS.iloadN X1.here hx rfl (hb hby d8_9) rfl ?_
      show Steps p.tables e below (T1.setTop (mkF m 10 #[.val (.ref ob), .val (.int pv)] [(.int pv)])) _
      exact kt
    by_cases hc10_5 : pv = (0 : Int32)
    · obtain ⟨fs, hr, hrun, hended, hW, hsame⟩ := X1.leave (v := some (.int (500 : Int32))) (fun h => by rw [Bd.returns] at h; cases h)
      refine ⟨_, _, pre4 _ ?_, hrun, hended, _, _, rfl, ?_, ⟨_, rfl⟩, hW, hsame.mono (by decide) (by decide)⟩
      · show Steps p.tables e below (T1.setTop (mkF m 10 #[.val (.ref ob), .val (.int pv)] [(.int pv)])) _
        refine XS.ifYes X1.here hx rfl (pc0 := 10) (pc' := 19) rfl (hb hby d8_10) rfl ((if0 _ _).trans (teq hc10_5).1) (by decide) (by decide) ?_
        show Steps p.tables e below (T1.setTop (mkF m 19 #[.val (.ref ob), .val (.int pv)] [])) _
        refine XS.sipush X1.here hx rfl (hb hby d8_19) ?_
        show Steps p.tables e below (T1.setTop (mkF m 22 #[.val (.ref ob), .val (.int pv)] [(.int (500 : Int32))])) _
        exact retI X1 hx Bd.returns (hb hby d8_22) hr
      · show Q8 Z ob pv lv h0 n0 _ T1.heap _
        rw [e1]
        refine ⟨?_, N0, rfl⟩
        show (some (.int (500 : Int32)) : Option Value) = some (.int (slamF pv lv))
        rw [show (slamF pv lv) = (500 : Int32) from by unfold slamF; rw [if_pos hc6_3, if_pos hc10_5]]
    · obtain ⟨fs, hr, hrun, hended, hW, hsame⟩ := X1.leave (v := some (.int (750 : Int32))) (fun h => by rw [Bd.returns] at h; cases h)
      refine ⟨_, _, pre4 _ ?_, hrun, hended, _, _, rfl, ?_, ⟨_, rfl⟩, hW, hsame.mono (by decide) (by decide)⟩
      · show Steps p.tables e below (T1.setTop (mkF m 10 #[.val (.ref ob), .val (.int pv)] [(.int pv)])) _
        refine XS.ifNo X1.here hx rfl (hb hby d8_10) rfl ((if0 _ _).trans (feq hc10_5).1) ?_
        show Steps p.tables e below (T1.setTop (mkF m 13 #[.val (.ref ob), .val (.int pv)] [])) _
        refine XS.sipush X1.here hx rfl (hb hby d8_13) ?_
        show Steps p.tables e below (T1.setTop (mkF m 16 #[.val (.ref ob), .val (.int pv)] [(.int (750 : Int32))])) _
        refine XS.goto X1.here hx rfl (pc0 := 16) (pc' := 22) rfl (hb hby d8_16) (by decide) (by decide) ?_
        show Steps p.tables e below (T1.setTop (mkF m 22 #[.val (.ref ob), .val (.int pv)] [(.int (750 : Int32))])) _
        exact retI X1 hx Bd.returns (hb hby d8_22) hr
      · show Q8 Z ob pv lv h0 n0 _ T1.heap _
        rw [e1]
        refine ⟨?_, N0, rfl⟩
        show (some (.int (750 : Int32)) : Option Value) = some (.int (slamF pv lv))
        rw [show (slamF pv lv) = (750 : Int32) from by unfold slamF; rw [if_pos hc6_3, if_neg hc10_5]]
  · obtain ⟨T8, X8, e8, st8⟩ := getF X1 hx hZ hown (host := "") (Or.inl (hw _ (List.mem_of_getElem? (i := 45) rfl))) Via.refl e1 F_level (g := (mkF m 24 #[.val (.ref ob), .val (.int pv)] [(.ref ob)])) rfl rfl (hb hby d8_24)
    have pre9 : ∀ t, Steps p.tables e below (T8.setTop (mkF m 29 #[.val (.ref ob), .val (.int pv)] [(.int (7 : Int32)), (.int lv)])) t → Steps p.tables e below (s₁.setTop (entryFrame m #[(.ref ob), (.int pv)] 2)) t := by
      intro t kt
      refine pre2 t ?_
      show Steps p.tables e below (T1.setTop (mkF m 6 #[.val (.ref ob), .val (.int pv)] [(.int (6 : Int32)), (.int lv)])) _
      refine XS.icmpYes X1.here hx rfl (pc0 := 6) (pc' := 23) rfl (hb hby d8_6) rfl (feq hc6_3).2 (by decide) (by decide) ?_
      show Steps p.tables e below (T1.setTop (mkF m 23 #[.val (.ref ob), .val (.int pv)] [])) _
      refine XS.aloadN X1.here hx rfl (hb hby d8_23) rfl rfl ?_
      show Steps p.tables e below (T1.setTop (mkF m 24 #[.val (.ref ob), .val (.int pv)] [(.ref ob)])) _
      refine st8 _ ?_
      show Steps p.tables e below (T8.setTop (mkF m 27 #[.val (.ref ob), .val (.int pv)] [(.int lv)])) _
      refine XS.bipush X8.here hx rfl (hb hby d8_27) ?_
      show Steps p.tables e below (T8.setTop (mkF m 29 #[.val (.ref ob), .val (.int pv)] [(.int (7 : Int32)), (.int lv)])) _
      exact kt
    by_cases hc29_10 : lv = (7 : Int32)
    · have pre11 : ∀ t, Steps p.tables e below (T8.setTop (mkF m 33 #[.val (.ref ob), .val (.int pv)] [(.int pv)])) t → Steps p.tables e below (s₁.setTop (entryFrame m #[(.ref ob), (.int pv)] 2)) t := by
        intro t kt
        refine pre9 t ?_
        show Steps p.tables e below (T8.setTop (mkF m 29 #[.val (.ref ob), .val (.int pv)] [(.int (7 : Int32)), (.int lv)])) _
        refine XS.icmpNo X8.here hx rfl (hb hby d8_29) rfl (teq hc29_10).2 ?_
        show Steps p.tables e below (T8.setTop (mkF m 32 #[.val (.ref ob), .val (.int pv)] [])) _
        refine XS.iloadN X8.here hx rfl (hb hby d8_32) rfl ?_
        show Steps p.tables e below (T8.setTop (mkF m 33 #[.val (.ref ob), .val (.int pv)] [(.int pv)])) _
        exact kt
      by_cases hc33_12 : pv = (0 : Int32)
      · obtain ⟨fs, hr, hrun, hended, hW, hsame⟩ := X8.leave (v := some (.int (1000 : Int32))) (fun h => by rw [Bd.returns] at h; cases h)
        refine ⟨_, _, pre11 _ ?_, hrun, hended, _, _, rfl, ?_, ⟨_, rfl⟩, hW, hsame.mono (by decide) (by decide)⟩
        · show Steps p.tables e below (T8.setTop (mkF m 33 #[.val (.ref ob), .val (.int pv)] [(.int pv)])) _
          refine XS.ifYes X8.here hx rfl (pc0 := 33) (pc' := 42) rfl (hb hby d8_33) rfl ((if0 _ _).trans (teq hc33_12).1) (by decide) (by decide) ?_
          show Steps p.tables e below (T8.setTop (mkF m 42 #[.val (.ref ob), .val (.int pv)] [])) _
          refine XS.sipush X8.here hx rfl (hb hby d8_42) ?_
          show Steps p.tables e below (T8.setTop (mkF m 45 #[.val (.ref ob), .val (.int pv)] [(.int (1000 : Int32))])) _
          exact retI X8 hx Bd.returns (hb hby d8_45) hr
        · show Q8 Z ob pv lv h0 n0 _ T8.heap _
          rw [e8]
          refine ⟨?_, N0, rfl⟩
          show (some (.int (1000 : Int32)) : Option Value) = some (.int (slamF pv lv))
          rw [show (slamF pv lv) = (1000 : Int32) from by unfold slamF; rw [if_neg hc6_3, if_pos hc29_10, if_pos hc33_12]]
      · obtain ⟨fs, hr, hrun, hended, hW, hsame⟩ := X8.leave (v := some (.int (1500 : Int32))) (fun h => by rw [Bd.returns] at h; cases h)
        refine ⟨_, _, pre11 _ ?_, hrun, hended, _, _, rfl, ?_, ⟨_, rfl⟩, hW, hsame.mono (by decide) (by decide)⟩
        · show Steps p.tables e below (T8.setTop (mkF m 33 #[.val (.ref ob), .val (.int pv)] [(.int pv)])) _
          refine XS.ifNo X8.here hx rfl (hb hby d8_33) rfl ((if0 _ _).trans (feq hc33_12).1) ?_
          show Steps p.tables e below (T8.setTop (mkF m 36 #[.val (.ref ob), .val (.int pv)] [])) _
          refine XS.sipush X8.here hx rfl (hb hby d8_36) ?_
          show Steps p.tables e below (T8.setTop (mkF m 39 #[.val (.ref ob), .val (.int pv)] [(.int (1500 : Int32))])) _
          refine XS.goto X8.here hx rfl (pc0 := 39) (pc' := 45) rfl (hb hby d8_39) (by decide) (by decide) ?_
          show Steps p.tables e below (T8.setTop (mkF m 45 #[.val (.ref ob), .val (.int pv)] [(.int (1500 : Int32))])) _
          exact retI X8 hx Bd.returns (hb hby d8_45) hr
        · show Q8 Z ob pv lv h0 n0 _ T8.heap _
          rw [e8]
          refine ⟨?_, N0, rfl⟩
          show (some (.int (1500 : Int32)) : Option Value) = some (.int (slamF pv lv))
          rw [show (slamF pv lv) = (1500 : Int32) from by unfold slamF; rw [if_neg hc6_3, if_pos hc29_10, if_neg hc33_12]]
    · obtain ⟨fs, hr, hrun, hended, hW, hsame⟩ := X8.leave (v := some (.int (0 : Int32))) (fun h => by rw [Bd.returns] at h; cases h)
      refine ⟨_, _, pre9 _ ?_, hrun, hended, _, _, rfl, ?_, ⟨_, rfl⟩, hW, hsame.mono (by decide) (by decide)⟩
      · show Steps p.tables e below (T8.setTop (mkF m 29 #[.val (.ref ob), .val (.int pv)] [(.int (7 : Int32)), (.int lv)])) _
        refine XS.icmpYes X8.here hx rfl (pc0 := 29) (pc' := 46) rfl (hb hby d8_29) rfl (feq hc29_10).2 (by decide) (by decide) ?_
        show Steps p.tables e below (T8.setTop (mkF m 46 #[.val (.ref ob), .val (.int pv)] [])) _
        refine XS.iconst X8.here hx rfl (hb hby d8_46) ?_
        show Steps p.tables e below (T8.setTop (mkF m 47 #[.val (.ref ob), .val (.int pv)] [(.int (0 : Int32))])) _
        exact retI X8 hx Bd.returns (hb hby d8_47) hr
      · show Q8 Z ob pv lv h0 n0 _ T8.heap _
        rw [e8]
        refine ⟨?_, N0, rfl⟩
        show (some (.int (0 : Int32)) : Option Value) = some (.int (slamF pv lv))
        rw [show (slamF pv lv) = (0 : Int32) from by unfold slamF; rw [if_neg hc6_3, if_neg hc29_10]]
theorem own_lev (z : Int32) : ¬ ((levelF ((1 : Int32) + ((z &&& (2147483647 : Int32)) % (7 : Int32)))) = (0 : Int32)) := by
  have h := c_and z 2147483647 (by decide)
  have r := (c_irem (z &&& (2147483647 : Int32)) 7 7 rfl).1 h.1
  have a := c_iadd 1 ((z &&& (2147483647 : Int32)) % (7 : Int32))
  have g := rng32 ((1 : Int32) + ((z &&& (2147483647 : Int32)) % (7 : Int32)))
  have e1 : (1 : Int32).toInt = 1 := rfl
  have e7 : (7 : Int32).toInt = 7 := rfl
  rw [e1] at a
  unfold levelF
  rw [if_neg (by rw [Int32.lt_iff_toInt_lt, e1]; omega), if_neg (by rw [Int32.lt_iff_toInt_lt, e7]; omega)]
  decide
theorem pd_3 : parseMethodDescriptor "(I)Lcom/example/ruffwork/ruffwork/Strain;" = some ⟨[.int], some (.object "com/example/ruffwork/ruffwork/Strain")⟩ := by decide +kernel
theorem pd_4 : parseMethodDescriptor "(I)Lcom/example/ruffwork/ruffwork/Doubling;" = some ⟨[.int], some (.object "com/example/ruffwork/ruffwork/Doubling")⟩ := by decide +kernel
theorem pd_5 : parseMethodDescriptor "(ILcom/example/ruffwork/ruffwork/Strain;Lcom/example/ruffwork/ruffwork/Doubling;)V" = some ⟨[.int, (.object "com/example/ruffwork/ruffwork/Strain"), (.object "com/example/ruffwork/ruffwork/Doubling")], none⟩ := by decide +kernel
theorem pd_6 : parseMethodDescriptor "(Z)I" = some ⟨[.boolean], some .int⟩ := by decide +kernel
theorem ef_rm0 (m : MethodId) (x0 : Int32) (x1 : Int32) (x2 : Int32) (x3 : Int32) : entryFrame m #[(.int x0), (.int x1), (.int x2), (.int x3)] maxLocals = mkF m 0 #[.val (.int x0), .val (.int x1), .val (.int x2), .val (.int x3), .unset, .unset, .unset, .unset, .unset, .unset] [] := by first | (simp [entryFrame, mkF, argsToLocals, Value.category, maxLocals]; done) | rfl
def Q0 (Z : State) (pl_ : Int32) (ps_ : Int32) (pd_ : Int32) (pv_ : Int32) (w_CLUBS : Addr) (w_DIAMONDS : Addr) (w_HEARTS : Addr) (w_SPADES : Addr) (w_NO_TRUMP : Addr) (w_UNDOUBLED : Addr) (w_DOUBLED : Addr) (w_REDOUBLED : Addr) (h0 : Heap) (n0 : Nat) (v : Option Value) (h : Heap) (L : List Loc) : Prop := v = some (.int 1) ∧ Fr n0 L
set_option maxRecDepth 65536 in
set_option maxHeartbeats 40000000 in
theorem rm0 (l : Launch) (Z : State) (a0 : Array Value) (hw : ∀ d ∈ tables_1, d.before a0 Z = true) (ws : List Jvm.Cond) (pl_ : Int32) (ps_ : Int32) (pd_ : Int32) (pv_ : Int32) (w_CLUBS : Addr) (w_DIAMONDS : Addr) (w_HEARTS : Addr) (w_SPADES : Addr) (w_NO_TRUMP : Addr) (w_UNDOUBLED : Addr) (w_DOUBLED : Addr) (w_REDOUBLED : Addr) (h0 : Heap) (n0 : Nat) (Z0 : n0 ≤ h0.size) (O : Old Z n0 h0) (S_CLUBS : Sta Z Z.heap "com/example/ruffwork/ruffwork/Strain" "CLUBS" "Lcom/example/ruffwork/ruffwork/Strain;" (.ref w_CLUBS)) (S_DIAMONDS : Sta Z Z.heap "com/example/ruffwork/ruffwork/Strain" "DIAMONDS" "Lcom/example/ruffwork/ruffwork/Strain;" (.ref w_DIAMONDS)) (S_HEARTS : Sta Z Z.heap "com/example/ruffwork/ruffwork/Strain" "HEARTS" "Lcom/example/ruffwork/ruffwork/Strain;" (.ref w_HEARTS)) (S_SPADES : Sta Z Z.heap "com/example/ruffwork/ruffwork/Strain" "SPADES" "Lcom/example/ruffwork/ruffwork/Strain;" (.ref w_SPADES)) (S_NO_TRUMP : Sta Z Z.heap "com/example/ruffwork/ruffwork/Strain" "NO_TRUMP" "Lcom/example/ruffwork/ruffwork/Strain;" (.ref w_NO_TRUMP)) (S_UNDOUBLED : Sta Z Z.heap "com/example/ruffwork/ruffwork/Doubling" "UNDOUBLED" "Lcom/example/ruffwork/ruffwork/Doubling;" (.ref w_UNDOUBLED)) (S_DOUBLED : Sta Z Z.heap "com/example/ruffwork/ruffwork/Doubling" "DOUBLED" "Lcom/example/ruffwork/ruffwork/Doubling;" (.ref w_DOUBLED)) (S_REDOUBLED : Sta Z Z.heap "com/example/ruffwork/ruffwork/Doubling" "REDOUBLED" "Lcom/example/ruffwork/ruffwork/Doubling;" (.ref w_REDOUBLED)) :
    MetFree l x (head1 (Jvm.Cond.code x code maxLocals ret :: ws) room_1) (fun a U => a = #[(.int pl_), (.int ps_), (.int pd_), (.int pv_)] ∧ Z.Warmed39 U.vm ∧ U.heap = h0) (fun _ _ _ _ _ => True) (fun _ U o U' => ∃ v L, o = .returned v ∧ Q0 Z pl_ ps_ pd_ pv_ w_CLUBS w_DIAMONDS w_HEARTS w_SPADES w_NO_TRUMP w_UNDOUBLED w_DOUBLED w_REDOUBLED h0 n0 v U'.heap L ∧ ReturnedEndW U o U' L room_1.cells room_1.slots) := by
  refine MetFree.of_bodySF (plainFor_of_name pn_0) hisR ?_
  intro p e s m args below meth c s₁ Bd hml0 hP hK
  obtain ⟨rfl, hZ, hh⟩ := hP
  have hx := Bd.exec
  have hby := Bd.bytes
  have hml : c.maxLocals = 10 := hml0
  have hown : s.vm.findClass "com/example/ruffwork/ruffwork/ContractSlamBonusPinLaw" = some m.cls := findClass_of_methodNamed Bd.named
  have hnm := (name_of_methodNamed Bd.named Bd.method).1
  have X0 : Stand p l e room_1 (s.setVm s.vm) m #[(.int pl_), (.int ps_), (.int pd_), (.int pv_)] below meth c s₁ [] 0 0 := Stand.of_body Bd
  have e0 : s₁.heap = h0 := by rw [← hh, Bd.state]; rfl
  have N0 := Fr.nil n0
  have pre0 : ∀ t, Steps p.tables e below (s₁.setTop (mkF m 0 #[.val (.int pl_), .val (.int ps_), .val (.int pd_), .val (.int pv_), .unset, .unset, .unset, .unset, .unset, .unset] [])) t → Steps p.tables e below (s₁.setTop (entryFrame m #[(.int pl_), (.int ps_), (.int pd_), (.int pv_)] maxLocals)) t := fun t k => castTop (ef_rm0 m pl_ ps_ pd_ pv_) k
  have hS0 : s.Since s.vm 0 := (State.WarmedH.refl s).since 0
  have hwS : ∀ a ∈ Bundle.stringAtoms, a.before a0 Z = true := fun d hd => hw d ((by decide +kernel : ∀ d ∈ Bundle.stringAtoms, d ∈ tables_1) d hd)
  have pre1 : ∀ t, Steps p.tables e below (s₁.setTop (mkF m 14 #[.val (.int pl_), .val (.int ps_), .val (.int pd_), .val (.int pv_), .val (.int ((1 : Int32) + ((pl_ &&& (2147483647 : Int32)) % (7 : Int32)))), .unset, .unset, .unset, .unset, .unset] [(.int (pv_ &&& (1 : Int32)))])) t → Steps p.tables e below (s₁.setTop (entryFrame m #[(.int pl_), (.int ps_), (.int pd_), (.int pv_)] maxLocals)) t := by
    intro t kt
    refine pre0 t ?_
    show Steps p.tables e below (s₁.setTop (mkF m 0 #[.val (.int pl_), .val (.int ps_), .val (.int pd_), .val (.int pv_), .unset, .unset, .unset, .unset, .unset, .unset] [])) _
    refine XS.iconst X0.here hx rfl (hb hby at_0) ?_
    show Steps p.tables e below (s₁.setTop (mkF m 1 #[.val (.int pl_), .val (.int ps_), .val (.int pd_), .val (.int pv_), .unset, .unset, .unset, .unset, .unset, .unset] [(.int (1 : Int32))])) _
    refine XS.iloadN X0.here hx rfl (hb hby at_1) rfl ?_
    show Steps p.tables e below (s₁.setTop (mkF m 2 #[.val (.int pl_), .val (.int ps_), .val (.int pd_), .val (.int pv_), .unset, .unset, .unset, .unset, .unset, .unset] [(.int pl_), (.int (1 : Int32))])) _
    refine X0.ldcInt hx hown (mvT hZ (hw _ (List.mem_of_getElem? (i := 0) rfl))) (g := (mkF m 2 #[.val (.int pl_), .val (.int ps_), .val (.int pd_), .val (.int pv_), .unset, .unset, .unset, .unset, .unset, .unset] [(.int pl_), (.int (1 : Int32))])) rfl (hb hby at_2) _ ?_
    show Steps p.tables e below (s₁.setTop (mkF m 4 #[.val (.int pl_), .val (.int ps_), .val (.int pd_), .val (.int pv_), .unset, .unset, .unset, .unset, .unset, .unset] [(.int (2147483647 : Int32)), (.int pl_), (.int (1 : Int32))])) _
    refine XS.iand X0.here hx rfl (hb hby at_4) rfl ?_
    show Steps p.tables e below (s₁.setTop (mkF m 5 #[.val (.int pl_), .val (.int ps_), .val (.int pd_), .val (.int pv_), .unset, .unset, .unset, .unset, .unset, .unset] [(.int (pl_ &&& (2147483647 : Int32))), (.int (1 : Int32))])) _
    refine XS.bipush X0.here hx rfl (hb hby at_5) ?_
    show Steps p.tables e below (s₁.setTop (mkF m 7 #[.val (.int pl_), .val (.int ps_), .val (.int pd_), .val (.int pv_), .unset, .unset, .unset, .unset, .unset, .unset] [(.int (7 : Int32)), (.int (pl_ &&& (2147483647 : Int32))), (.int (1 : Int32))])) _
    refine iremM X0 hx rfl (hb hby at_7) rfl (by decide) ?_
    show Steps p.tables e below (s₁.setTop (mkF m 8 #[.val (.int pl_), .val (.int ps_), .val (.int pd_), .val (.int pv_), .unset, .unset, .unset, .unset, .unset, .unset] [(.int ((pl_ &&& (2147483647 : Int32)) % (7 : Int32))), (.int (1 : Int32))])) _
    refine XS.iadd X0.here hx rfl (hb hby at_8) rfl ?_
    show Steps p.tables e below (s₁.setTop (mkF m 9 #[.val (.int pl_), .val (.int ps_), .val (.int pd_), .val (.int pv_), .unset, .unset, .unset, .unset, .unset, .unset] [(.int ((1 : Int32) + ((pl_ &&& (2147483647 : Int32)) % (7 : Int32))))])) _
    refine XS.istore X0.here hx rfl (hb hby at_9) rfl (l' := #[.val (.int pl_), .val (.int ps_), .val (.int pd_), .val (.int pv_), .val (.int ((1 : Int32) + ((pl_ &&& (2147483647 : Int32)) % (7 : Int32)))), .unset, .unset, .unset, .unset, .unset]) rfl ?_
    show Steps p.tables e below (s₁.setTop (mkF m 11 #[.val (.int pl_), .val (.int ps_), .val (.int pd_), .val (.int pv_), .val (.int ((1 : Int32) + ((pl_ &&& (2147483647 : Int32)) % (7 : Int32)))), .unset, .unset, .unset, .unset, .unset] [])) _
    refine XS.iloadN X0.here hx rfl (hb hby at_11) rfl ?_
    show Steps p.tables e below (s₁.setTop (mkF m 12 #[.val (.int pl_), .val (.int ps_), .val (.int pd_), .val (.int pv_), .val (.int ((1 : Int32) + ((pl_ &&& (2147483647 : Int32)) % (7 : Int32)))), .unset, .unset, .unset, .unset, .unset] [(.int pv_)])) _
    refine XS.iconst X0.here hx rfl (hb hby at_12) ?_
    show Steps p.tables e below (s₁.setTop (mkF m 13 #[.val (.int pl_), .val (.int ps_), .val (.int pd_), .val (.int pv_), .val (.int ((1 : Int32) + ((pl_ &&& (2147483647 : Int32)) % (7 : Int32)))), .unset, .unset, .unset, .unset, .unset] [(.int (1 : Int32)), (.int pv_)])) _
    refine XS.iand X0.here hx rfl (hb hby at_13) rfl ?_
    show Steps p.tables e below (s₁.setTop (mkF m 14 #[.val (.int pl_), .val (.int ps_), .val (.int pd_), .val (.int pv_), .val (.int ((1 : Int32) + ((pl_ &&& (2147483647 : Int32)) % (7 : Int32)))), .unset, .unset, .unset, .unset, .unset] [(.int (pv_ &&& (1 : Int32)))])) _
    exact kt
  by_cases hc14_2 : (pv_ &&& (1 : Int32)) = (0 : Int32)
  · obtain ⟨T3, h3, X3, e3, E3, A3, D3, -, st3⟩ := newO X0 hx hZ hown (hw _ (List.mem_of_getElem? (i := 1) rfl)) (hw _ (List.mem_of_getElem? (i := 2) rfl)) (hw _ (List.mem_of_getElem? (i := 3) rfl)) e0 (g := (mkF m 24 #[.val (.int pl_), .val (.int ps_), .val (.int pd_), .val (.int pv_), .val (.int ((1 : Int32) + ((pl_ &&& (2147483647 : Int32)) % (7 : Int32)))), .val (.int (0 : Int32)), .unset, .unset, .unset, .unset] [])) rfl (hb hby at_24) (by decide) (by decide)
    obtain ⟨b3, g3⟩ : ∃ z, z = h0.size := ⟨_, rfl⟩
    rw [← g3] at A3 D3 st3
    have g_b3 : n0 ≤ b3 := Nat.le_trans Z0 (Nat.le_of_eq g3.symm)
    have sz_b3 : h0.size ≤ b3 := Nat.le_trans (Keep.refl h0 []).1 (Nat.le_of_eq g3.symm)
    have Kc3 : Keep h0 h3 [] := (Keep.refl h0 []).ext E3
    have Oc3 := O.ext E3
    have F_level_b3 : Fld Z h3 b3 "com/example/ruffwork/ruffwork/Contract" "level" "I" (.int (0 : Int32)) := D3 (Or.inr (hw _ (List.mem_of_getElem? (i := 46) rfl))) (ty := .int) (by decide)
    have F_strain_b3 : Fld Z h3 b3 "com/example/ruffwork/ruffwork/Contract" "strain" "Lcom/example/ruffwork/ruffwork/Strain;" .null := D3 (Or.inr (hw _ (List.mem_of_getElem? (i := 48) rfl))) (ty := (.object "com/example/ruffwork/ruffwork/Strain")) (by decide)
    have F_doubling_b3 : Fld Z h3 b3 "com/example/ruffwork/ruffwork/Contract" "doubling" "Lcom/example/ruffwork/ruffwork/Doubling;" .null := D3 (Or.inr (hw _ (List.mem_of_getElem? (i := 50) rfl))) (ty := (.object "com/example/ruffwork/ruffwork/Doubling")) (by decide)
    obtain ⟨_, _, ⟨T4, L4, k4, n4⟩, -, X4, ⟨Lc4, hQ4, l4, y4, z4⟩, st4⟩ := Jvm.LawKit.callS X3 hx (y := (⟨"com/example/ruffwork/ruffwork/ContractSlamBonusPinLaw", "strainOf", "(I)Lcom/example/ruffwork/ruffwork/Strain;"⟩ : MethodName)) hown (mvT hZ (hw _ (List.mem_of_getElem? (i := 4) rfl))) (mvT hZ (hw _ (List.mem_of_getElem? (i := 5) rfl))) (mvT hZ (hw _ (List.mem_of_getElem? (i := 6) rfl))) (mvT hZ (hw _ (List.mem_of_getElem? (i := 7) rfl))) (by decide) (backOf (W := 3) (rm1 l Z a0 hw [] ps_ w_CLUBS w_DIAMONDS w_HEARTS w_SPADES w_NO_TRUMP h3 n0 (Nat.le_trans Z0 Kc3.1) (S_CLUBS.ext Oc3.2) (S_DIAMONDS.ext Oc3.2) (S_HEARTS.ext Oc3.2) (S_SPADES.ext Oc3.2) (S_NO_TRUMP.ext Oc3.2)) hZ (hw _ (List.mem_of_getElem? (i := 7) rfl)) (hw _ (List.mem_of_getElem? (i := 6) rfl)) (by decide) (by decide)) (g := (mkF m 31 #[.val (.int pl_), .val (.int ps_), .val (.int pd_), .val (.int pv_), .val (.int ((1 : Int32) + ((pl_ &&& (2147483647 : Int32)) % (7 : Int32)))), .val (.int (0 : Int32)), .unset, .unset, .unset, .unset] [(.int ps_), (.int ((1 : Int32) + ((pl_ &&& (2147483647 : Int32)) % (7 : Int32)))), (.ref b3), (.ref b3)])) rfl (by rw [hml]; rfl) (argsL := [(.int ps_)]) (rest := [(.int ((1 : Int32) + ((pl_ &&& (2147483647 : Int32)) % (7 : Int32)))), (.ref b3), (.ref b3)]) (lenOf pd_3 rfl) rfl (by show 2 * 0 + _ ≤ _; exact Nat.le_of_eq rfl) (hb hby at_31) (fun _ _ => ⟨rfl, e3, (by decide : 1 + 0 ≤ _), (by decide : 3 + 0 ≤ _)⟩)
    dsimp only [Pt.U, Pt.locs, Pt.cells, Pt.slots] at X4 l4 y4 z4 st4 hQ4
    subst l4 y4 z4
    obtain ⟨rfl, N4q, e4⟩ := hQ4
    have N4 := Fr.app N0 N4q
    obtain ⟨_, _, ⟨T5, L5, k5, n5⟩, -, X5, ⟨Lc5, hQ5, l5, y5, z5⟩, st5⟩ := Jvm.LawKit.callS X4 hx (y := (⟨"com/example/ruffwork/ruffwork/ContractSlamBonusPinLaw", "doublingOf", "(I)Lcom/example/ruffwork/ruffwork/Doubling;"⟩ : MethodName)) hown (mvT hZ (hw _ (List.mem_of_getElem? (i := 11) rfl))) (mvT hZ (hw _ (List.mem_of_getElem? (i := 12) rfl))) (mvT hZ (hw _ (List.mem_of_getElem? (i := 6) rfl))) (mvT hZ (hw _ (List.mem_of_getElem? (i := 13) rfl))) (by decide) (backOf (W := 4) (rm2 l Z a0 hw [] pd_ w_UNDOUBLED w_DOUBLED w_REDOUBLED h3 n0 (Nat.le_trans Z0 Kc3.1) (S_UNDOUBLED.ext Oc3.2) (S_DOUBLED.ext Oc3.2) (S_REDOUBLED.ext Oc3.2)) hZ (hw _ (List.mem_of_getElem? (i := 13) rfl)) (hw _ (List.mem_of_getElem? (i := 6) rfl)) (by decide) (by decide)) (g := (mkF m 35 #[.val (.int pl_), .val (.int ps_), .val (.int pd_), .val (.int pv_), .val (.int ((1 : Int32) + ((pl_ &&& (2147483647 : Int32)) % (7 : Int32)))), .val (.int (0 : Int32)), .unset, .unset, .unset, .unset] [(.int pd_), (.ref (strainF ps_ w_CLUBS w_DIAMONDS w_HEARTS w_SPADES w_NO_TRUMP)), (.int ((1 : Int32) + ((pl_ &&& (2147483647 : Int32)) % (7 : Int32)))), (.ref b3), (.ref b3)])) rfl (by rw [hml]; rfl) (argsL := [(.int pd_)]) (rest := [(.ref (strainF ps_ w_CLUBS w_DIAMONDS w_HEARTS w_SPADES w_NO_TRUMP)), (.int ((1 : Int32) + ((pl_ &&& (2147483647 : Int32)) % (7 : Int32)))), (.ref b3), (.ref b3)]) (lenOf pd_4 rfl) rfl (by show 2 * 0 + _ ≤ _; exact Nat.le_of_eq rfl) (hb hby at_35) (fun _ _ => ⟨rfl, e4, (by decide : 1 + 0 ≤ _), (by decide : 3 + 0 ≤ _)⟩)
    dsimp only [Pt.U, Pt.locs, Pt.cells, Pt.slots] at X5 l5 y5 z5 st5 hQ5
    subst l5 y5 z5
    obtain ⟨rfl, N5q, e5⟩ := hQ5
    have N5 := Fr.app N4 N5q
    obtain ⟨_, _, ⟨T6, L6, k6, n6⟩, -, X6, hSc6, hgc6, ⟨Lc6, hQ6, l6, y6, z6⟩, st6⟩ := X5.specialBackS hx (y := (⟨"com/example/ruffwork/ruffwork/Contract", "<init>", "(ILcom/example/ruffwork/ruffwork/Strain;Lcom/example/ruffwork/ruffwork/Doubling;)V"⟩ : MethodName)) rfl hown (mvT hZ (hw _ (List.mem_of_getElem? (i := 17) rfl))) (mvT hZ (hw _ (List.mem_of_getElem? (i := 18) rfl))) (mvT hZ (hw _ (List.mem_of_getElem? (i := 19) rfl))) (by decide) (backOfS (W := 1) (rm3 l Z a0 hw [] b3 ((1 : Int32) + ((pl_ &&& (2147483647 : Int32)) % (7 : Int32))) (strainF ps_ w_CLUBS w_DIAMONDS w_HEARTS w_SPADES w_NO_TRUMP) (doublF pd_ w_UNDOUBLED w_DOUBLED w_REDOUBLED) h3 n0 (Nat.le_trans Z0 Kc3.1) A3 g_b3 F_level_b3 F_strain_b3 F_doubling_b3 (own_lev pl_)) hZ (hw _ (List.mem_of_getElem? (i := 19) rfl)) (hw _ (List.mem_of_getElem? (i := 3) rfl)) (by decide) (by decide)) (g := (mkF m 38 #[.val (.int pl_), .val (.int ps_), .val (.int pd_), .val (.int pv_), .val (.int ((1 : Int32) + ((pl_ &&& (2147483647 : Int32)) % (7 : Int32)))), .val (.int (0 : Int32)), .unset, .unset, .unset, .unset] [(.ref (doublF pd_ w_UNDOUBLED w_DOUBLED w_REDOUBLED)), (.ref (strainF ps_ w_CLUBS w_DIAMONDS w_HEARTS w_SPADES w_NO_TRUMP)), (.int ((1 : Int32) + ((pl_ &&& (2147483647 : Int32)) % (7 : Int32)))), (.ref b3), (.ref b3)])) rfl (by rw [hml]; rfl) (Steps.refl _) (a := b3) (argsL := [(.int ((1 : Int32) + ((pl_ &&& (2147483647 : Int32)) % (7 : Int32)))), (.ref (strainF ps_ w_CLUBS w_DIAMONDS w_HEARTS w_SPADES w_NO_TRUMP)), (.ref (doublF pd_ w_UNDOUBLED w_DOUBLED w_REDOUBLED))]) (rest := [(.ref b3)]) (lenOf pd_5 rfl) rfl (by show 2 * 0 + _ ≤ _; exact Nat.le_of_eq rfl) (hb hby at_38) (fun _ _ => ⟨rfl, e5, (by decide : 1 + 4 ≤ _), (by decide : 3 + 64 ≤ _)⟩)
    dsimp only [Pt.U, Pt.locs, Pt.cells, Pt.slots] at X6 l6 y6 z6 st6 hQ6 hSc6 hgc6
    subst l6 y6 z6
    obtain ⟨rfl, N6q, K6, A6c, Fl6⟩ := hQ6
    have N6 := Fr.app N5 N6q
    obtain ⟨Xr6, hS6, hZ6, hown6⟩ := rebS (n1 := T5.heap.size) hS0 (by rw [e5]; exact (Nat.le_trans (Nat.zero_le _) E3.1)) X6 hSc6 hgc6 hZ hown
    have Kc6 : Keep h0 T6.heap [] := Kc3.trans K6 (allS (Or.inr sz_b3) all0)
    have Oc6 := Oc3.keep K6 (allS g_b3 all0)
    have pre7 : ∀ t, Steps p.tables e below (T6.setTop (mkF m 52 #[.val (.int pl_), .val (.int ps_), .val (.int pd_), .val (.int pv_), .val (.int ((1 : Int32) + ((pl_ &&& (2147483647 : Int32)) % (7 : Int32)))), .val (.int (0 : Int32)), .val (.ref b3), .val (.int (500 : Int32)), .unset, .unset] [(.int (7 : Int32)), (.int ((1 : Int32) + ((pl_ &&& (2147483647 : Int32)) % (7 : Int32))))])) t → Steps p.tables e below (s₁.setTop (entryFrame m #[(.int pl_), (.int ps_), (.int pd_), (.int pv_)] maxLocals)) t := by
      intro t kt
      refine pre1 t ?_
      show Steps p.tables e below (s₁.setTop (mkF m 14 #[.val (.int pl_), .val (.int ps_), .val (.int pd_), .val (.int pv_), .val (.int ((1 : Int32) + ((pl_ &&& (2147483647 : Int32)) % (7 : Int32)))), .unset, .unset, .unset, .unset, .unset] [(.int (pv_ &&& (1 : Int32)))])) _
      refine XS.ifYes X0.here hx rfl (pc0 := 14) (pc' := 21) rfl (hb hby at_14) rfl ((if0 _ _).trans (teq hc14_2).1) (by decide) (by decide) ?_
      show Steps p.tables e below (s₁.setTop (mkF m 21 #[.val (.int pl_), .val (.int ps_), .val (.int pd_), .val (.int pv_), .val (.int ((1 : Int32) + ((pl_ &&& (2147483647 : Int32)) % (7 : Int32)))), .unset, .unset, .unset, .unset, .unset] [])) _
      refine XS.iconst X0.here hx rfl (hb hby at_21) ?_
      show Steps p.tables e below (s₁.setTop (mkF m 22 #[.val (.int pl_), .val (.int ps_), .val (.int pd_), .val (.int pv_), .val (.int ((1 : Int32) + ((pl_ &&& (2147483647 : Int32)) % (7 : Int32)))), .unset, .unset, .unset, .unset, .unset] [(.int (0 : Int32))])) _
      refine XS.istore X0.here hx rfl (hb hby at_22) rfl (l' := #[.val (.int pl_), .val (.int ps_), .val (.int pd_), .val (.int pv_), .val (.int ((1 : Int32) + ((pl_ &&& (2147483647 : Int32)) % (7 : Int32)))), .val (.int (0 : Int32)), .unset, .unset, .unset, .unset]) rfl ?_
      show Steps p.tables e below (s₁.setTop (mkF m 24 #[.val (.int pl_), .val (.int ps_), .val (.int pd_), .val (.int pv_), .val (.int ((1 : Int32) + ((pl_ &&& (2147483647 : Int32)) % (7 : Int32)))), .val (.int (0 : Int32)), .unset, .unset, .unset, .unset] [])) _
      refine st3 _ ?_
      show Steps p.tables e below (T3.setTop (mkF m 27 #[.val (.int pl_), .val (.int ps_), .val (.int pd_), .val (.int pv_), .val (.int ((1 : Int32) + ((pl_ &&& (2147483647 : Int32)) % (7 : Int32)))), .val (.int (0 : Int32)), .unset, .unset, .unset, .unset] [(.ref b3)])) _
      refine XS.dup X3.here hx rfl (hb hby at_27) rfl rfl ?_
      show Steps p.tables e below (T3.setTop (mkF m 28 #[.val (.int pl_), .val (.int ps_), .val (.int pd_), .val (.int pv_), .val (.int ((1 : Int32) + ((pl_ &&& (2147483647 : Int32)) % (7 : Int32)))), .val (.int (0 : Int32)), .unset, .unset, .unset, .unset] [(.ref b3), (.ref b3)])) _
      refine XS.iload X3.here hx rfl (hb hby at_28) rfl ?_
      show Steps p.tables e below (T3.setTop (mkF m 30 #[.val (.int pl_), .val (.int ps_), .val (.int pd_), .val (.int pv_), .val (.int ((1 : Int32) + ((pl_ &&& (2147483647 : Int32)) % (7 : Int32)))), .val (.int (0 : Int32)), .unset, .unset, .unset, .unset] [(.int ((1 : Int32) + ((pl_ &&& (2147483647 : Int32)) % (7 : Int32)))), (.ref b3), (.ref b3)])) _
      refine XS.iloadN X3.here hx rfl (hb hby at_30) rfl ?_
      show Steps p.tables e below (T3.setTop (mkF m 31 #[.val (.int pl_), .val (.int ps_), .val (.int pd_), .val (.int pv_), .val (.int ((1 : Int32) + ((pl_ &&& (2147483647 : Int32)) % (7 : Int32)))), .val (.int (0 : Int32)), .unset, .unset, .unset, .unset] [(.int ps_), (.int ((1 : Int32) + ((pl_ &&& (2147483647 : Int32)) % (7 : Int32)))), (.ref b3), (.ref b3)])) _
      refine st4 _ ?_
      show Steps p.tables e below (T4.setTop (mkF m 34 #[.val (.int pl_), .val (.int ps_), .val (.int pd_), .val (.int pv_), .val (.int ((1 : Int32) + ((pl_ &&& (2147483647 : Int32)) % (7 : Int32)))), .val (.int (0 : Int32)), .unset, .unset, .unset, .unset] [(.ref (strainF ps_ w_CLUBS w_DIAMONDS w_HEARTS w_SPADES w_NO_TRUMP)), (.int ((1 : Int32) + ((pl_ &&& (2147483647 : Int32)) % (7 : Int32)))), (.ref b3), (.ref b3)])) _
      refine XS.iloadN X4.here hx rfl (hb hby at_34) rfl ?_
      show Steps p.tables e below (T4.setTop (mkF m 35 #[.val (.int pl_), .val (.int ps_), .val (.int pd_), .val (.int pv_), .val (.int ((1 : Int32) + ((pl_ &&& (2147483647 : Int32)) % (7 : Int32)))), .val (.int (0 : Int32)), .unset, .unset, .unset, .unset] [(.int pd_), (.ref (strainF ps_ w_CLUBS w_DIAMONDS w_HEARTS w_SPADES w_NO_TRUMP)), (.int ((1 : Int32) + ((pl_ &&& (2147483647 : Int32)) % (7 : Int32)))), (.ref b3), (.ref b3)])) _
      refine st5 _ ?_
      show Steps p.tables e below (T5.setTop (mkF m 38 #[.val (.int pl_), .val (.int ps_), .val (.int pd_), .val (.int pv_), .val (.int ((1 : Int32) + ((pl_ &&& (2147483647 : Int32)) % (7 : Int32)))), .val (.int (0 : Int32)), .unset, .unset, .unset, .unset] [(.ref (doublF pd_ w_UNDOUBLED w_DOUBLED w_REDOUBLED)), (.ref (strainF ps_ w_CLUBS w_DIAMONDS w_HEARTS w_SPADES w_NO_TRUMP)), (.int ((1 : Int32) + ((pl_ &&& (2147483647 : Int32)) % (7 : Int32)))), (.ref b3), (.ref b3)])) _
      refine st6.trans ?_
      show Steps p.tables e below (T6.setTop (mkF m 41 #[.val (.int pl_), .val (.int ps_), .val (.int pd_), .val (.int pv_), .val (.int ((1 : Int32) + ((pl_ &&& (2147483647 : Int32)) % (7 : Int32)))), .val (.int (0 : Int32)), .unset, .unset, .unset, .unset] [(.ref b3)])) _
      refine XS.astore Xr6.here hx rfl (hb hby at_41) rfl rfl (l' := #[.val (.int pl_), .val (.int ps_), .val (.int pd_), .val (.int pv_), .val (.int ((1 : Int32) + ((pl_ &&& (2147483647 : Int32)) % (7 : Int32)))), .val (.int (0 : Int32)), .val (.ref b3), .unset, .unset, .unset]) rfl ?_
      show Steps p.tables e below (T6.setTop (mkF m 43 #[.val (.int pl_), .val (.int ps_), .val (.int pd_), .val (.int pv_), .val (.int ((1 : Int32) + ((pl_ &&& (2147483647 : Int32)) % (7 : Int32)))), .val (.int (0 : Int32)), .val (.ref b3), .unset, .unset, .unset] [])) _
      refine XS.sipush Xr6.here hx rfl (hb hby at_43) ?_
      show Steps p.tables e below (T6.setTop (mkF m 46 #[.val (.int pl_), .val (.int ps_), .val (.int pd_), .val (.int pv_), .val (.int ((1 : Int32) + ((pl_ &&& (2147483647 : Int32)) % (7 : Int32)))), .val (.int (0 : Int32)), .val (.ref b3), .unset, .unset, .unset] [(.int (500 : Int32))])) _
      refine XS.istore Xr6.here hx rfl (hb hby at_46) rfl (l' := #[.val (.int pl_), .val (.int ps_), .val (.int pd_), .val (.int pv_), .val (.int ((1 : Int32) + ((pl_ &&& (2147483647 : Int32)) % (7 : Int32)))), .val (.int (0 : Int32)), .val (.ref b3), .val (.int (500 : Int32)), .unset, .unset]) rfl ?_
      show Steps p.tables e below (T6.setTop (mkF m 48 #[.val (.int pl_), .val (.int ps_), .val (.int pd_), .val (.int pv_), .val (.int ((1 : Int32) + ((pl_ &&& (2147483647 : Int32)) % (7 : Int32)))), .val (.int (0 : Int32)), .val (.ref b3), .val (.int (500 : Int32)), .unset, .unset] [])) _
      refine XS.iload Xr6.here hx rfl (hb hby at_48) rfl ?_
      show Steps p.tables e below (T6.setTop (mkF m 50 #[.val (.int pl_), .val (.int ps_), .val (.int pd_), .val (.int pv_), .val (.int ((1 : Int32) + ((pl_ &&& (2147483647 : Int32)) % (7 : Int32)))), .val (.int (0 : Int32)), .val (.ref b3), .val (.int (500 : Int32)), .unset, .unset] [(.int ((1 : Int32) + ((pl_ &&& (2147483647 : Int32)) % (7 : Int32))))])) _
      refine XS.bipush Xr6.here hx rfl (hb hby at_50) ?_
      show Steps p.tables e below (T6.setTop (mkF m 52 #[.val (.int pl_), .val (.int ps_), .val (.int pd_), .val (.int pv_), .val (.int ((1 : Int32) + ((pl_ &&& (2147483647 : Int32)) % (7 : Int32)))), .val (.int (0 : Int32)), .val (.ref b3), .val (.int (500 : Int32)), .unset, .unset] [(.int (7 : Int32)), (.int ((1 : Int32) + ((pl_ &&& (2147483647 : Int32)) % (7 : Int32))))])) _
      exact kt
    by_cases hc52_8 : ((1 : Int32) + ((pl_ &&& (2147483647 : Int32)) % (7 : Int32))) = (7 : Int32)
    · obtain ⟨cq9, kq9, q9a, q9b, q9c⟩ := isOf hZ6 rfl A6c
      obtain ⟨_, _, ⟨T9, L9, k9, n9⟩, -, X9, ⟨Lc9, hQ9, l9, y9, z9⟩, st9⟩ := Xr6.virtualBack hx (y := (⟨"com/example/ruffwork/ruffwork/Contract", "slamBonus", "(Z)I"⟩ : MethodName)) (z := (⟨"com/example/ruffwork/ruffwork/Contract", "slamBonus", "(Z)I"⟩ : MethodName)) hown6 (mvT hZ6 (hw _ (List.mem_of_getElem? (i := 51) rfl))) (mvT hZ6 (hw _ (List.mem_of_getElem? (i := 52) rfl))) (notFace_of_selects (args := #[]) (mvT hZ6 (hw _ (List.mem_of_getElem? (i := 54) rfl)))) (mvT hZ6 (hw _ (List.mem_of_getElem? (i := 54) rfl))) (mvT hZ6 (hw _ (List.mem_of_getElem? (i := 53) rfl))) (by decide) (backOf (W := 0) (rm8 l Z a0 hw [] b3 (0 : Int32) ((1 : Int32) + ((pl_ &&& (2147483647 : Int32)) % (7 : Int32))) T6.heap n0 (Nat.le_trans Z0 Kc6.1) Fl6) hZ6 (hw _ (List.mem_of_getElem? (i := 55) rfl)) (hw _ (List.mem_of_getElem? (i := 3) rfl)) (by decide) (by decide)) q9a q9c (g := (mkF m 104 #[.val (.int pl_), .val (.int ps_), .val (.int pd_), .val (.int pv_), .val (.int ((1 : Int32) + ((pl_ &&& (2147483647 : Int32)) % (7 : Int32)))), .val (.int (0 : Int32)), .val (.ref b3), .val (.int (500 : Int32)), .val (.int (1000 : Int32)), .val (.int (1000 : Int32))] [(.int (0 : Int32)), (.ref b3)])) rfl (by rw [hml]; rfl) (Steps.refl _) (argsL := [(.int (0 : Int32))]) (rest := []) (lenOf pd_6 rfl) rfl (by show 2 * 0 + _ ≤ _; exact Nat.le_of_eq rfl) (hb hby at_104) (fun _ _ => ⟨rfl, rfl, (by decide : 5 + 0 ≤ _), (by decide : 67 + 0 ≤ _)⟩)
      dsimp only [Pt.U, Pt.locs, Pt.cells, Pt.slots] at X9 l9 y9 z9 st9 hQ9
      subst l9 y9 z9
      obtain ⟨rfl, N9q, e9⟩ := hQ9
      have N9 := Fr.app N6 N9q
      obtain ⟨fs, hr, hrun, hended, hend⟩ := Stand.leaveW (s := s) (vm₁ := T6.vm) X9 hS6 (by rw [e9]; exact (Nat.le_refl _)) (v := some (.int (1 : Int32))) (fun h => by rw [Bd.returns] at h; cases h)
      refine ⟨_, _, pre7 _ ?_, hrun, hended, _, _, rfl, ?_, hend.1, hend.2.1, hend.2.2.1, hend.2.2.2.mono (by decide) (by decide)⟩
      · show Steps p.tables e below (T6.setTop (mkF m 52 #[.val (.int pl_), .val (.int ps_), .val (.int pd_), .val (.int pv_), .val (.int ((1 : Int32) + ((pl_ &&& (2147483647 : Int32)) % (7 : Int32)))), .val (.int (0 : Int32)), .val (.ref b3), .val (.int (500 : Int32)), .unset, .unset] [(.int (7 : Int32)), (.int ((1 : Int32) + ((pl_ &&& (2147483647 : Int32)) % (7 : Int32))))])) _
        refine XS.icmpNo Xr6.here hx rfl (hb hby at_52) rfl (teq hc52_8).2 ?_
        show Steps p.tables e below (T6.setTop (mkF m 55 #[.val (.int pl_), .val (.int ps_), .val (.int pd_), .val (.int pv_), .val (.int ((1 : Int32) + ((pl_ &&& (2147483647 : Int32)) % (7 : Int32)))), .val (.int (0 : Int32)), .val (.ref b3), .val (.int (500 : Int32)), .unset, .unset] [])) _
        refine XS.iconst Xr6.here hx rfl (hb hby at_55) ?_
        show Steps p.tables e below (T6.setTop (mkF m 56 #[.val (.int pl_), .val (.int ps_), .val (.int pd_), .val (.int pv_), .val (.int ((1 : Int32) + ((pl_ &&& (2147483647 : Int32)) % (7 : Int32)))), .val (.int (0 : Int32)), .val (.ref b3), .val (.int (500 : Int32)), .unset, .unset] [(.int (2 : Int32))])) _
        refine XS.iload Xr6.here hx rfl (hb hby at_56) rfl ?_
        show Steps p.tables e below (T6.setTop (mkF m 58 #[.val (.int pl_), .val (.int ps_), .val (.int pd_), .val (.int pv_), .val (.int ((1 : Int32) + ((pl_ &&& (2147483647 : Int32)) % (7 : Int32)))), .val (.int (0 : Int32)), .val (.ref b3), .val (.int (500 : Int32)), .unset, .unset] [(.int (500 : Int32)), (.int (2 : Int32))])) _
        refine XS.imul Xr6.here hx rfl (hb hby at_58) rfl ?_
        show Steps p.tables e below (T6.setTop (mkF m 59 #[.val (.int pl_), .val (.int ps_), .val (.int pd_), .val (.int pv_), .val (.int ((1 : Int32) + ((pl_ &&& (2147483647 : Int32)) % (7 : Int32)))), .val (.int (0 : Int32)), .val (.ref b3), .val (.int (500 : Int32)), .unset, .unset] [(.int (1000 : Int32))])) _
        refine XS.istore Xr6.here hx rfl (hb hby at_59) rfl (l' := #[.val (.int pl_), .val (.int ps_), .val (.int pd_), .val (.int pv_), .val (.int ((1 : Int32) + ((pl_ &&& (2147483647 : Int32)) % (7 : Int32)))), .val (.int (0 : Int32)), .val (.ref b3), .val (.int (500 : Int32)), .val (.int (1000 : Int32)), .unset]) rfl ?_
        show Steps p.tables e below (T6.setTop (mkF m 61 #[.val (.int pl_), .val (.int ps_), .val (.int pd_), .val (.int pv_), .val (.int ((1 : Int32) + ((pl_ &&& (2147483647 : Int32)) % (7 : Int32)))), .val (.int (0 : Int32)), .val (.ref b3), .val (.int (500 : Int32)), .val (.int (1000 : Int32)), .unset] [])) _
        refine XS.goto Xr6.here hx rfl (pc0 := 61) (pc' := 81) rfl (hb hby at_61) (by decide) (by decide) ?_
        show Steps p.tables e below (T6.setTop (mkF m 81 #[.val (.int pl_), .val (.int ps_), .val (.int pd_), .val (.int pv_), .val (.int ((1 : Int32) + ((pl_ &&& (2147483647 : Int32)) % (7 : Int32)))), .val (.int (0 : Int32)), .val (.ref b3), .val (.int (500 : Int32)), .val (.int (1000 : Int32)), .unset] [])) _
        refine XS.iload Xr6.here hx rfl (hb hby at_81) rfl ?_
        show Steps p.tables e below (T6.setTop (mkF m 83 #[.val (.int pl_), .val (.int ps_), .val (.int pd_), .val (.int pv_), .val (.int ((1 : Int32) + ((pl_ &&& (2147483647 : Int32)) % (7 : Int32)))), .val (.int (0 : Int32)), .val (.ref b3), .val (.int (500 : Int32)), .val (.int (1000 : Int32)), .unset] [(.int (0 : Int32))])) _
        refine XS.ifYes Xr6.here hx rfl (pc0 := 83) (pc' := 96) rfl (hb hby at_83) rfl ((if0 _ _).trans (teq (rfl : (0 : Int32) = (0 : Int32))).1) (by decide) (by decide) ?_
        show Steps p.tables e below (T6.setTop (mkF m 96 #[.val (.int pl_), .val (.int ps_), .val (.int pd_), .val (.int pv_), .val (.int ((1 : Int32) + ((pl_ &&& (2147483647 : Int32)) % (7 : Int32)))), .val (.int (0 : Int32)), .val (.ref b3), .val (.int (500 : Int32)), .val (.int (1000 : Int32)), .unset] [])) _
        refine XS.iload Xr6.here hx rfl (hb hby at_96) rfl ?_
        show Steps p.tables e below (T6.setTop (mkF m 98 #[.val (.int pl_), .val (.int ps_), .val (.int pd_), .val (.int pv_), .val (.int ((1 : Int32) + ((pl_ &&& (2147483647 : Int32)) % (7 : Int32)))), .val (.int (0 : Int32)), .val (.ref b3), .val (.int (500 : Int32)), .val (.int (1000 : Int32)), .unset] [(.int (1000 : Int32))])) _
        refine XS.istore Xr6.here hx rfl (hb hby at_98) rfl (l' := #[.val (.int pl_), .val (.int ps_), .val (.int pd_), .val (.int pv_), .val (.int ((1 : Int32) + ((pl_ &&& (2147483647 : Int32)) % (7 : Int32)))), .val (.int (0 : Int32)), .val (.ref b3), .val (.int (500 : Int32)), .val (.int (1000 : Int32)), .val (.int (1000 : Int32))]) rfl ?_
        show Steps p.tables e below (T6.setTop (mkF m 100 #[.val (.int pl_), .val (.int ps_), .val (.int pd_), .val (.int pv_), .val (.int ((1 : Int32) + ((pl_ &&& (2147483647 : Int32)) % (7 : Int32)))), .val (.int (0 : Int32)), .val (.ref b3), .val (.int (500 : Int32)), .val (.int (1000 : Int32)), .val (.int (1000 : Int32))] [])) _
        refine XS.aload Xr6.here hx rfl (hb hby at_100) rfl rfl ?_
        show Steps p.tables e below (T6.setTop (mkF m 102 #[.val (.int pl_), .val (.int ps_), .val (.int pd_), .val (.int pv_), .val (.int ((1 : Int32) + ((pl_ &&& (2147483647 : Int32)) % (7 : Int32)))), .val (.int (0 : Int32)), .val (.ref b3), .val (.int (500 : Int32)), .val (.int (1000 : Int32)), .val (.int (1000 : Int32))] [(.ref b3)])) _
        refine XS.iload Xr6.here hx rfl (hb hby at_102) rfl ?_
        show Steps p.tables e below (T6.setTop (mkF m 104 #[.val (.int pl_), .val (.int ps_), .val (.int pd_), .val (.int pv_), .val (.int ((1 : Int32) + ((pl_ &&& (2147483647 : Int32)) % (7 : Int32)))), .val (.int (0 : Int32)), .val (.ref b3), .val (.int (500 : Int32)), .val (.int (1000 : Int32)), .val (.int (1000 : Int32))] [(.int (0 : Int32)), (.ref b3)])) _
        refine st9.trans ?_
        show Steps p.tables e below (T9.setTop (mkF m 107 #[.val (.int pl_), .val (.int ps_), .val (.int pd_), .val (.int pv_), .val (.int ((1 : Int32) + ((pl_ &&& (2147483647 : Int32)) % (7 : Int32)))), .val (.int (0 : Int32)), .val (.ref b3), .val (.int (500 : Int32)), .val (.int (1000 : Int32)), .val (.int (1000 : Int32))] [(.int (slamF (0 : Int32) ((1 : Int32) + ((pl_ &&& (2147483647 : Int32)) % (7 : Int32)))))])) _
        refine XS.iload X9.here hx rfl (hb hby at_107) rfl ?_
        show Steps p.tables e below (T9.setTop (mkF m 109 #[.val (.int pl_), .val (.int ps_), .val (.int pd_), .val (.int pv_), .val (.int ((1 : Int32) + ((pl_ &&& (2147483647 : Int32)) % (7 : Int32)))), .val (.int (0 : Int32)), .val (.ref b3), .val (.int (500 : Int32)), .val (.int (1000 : Int32)), .val (.int (1000 : Int32))] [(.int (1000 : Int32)), (.int (slamF (0 : Int32) ((1 : Int32) + ((pl_ &&& (2147483647 : Int32)) % (7 : Int32)))))])) _
        refine XS.icmpNo X9.here hx rfl (hb hby at_109) rfl (teq (by rw [hc52_8]; first | done | decide +kernel : (slamF (0 : Int32) ((1 : Int32) + ((pl_ &&& (2147483647 : Int32)) % (7 : Int32)))) = (1000 : Int32))).2 ?_
        show Steps p.tables e below (T9.setTop (mkF m 112 #[.val (.int pl_), .val (.int ps_), .val (.int pd_), .val (.int pv_), .val (.int ((1 : Int32) + ((pl_ &&& (2147483647 : Int32)) % (7 : Int32)))), .val (.int (0 : Int32)), .val (.ref b3), .val (.int (500 : Int32)), .val (.int (1000 : Int32)), .val (.int (1000 : Int32))] [])) _
        refine XS.iconst X9.here hx rfl (hb hby at_112) ?_
        show Steps p.tables e below (T9.setTop (mkF m 113 #[.val (.int pl_), .val (.int ps_), .val (.int pd_), .val (.int pv_), .val (.int ((1 : Int32) + ((pl_ &&& (2147483647 : Int32)) % (7 : Int32)))), .val (.int (0 : Int32)), .val (.ref b3), .val (.int (500 : Int32)), .val (.int (1000 : Int32)), .val (.int (1000 : Int32))] [(.int (1 : Int32))])) _
        refine XS.goto X9.here hx rfl (pc0 := 113) (pc' := 117) rfl (hb hby at_113) (by decide) (by decide) ?_
        show Steps p.tables e below (T9.setTop (mkF m 117 #[.val (.int pl_), .val (.int ps_), .val (.int pd_), .val (.int pv_), .val (.int ((1 : Int32) + ((pl_ &&& (2147483647 : Int32)) % (7 : Int32)))), .val (.int (0 : Int32)), .val (.ref b3), .val (.int (500 : Int32)), .val (.int (1000 : Int32)), .val (.int (1000 : Int32))] [(.int (1 : Int32))])) _
        exact retN X9 hx (t := .boolean) Bd.returns (by simp) (hb hby at_117) hr
      · show Q0 Z pl_ ps_ pd_ pv_ w_CLUBS w_DIAMONDS w_HEARTS w_SPADES w_NO_TRUMP w_UNDOUBLED w_DOUBLED w_REDOUBLED h0 n0 _ T9.heap _
        rw [e9]
        exact ⟨rfl, N9⟩
    · have pre11 : ∀ t, Steps p.tables e below (T6.setTop (mkF m 68 #[.val (.int pl_), .val (.int ps_), .val (.int pd_), .val (.int pv_), .val (.int ((1 : Int32) + ((pl_ &&& (2147483647 : Int32)) % (7 : Int32)))), .val (.int (0 : Int32)), .val (.ref b3), .val (.int (500 : Int32)), .unset, .unset] [(.int (6 : Int32)), (.int ((1 : Int32) + ((pl_ &&& (2147483647 : Int32)) % (7 : Int32))))])) t → Steps p.tables e below (s₁.setTop (entryFrame m #[(.int pl_), (.int ps_), (.int pd_), (.int pv_)] maxLocals)) t := by
        intro t kt
        refine pre7 t ?_
        show Steps p.tables e below (T6.setTop (mkF m 52 #[.val (.int pl_), .val (.int ps_), .val (.int pd_), .val (.int pv_), .val (.int ((1 : Int32) + ((pl_ &&& (2147483647 : Int32)) % (7 : Int32)))), .val (.int (0 : Int32)), .val (.ref b3), .val (.int (500 : Int32)), .unset, .unset] [(.int (7 : Int32)), (.int ((1 : Int32) + ((pl_ &&& (2147483647 : Int32)) % (7 : Int32))))])) _
        refine XS.icmpYes Xr6.here hx rfl (pc0 := 52) (pc' := 64) rfl (hb hby at_52) rfl (feq hc52_8).2 (by decide) (by decide) ?_
        show Steps p.tables e below (T6.setTop (mkF m 64 #[.val (.int pl_), .val (.int ps_), .val (.int pd_), .val (.int pv_), .val (.int ((1 : Int32) + ((pl_ &&& (2147483647 : Int32)) % (7 : Int32)))), .val (.int (0 : Int32)), .val (.ref b3), .val (.int (500 : Int32)), .unset, .unset] [])) _
        refine XS.iload Xr6.here hx rfl (hb hby at_64) rfl ?_
        show Steps p.tables e below (T6.setTop (mkF m 66 #[.val (.int pl_), .val (.int ps_), .val (.int pd_), .val (.int pv_), .val (.int ((1 : Int32) + ((pl_ &&& (2147483647 : Int32)) % (7 : Int32)))), .val (.int (0 : Int32)), .val (.ref b3), .val (.int (500 : Int32)), .unset, .unset] [(.int ((1 : Int32) + ((pl_ &&& (2147483647 : Int32)) % (7 : Int32))))])) _
        refine XS.bipush Xr6.here hx rfl (hb hby at_66) ?_
        show Steps p.tables e below (T6.setTop (mkF m 68 #[.val (.int pl_), .val (.int ps_), .val (.int pd_), .val (.int pv_), .val (.int ((1 : Int32) + ((pl_ &&& (2147483647 : Int32)) % (7 : Int32)))), .val (.int (0 : Int32)), .val (.ref b3), .val (.int (500 : Int32)), .unset, .unset] [(.int (6 : Int32)), (.int ((1 : Int32) + ((pl_ &&& (2147483647 : Int32)) % (7 : Int32))))])) _
        exact kt
      by_cases hc68_12 : ((1 : Int32) + ((pl_ &&& (2147483647 : Int32)) % (7 : Int32))) = (6 : Int32)
      · obtain ⟨cq13, kq13, q13a, q13b, q13c⟩ := isOf hZ6 rfl A6c
        obtain ⟨_, _, ⟨T13, L13, k13, n13⟩, -, X13, ⟨Lc13, hQ13, l13, y13, z13⟩, st13⟩ := Xr6.virtualBack hx (y := (⟨"com/example/ruffwork/ruffwork/Contract", "slamBonus", "(Z)I"⟩ : MethodName)) (z := (⟨"com/example/ruffwork/ruffwork/Contract", "slamBonus", "(Z)I"⟩ : MethodName)) hown6 (mvT hZ6 (hw _ (List.mem_of_getElem? (i := 51) rfl))) (mvT hZ6 (hw _ (List.mem_of_getElem? (i := 52) rfl))) (notFace_of_selects (args := #[]) (mvT hZ6 (hw _ (List.mem_of_getElem? (i := 54) rfl)))) (mvT hZ6 (hw _ (List.mem_of_getElem? (i := 54) rfl))) (mvT hZ6 (hw _ (List.mem_of_getElem? (i := 53) rfl))) (by decide) (backOf (W := 0) (rm8 l Z a0 hw [] b3 (0 : Int32) ((1 : Int32) + ((pl_ &&& (2147483647 : Int32)) % (7 : Int32))) T6.heap n0 (Nat.le_trans Z0 Kc6.1) Fl6) hZ6 (hw _ (List.mem_of_getElem? (i := 55) rfl)) (hw _ (List.mem_of_getElem? (i := 3) rfl)) (by decide) (by decide)) q13a q13c (g := (mkF m 104 #[.val (.int pl_), .val (.int ps_), .val (.int pd_), .val (.int pv_), .val (.int ((1 : Int32) + ((pl_ &&& (2147483647 : Int32)) % (7 : Int32)))), .val (.int (0 : Int32)), .val (.ref b3), .val (.int (500 : Int32)), .val (.int (500 : Int32)), .val (.int (500 : Int32))] [(.int (0 : Int32)), (.ref b3)])) rfl (by rw [hml]; rfl) (Steps.refl _) (argsL := [(.int (0 : Int32))]) (rest := []) (lenOf pd_6 rfl) rfl (by show 2 * 0 + _ ≤ _; exact Nat.le_of_eq rfl) (hb hby at_104) (fun _ _ => ⟨rfl, rfl, (by decide : 5 + 0 ≤ _), (by decide : 67 + 0 ≤ _)⟩)
        dsimp only [Pt.U, Pt.locs, Pt.cells, Pt.slots] at X13 l13 y13 z13 st13 hQ13
        subst l13 y13 z13
        obtain ⟨rfl, N13q, e13⟩ := hQ13
        have N13 := Fr.app N6 N13q
        obtain ⟨fs, hr, hrun, hended, hend⟩ := Stand.leaveW (s := s) (vm₁ := T6.vm) X13 hS6 (by rw [e13]; exact (Nat.le_refl _)) (v := some (.int (1 : Int32))) (fun h => by rw [Bd.returns] at h; cases h)
        refine ⟨_, _, pre11 _ ?_, hrun, hended, _, _, rfl, ?_, hend.1, hend.2.1, hend.2.2.1, hend.2.2.2.mono (by decide) (by decide)⟩
        · show Steps p.tables e below (T6.setTop (mkF m 68 #[.val (.int pl_), .val (.int ps_), .val (.int pd_), .val (.int pv_), .val (.int ((1 : Int32) + ((pl_ &&& (2147483647 : Int32)) % (7 : Int32)))), .val (.int (0 : Int32)), .val (.ref b3), .val (.int (500 : Int32)), .unset, .unset] [(.int (6 : Int32)), (.int ((1 : Int32) + ((pl_ &&& (2147483647 : Int32)) % (7 : Int32))))])) _
          refine XS.icmpNo Xr6.here hx rfl (hb hby at_68) rfl (teq hc68_12).2 ?_
          show Steps p.tables e below (T6.setTop (mkF m 71 #[.val (.int pl_), .val (.int ps_), .val (.int pd_), .val (.int pv_), .val (.int ((1 : Int32) + ((pl_ &&& (2147483647 : Int32)) % (7 : Int32)))), .val (.int (0 : Int32)), .val (.ref b3), .val (.int (500 : Int32)), .unset, .unset] [])) _
          refine XS.iload Xr6.here hx rfl (hb hby at_71) rfl ?_
          show Steps p.tables e below (T6.setTop (mkF m 73 #[.val (.int pl_), .val (.int ps_), .val (.int pd_), .val (.int pv_), .val (.int ((1 : Int32) + ((pl_ &&& (2147483647 : Int32)) % (7 : Int32)))), .val (.int (0 : Int32)), .val (.ref b3), .val (.int (500 : Int32)), .unset, .unset] [(.int (500 : Int32))])) _
          refine XS.istore Xr6.here hx rfl (hb hby at_73) rfl (l' := #[.val (.int pl_), .val (.int ps_), .val (.int pd_), .val (.int pv_), .val (.int ((1 : Int32) + ((pl_ &&& (2147483647 : Int32)) % (7 : Int32)))), .val (.int (0 : Int32)), .val (.ref b3), .val (.int (500 : Int32)), .val (.int (500 : Int32)), .unset]) rfl ?_
          show Steps p.tables e below (T6.setTop (mkF m 75 #[.val (.int pl_), .val (.int ps_), .val (.int pd_), .val (.int pv_), .val (.int ((1 : Int32) + ((pl_ &&& (2147483647 : Int32)) % (7 : Int32)))), .val (.int (0 : Int32)), .val (.ref b3), .val (.int (500 : Int32)), .val (.int (500 : Int32)), .unset] [])) _
          refine XS.goto Xr6.here hx rfl (pc0 := 75) (pc' := 81) rfl (hb hby at_75) (by decide) (by decide) ?_
          show Steps p.tables e below (T6.setTop (mkF m 81 #[.val (.int pl_), .val (.int ps_), .val (.int pd_), .val (.int pv_), .val (.int ((1 : Int32) + ((pl_ &&& (2147483647 : Int32)) % (7 : Int32)))), .val (.int (0 : Int32)), .val (.ref b3), .val (.int (500 : Int32)), .val (.int (500 : Int32)), .unset] [])) _
          refine XS.iload Xr6.here hx rfl (hb hby at_81) rfl ?_
          show Steps p.tables e below (T6.setTop (mkF m 83 #[.val (.int pl_), .val (.int ps_), .val (.int pd_), .val (.int pv_), .val (.int ((1 : Int32) + ((pl_ &&& (2147483647 : Int32)) % (7 : Int32)))), .val (.int (0 : Int32)), .val (.ref b3), .val (.int (500 : Int32)), .val (.int (500 : Int32)), .unset] [(.int (0 : Int32))])) _
          refine XS.ifYes Xr6.here hx rfl (pc0 := 83) (pc' := 96) rfl (hb hby at_83) rfl ((if0 _ _).trans (teq (rfl : (0 : Int32) = (0 : Int32))).1) (by decide) (by decide) ?_
          show Steps p.tables e below (T6.setTop (mkF m 96 #[.val (.int pl_), .val (.int ps_), .val (.int pd_), .val (.int pv_), .val (.int ((1 : Int32) + ((pl_ &&& (2147483647 : Int32)) % (7 : Int32)))), .val (.int (0 : Int32)), .val (.ref b3), .val (.int (500 : Int32)), .val (.int (500 : Int32)), .unset] [])) _
          refine XS.iload Xr6.here hx rfl (hb hby at_96) rfl ?_
          show Steps p.tables e below (T6.setTop (mkF m 98 #[.val (.int pl_), .val (.int ps_), .val (.int pd_), .val (.int pv_), .val (.int ((1 : Int32) + ((pl_ &&& (2147483647 : Int32)) % (7 : Int32)))), .val (.int (0 : Int32)), .val (.ref b3), .val (.int (500 : Int32)), .val (.int (500 : Int32)), .unset] [(.int (500 : Int32))])) _
          refine XS.istore Xr6.here hx rfl (hb hby at_98) rfl (l' := #[.val (.int pl_), .val (.int ps_), .val (.int pd_), .val (.int pv_), .val (.int ((1 : Int32) + ((pl_ &&& (2147483647 : Int32)) % (7 : Int32)))), .val (.int (0 : Int32)), .val (.ref b3), .val (.int (500 : Int32)), .val (.int (500 : Int32)), .val (.int (500 : Int32))]) rfl ?_
          show Steps p.tables e below (T6.setTop (mkF m 100 #[.val (.int pl_), .val (.int ps_), .val (.int pd_), .val (.int pv_), .val (.int ((1 : Int32) + ((pl_ &&& (2147483647 : Int32)) % (7 : Int32)))), .val (.int (0 : Int32)), .val (.ref b3), .val (.int (500 : Int32)), .val (.int (500 : Int32)), .val (.int (500 : Int32))] [])) _
          refine XS.aload Xr6.here hx rfl (hb hby at_100) rfl rfl ?_
          show Steps p.tables e below (T6.setTop (mkF m 102 #[.val (.int pl_), .val (.int ps_), .val (.int pd_), .val (.int pv_), .val (.int ((1 : Int32) + ((pl_ &&& (2147483647 : Int32)) % (7 : Int32)))), .val (.int (0 : Int32)), .val (.ref b3), .val (.int (500 : Int32)), .val (.int (500 : Int32)), .val (.int (500 : Int32))] [(.ref b3)])) _
          refine XS.iload Xr6.here hx rfl (hb hby at_102) rfl ?_
          show Steps p.tables e below (T6.setTop (mkF m 104 #[.val (.int pl_), .val (.int ps_), .val (.int pd_), .val (.int pv_), .val (.int ((1 : Int32) + ((pl_ &&& (2147483647 : Int32)) % (7 : Int32)))), .val (.int (0 : Int32)), .val (.ref b3), .val (.int (500 : Int32)), .val (.int (500 : Int32)), .val (.int (500 : Int32))] [(.int (0 : Int32)), (.ref b3)])) _
          refine st13.trans ?_
          show Steps p.tables e below (T13.setTop (mkF m 107 #[.val (.int pl_), .val (.int ps_), .val (.int pd_), .val (.int pv_), .val (.int ((1 : Int32) + ((pl_ &&& (2147483647 : Int32)) % (7 : Int32)))), .val (.int (0 : Int32)), .val (.ref b3), .val (.int (500 : Int32)), .val (.int (500 : Int32)), .val (.int (500 : Int32))] [(.int (slamF (0 : Int32) ((1 : Int32) + ((pl_ &&& (2147483647 : Int32)) % (7 : Int32)))))])) _
          refine XS.iload X13.here hx rfl (hb hby at_107) rfl ?_
          show Steps p.tables e below (T13.setTop (mkF m 109 #[.val (.int pl_), .val (.int ps_), .val (.int pd_), .val (.int pv_), .val (.int ((1 : Int32) + ((pl_ &&& (2147483647 : Int32)) % (7 : Int32)))), .val (.int (0 : Int32)), .val (.ref b3), .val (.int (500 : Int32)), .val (.int (500 : Int32)), .val (.int (500 : Int32))] [(.int (500 : Int32)), (.int (slamF (0 : Int32) ((1 : Int32) + ((pl_ &&& (2147483647 : Int32)) % (7 : Int32)))))])) _
          refine XS.icmpNo X13.here hx rfl (hb hby at_109) rfl (teq (by rw [hc68_12]; first | done | decide +kernel : (slamF (0 : Int32) ((1 : Int32) + ((pl_ &&& (2147483647 : Int32)) % (7 : Int32)))) = (500 : Int32))).2 ?_
          show Steps p.tables e below (T13.setTop (mkF m 112 #[.val (.int pl_), .val (.int ps_), .val (.int pd_), .val (.int pv_), .val (.int ((1 : Int32) + ((pl_ &&& (2147483647 : Int32)) % (7 : Int32)))), .val (.int (0 : Int32)), .val (.ref b3), .val (.int (500 : Int32)), .val (.int (500 : Int32)), .val (.int (500 : Int32))] [])) _
          refine XS.iconst X13.here hx rfl (hb hby at_112) ?_
          show Steps p.tables e below (T13.setTop (mkF m 113 #[.val (.int pl_), .val (.int ps_), .val (.int pd_), .val (.int pv_), .val (.int ((1 : Int32) + ((pl_ &&& (2147483647 : Int32)) % (7 : Int32)))), .val (.int (0 : Int32)), .val (.ref b3), .val (.int (500 : Int32)), .val (.int (500 : Int32)), .val (.int (500 : Int32))] [(.int (1 : Int32))])) _
          refine XS.goto X13.here hx rfl (pc0 := 113) (pc' := 117) rfl (hb hby at_113) (by decide) (by decide) ?_
          show Steps p.tables e below (T13.setTop (mkF m 117 #[.val (.int pl_), .val (.int ps_), .val (.int pd_), .val (.int pv_), .val (.int ((1 : Int32) + ((pl_ &&& (2147483647 : Int32)) % (7 : Int32)))), .val (.int (0 : Int32)), .val (.ref b3), .val (.int (500 : Int32)), .val (.int (500 : Int32)), .val (.int (500 : Int32))] [(.int (1 : Int32))])) _
          exact retN X13 hx (t := .boolean) Bd.returns (by simp) (hb hby at_117) hr
        · show Q0 Z pl_ ps_ pd_ pv_ w_CLUBS w_DIAMONDS w_HEARTS w_SPADES w_NO_TRUMP w_UNDOUBLED w_DOUBLED w_REDOUBLED h0 n0 _ T13.heap _
          rw [e13]
          exact ⟨rfl, N13⟩
      · obtain ⟨cq15, kq15, q15a, q15b, q15c⟩ := isOf hZ6 rfl A6c
        obtain ⟨_, _, ⟨T15, L15, k15, n15⟩, -, X15, ⟨Lc15, hQ15, l15, y15, z15⟩, st15⟩ := Xr6.virtualBack hx (y := (⟨"com/example/ruffwork/ruffwork/Contract", "slamBonus", "(Z)I"⟩ : MethodName)) (z := (⟨"com/example/ruffwork/ruffwork/Contract", "slamBonus", "(Z)I"⟩ : MethodName)) hown6 (mvT hZ6 (hw _ (List.mem_of_getElem? (i := 51) rfl))) (mvT hZ6 (hw _ (List.mem_of_getElem? (i := 52) rfl))) (notFace_of_selects (args := #[]) (mvT hZ6 (hw _ (List.mem_of_getElem? (i := 54) rfl)))) (mvT hZ6 (hw _ (List.mem_of_getElem? (i := 54) rfl))) (mvT hZ6 (hw _ (List.mem_of_getElem? (i := 53) rfl))) (by decide) (backOf (W := 0) (rm8 l Z a0 hw [] b3 (0 : Int32) ((1 : Int32) + ((pl_ &&& (2147483647 : Int32)) % (7 : Int32))) T6.heap n0 (Nat.le_trans Z0 Kc6.1) Fl6) hZ6 (hw _ (List.mem_of_getElem? (i := 55) rfl)) (hw _ (List.mem_of_getElem? (i := 3) rfl)) (by decide) (by decide)) q15a q15c (g := (mkF m 104 #[.val (.int pl_), .val (.int ps_), .val (.int pd_), .val (.int pv_), .val (.int ((1 : Int32) + ((pl_ &&& (2147483647 : Int32)) % (7 : Int32)))), .val (.int (0 : Int32)), .val (.ref b3), .val (.int (500 : Int32)), .val (.int (0 : Int32)), .val (.int (0 : Int32))] [(.int (0 : Int32)), (.ref b3)])) rfl (by rw [hml]; rfl) (Steps.refl _) (argsL := [(.int (0 : Int32))]) (rest := []) (lenOf pd_6 rfl) rfl (by show 2 * 0 + _ ≤ _; exact Nat.le_of_eq rfl) (hb hby at_104) (fun _ _ => ⟨rfl, rfl, (by decide : 5 + 0 ≤ _), (by decide : 67 + 0 ≤ _)⟩)
        dsimp only [Pt.U, Pt.locs, Pt.cells, Pt.slots] at X15 l15 y15 z15 st15 hQ15
        subst l15 y15 z15
        obtain ⟨rfl, N15q, e15⟩ := hQ15
        have N15 := Fr.app N6 N15q
        obtain ⟨fs, hr, hrun, hended, hend⟩ := Stand.leaveW (s := s) (vm₁ := T6.vm) X15 hS6 (by rw [e15]; exact (Nat.le_refl _)) (v := some (.int (1 : Int32))) (fun h => by rw [Bd.returns] at h; cases h)
        refine ⟨_, _, pre11 _ ?_, hrun, hended, _, _, rfl, ?_, hend.1, hend.2.1, hend.2.2.1, hend.2.2.2.mono (by decide) (by decide)⟩
        · show Steps p.tables e below (T6.setTop (mkF m 68 #[.val (.int pl_), .val (.int ps_), .val (.int pd_), .val (.int pv_), .val (.int ((1 : Int32) + ((pl_ &&& (2147483647 : Int32)) % (7 : Int32)))), .val (.int (0 : Int32)), .val (.ref b3), .val (.int (500 : Int32)), .unset, .unset] [(.int (6 : Int32)), (.int ((1 : Int32) + ((pl_ &&& (2147483647 : Int32)) % (7 : Int32))))])) _
          refine XS.icmpYes Xr6.here hx rfl (pc0 := 68) (pc' := 78) rfl (hb hby at_68) rfl (feq hc68_12).2 (by decide) (by decide) ?_
          show Steps p.tables e below (T6.setTop (mkF m 78 #[.val (.int pl_), .val (.int ps_), .val (.int pd_), .val (.int pv_), .val (.int ((1 : Int32) + ((pl_ &&& (2147483647 : Int32)) % (7 : Int32)))), .val (.int (0 : Int32)), .val (.ref b3), .val (.int (500 : Int32)), .unset, .unset] [])) _
          refine XS.iconst Xr6.here hx rfl (hb hby at_78) ?_
          show Steps p.tables e below (T6.setTop (mkF m 79 #[.val (.int pl_), .val (.int ps_), .val (.int pd_), .val (.int pv_), .val (.int ((1 : Int32) + ((pl_ &&& (2147483647 : Int32)) % (7 : Int32)))), .val (.int (0 : Int32)), .val (.ref b3), .val (.int (500 : Int32)), .unset, .unset] [(.int (0 : Int32))])) _
          refine XS.istore Xr6.here hx rfl (hb hby at_79) rfl (l' := #[.val (.int pl_), .val (.int ps_), .val (.int pd_), .val (.int pv_), .val (.int ((1 : Int32) + ((pl_ &&& (2147483647 : Int32)) % (7 : Int32)))), .val (.int (0 : Int32)), .val (.ref b3), .val (.int (500 : Int32)), .val (.int (0 : Int32)), .unset]) rfl ?_
          show Steps p.tables e below (T6.setTop (mkF m 81 #[.val (.int pl_), .val (.int ps_), .val (.int pd_), .val (.int pv_), .val (.int ((1 : Int32) + ((pl_ &&& (2147483647 : Int32)) % (7 : Int32)))), .val (.int (0 : Int32)), .val (.ref b3), .val (.int (500 : Int32)), .val (.int (0 : Int32)), .unset] [])) _
          refine XS.iload Xr6.here hx rfl (hb hby at_81) rfl ?_
          show Steps p.tables e below (T6.setTop (mkF m 83 #[.val (.int pl_), .val (.int ps_), .val (.int pd_), .val (.int pv_), .val (.int ((1 : Int32) + ((pl_ &&& (2147483647 : Int32)) % (7 : Int32)))), .val (.int (0 : Int32)), .val (.ref b3), .val (.int (500 : Int32)), .val (.int (0 : Int32)), .unset] [(.int (0 : Int32))])) _
          refine XS.ifYes Xr6.here hx rfl (pc0 := 83) (pc' := 96) rfl (hb hby at_83) rfl ((if0 _ _).trans (teq (rfl : (0 : Int32) = (0 : Int32))).1) (by decide) (by decide) ?_
          show Steps p.tables e below (T6.setTop (mkF m 96 #[.val (.int pl_), .val (.int ps_), .val (.int pd_), .val (.int pv_), .val (.int ((1 : Int32) + ((pl_ &&& (2147483647 : Int32)) % (7 : Int32)))), .val (.int (0 : Int32)), .val (.ref b3), .val (.int (500 : Int32)), .val (.int (0 : Int32)), .unset] [])) _
          refine XS.iload Xr6.here hx rfl (hb hby at_96) rfl ?_
          show Steps p.tables e below (T6.setTop (mkF m 98 #[.val (.int pl_), .val (.int ps_), .val (.int pd_), .val (.int pv_), .val (.int ((1 : Int32) + ((pl_ &&& (2147483647 : Int32)) % (7 : Int32)))), .val (.int (0 : Int32)), .val (.ref b3), .val (.int (500 : Int32)), .val (.int (0 : Int32)), .unset] [(.int (0 : Int32))])) _
          refine XS.istore Xr6.here hx rfl (hb hby at_98) rfl (l' := #[.val (.int pl_), .val (.int ps_), .val (.int pd_), .val (.int pv_), .val (.int ((1 : Int32) + ((pl_ &&& (2147483647 : Int32)) % (7 : Int32)))), .val (.int (0 : Int32)), .val (.ref b3), .val (.int (500 : Int32)), .val (.int (0 : Int32)), .val (.int (0 : Int32))]) rfl ?_
          show Steps p.tables e below (T6.setTop (mkF m 100 #[.val (.int pl_), .val (.int ps_), .val (.int pd_), .val (.int pv_), .val (.int ((1 : Int32) + ((pl_ &&& (2147483647 : Int32)) % (7 : Int32)))), .val (.int (0 : Int32)), .val (.ref b3), .val (.int (500 : Int32)), .val (.int (0 : Int32)), .val (.int (0 : Int32))] [])) _
          refine XS.aload Xr6.here hx rfl (hb hby at_100) rfl rfl ?_
          show Steps p.tables e below (T6.setTop (mkF m 102 #[.val (.int pl_), .val (.int ps_), .val (.int pd_), .val (.int pv_), .val (.int ((1 : Int32) + ((pl_ &&& (2147483647 : Int32)) % (7 : Int32)))), .val (.int (0 : Int32)), .val (.ref b3), .val (.int (500 : Int32)), .val (.int (0 : Int32)), .val (.int (0 : Int32))] [(.ref b3)])) _
          refine XS.iload Xr6.here hx rfl (hb hby at_102) rfl ?_
          show Steps p.tables e below (T6.setTop (mkF m 104 #[.val (.int pl_), .val (.int ps_), .val (.int pd_), .val (.int pv_), .val (.int ((1 : Int32) + ((pl_ &&& (2147483647 : Int32)) % (7 : Int32)))), .val (.int (0 : Int32)), .val (.ref b3), .val (.int (500 : Int32)), .val (.int (0 : Int32)), .val (.int (0 : Int32))] [(.int (0 : Int32)), (.ref b3)])) _
          refine st15.trans ?_
          show Steps p.tables e below (T15.setTop (mkF m 107 #[.val (.int pl_), .val (.int ps_), .val (.int pd_), .val (.int pv_), .val (.int ((1 : Int32) + ((pl_ &&& (2147483647 : Int32)) % (7 : Int32)))), .val (.int (0 : Int32)), .val (.ref b3), .val (.int (500 : Int32)), .val (.int (0 : Int32)), .val (.int (0 : Int32))] [(.int (slamF (0 : Int32) ((1 : Int32) + ((pl_ &&& (2147483647 : Int32)) % (7 : Int32)))))])) _
          refine XS.iload X15.here hx rfl (hb hby at_107) rfl ?_
          show Steps p.tables e below (T15.setTop (mkF m 109 #[.val (.int pl_), .val (.int ps_), .val (.int pd_), .val (.int pv_), .val (.int ((1 : Int32) + ((pl_ &&& (2147483647 : Int32)) % (7 : Int32)))), .val (.int (0 : Int32)), .val (.ref b3), .val (.int (500 : Int32)), .val (.int (0 : Int32)), .val (.int (0 : Int32))] [(.int (0 : Int32)), (.int (slamF (0 : Int32) ((1 : Int32) + ((pl_ &&& (2147483647 : Int32)) % (7 : Int32)))))])) _
          refine XS.icmpNo X15.here hx rfl (hb hby at_109) rfl (teq (by unfold slamF; rw [if_neg hc68_12, if_neg hc52_8]; first | done | decide +kernel : (slamF (0 : Int32) ((1 : Int32) + ((pl_ &&& (2147483647 : Int32)) % (7 : Int32)))) = (0 : Int32))).2 ?_
          show Steps p.tables e below (T15.setTop (mkF m 112 #[.val (.int pl_), .val (.int ps_), .val (.int pd_), .val (.int pv_), .val (.int ((1 : Int32) + ((pl_ &&& (2147483647 : Int32)) % (7 : Int32)))), .val (.int (0 : Int32)), .val (.ref b3), .val (.int (500 : Int32)), .val (.int (0 : Int32)), .val (.int (0 : Int32))] [])) _
          refine XS.iconst X15.here hx rfl (hb hby at_112) ?_
          show Steps p.tables e below (T15.setTop (mkF m 113 #[.val (.int pl_), .val (.int ps_), .val (.int pd_), .val (.int pv_), .val (.int ((1 : Int32) + ((pl_ &&& (2147483647 : Int32)) % (7 : Int32)))), .val (.int (0 : Int32)), .val (.ref b3), .val (.int (500 : Int32)), .val (.int (0 : Int32)), .val (.int (0 : Int32))] [(.int (1 : Int32))])) _
          refine XS.goto X15.here hx rfl (pc0 := 113) (pc' := 117) rfl (hb hby at_113) (by decide) (by decide) ?_
          show Steps p.tables e below (T15.setTop (mkF m 117 #[.val (.int pl_), .val (.int ps_), .val (.int pd_), .val (.int pv_), .val (.int ((1 : Int32) + ((pl_ &&& (2147483647 : Int32)) % (7 : Int32)))), .val (.int (0 : Int32)), .val (.ref b3), .val (.int (500 : Int32)), .val (.int (0 : Int32)), .val (.int (0 : Int32))] [(.int (1 : Int32))])) _
          exact retN X15 hx (t := .boolean) Bd.returns (by simp) (hb hby at_117) hr
        · show Q0 Z pl_ ps_ pd_ pv_ w_CLUBS w_DIAMONDS w_HEARTS w_SPADES w_NO_TRUMP w_UNDOUBLED w_DOUBLED w_REDOUBLED h0 n0 _ T15.heap _
          rw [e15]
          exact ⟨rfl, N15⟩
  · obtain ⟨T17, h17, X17, e17, E17, A17, D17, -, st17⟩ := newO X0 hx hZ hown (hw _ (List.mem_of_getElem? (i := 1) rfl)) (hw _ (List.mem_of_getElem? (i := 2) rfl)) (hw _ (List.mem_of_getElem? (i := 3) rfl)) e0 (g := (mkF m 24 #[.val (.int pl_), .val (.int ps_), .val (.int pd_), .val (.int pv_), .val (.int ((1 : Int32) + ((pl_ &&& (2147483647 : Int32)) % (7 : Int32)))), .val (.int (1 : Int32)), .unset, .unset, .unset, .unset] [])) rfl (hb hby at_24) (by decide) (by decide)
    obtain ⟨b17, g17⟩ : ∃ z, z = h0.size := ⟨_, rfl⟩
    rw [← g17] at A17 D17 st17
    have g_b17 : n0 ≤ b17 := Nat.le_trans Z0 (Nat.le_of_eq g17.symm)
    have sz_b17 : h0.size ≤ b17 := Nat.le_trans (Keep.refl h0 []).1 (Nat.le_of_eq g17.symm)
    have Kc17 : Keep h0 h17 [] := (Keep.refl h0 []).ext E17
    have Oc17 := O.ext E17
    have F_level_b17 : Fld Z h17 b17 "com/example/ruffwork/ruffwork/Contract" "level" "I" (.int (0 : Int32)) := D17 (Or.inr (hw _ (List.mem_of_getElem? (i := 46) rfl))) (ty := .int) (by decide)
    have F_strain_b17 : Fld Z h17 b17 "com/example/ruffwork/ruffwork/Contract" "strain" "Lcom/example/ruffwork/ruffwork/Strain;" .null := D17 (Or.inr (hw _ (List.mem_of_getElem? (i := 48) rfl))) (ty := (.object "com/example/ruffwork/ruffwork/Strain")) (by decide)
    have F_doubling_b17 : Fld Z h17 b17 "com/example/ruffwork/ruffwork/Contract" "doubling" "Lcom/example/ruffwork/ruffwork/Doubling;" .null := D17 (Or.inr (hw _ (List.mem_of_getElem? (i := 50) rfl))) (ty := (.object "com/example/ruffwork/ruffwork/Doubling")) (by decide)
    obtain ⟨_, _, ⟨T18, L18, k18, n18⟩, -, X18, ⟨Lc18, hQ18, l18, y18, z18⟩, st18⟩ := Jvm.LawKit.callS X17 hx (y := (⟨"com/example/ruffwork/ruffwork/ContractSlamBonusPinLaw", "strainOf", "(I)Lcom/example/ruffwork/ruffwork/Strain;"⟩ : MethodName)) hown (mvT hZ (hw _ (List.mem_of_getElem? (i := 4) rfl))) (mvT hZ (hw _ (List.mem_of_getElem? (i := 5) rfl))) (mvT hZ (hw _ (List.mem_of_getElem? (i := 6) rfl))) (mvT hZ (hw _ (List.mem_of_getElem? (i := 7) rfl))) (by decide) (backOf (W := 3) (rm1 l Z a0 hw [] ps_ w_CLUBS w_DIAMONDS w_HEARTS w_SPADES w_NO_TRUMP h17 n0 (Nat.le_trans Z0 Kc17.1) (S_CLUBS.ext Oc17.2) (S_DIAMONDS.ext Oc17.2) (S_HEARTS.ext Oc17.2) (S_SPADES.ext Oc17.2) (S_NO_TRUMP.ext Oc17.2)) hZ (hw _ (List.mem_of_getElem? (i := 7) rfl)) (hw _ (List.mem_of_getElem? (i := 6) rfl)) (by decide) (by decide)) (g := (mkF m 31 #[.val (.int pl_), .val (.int ps_), .val (.int pd_), .val (.int pv_), .val (.int ((1 : Int32) + ((pl_ &&& (2147483647 : Int32)) % (7 : Int32)))), .val (.int (1 : Int32)), .unset, .unset, .unset, .unset] [(.int ps_), (.int ((1 : Int32) + ((pl_ &&& (2147483647 : Int32)) % (7 : Int32)))), (.ref b17), (.ref b17)])) rfl (by rw [hml]; rfl) (argsL := [(.int ps_)]) (rest := [(.int ((1 : Int32) + ((pl_ &&& (2147483647 : Int32)) % (7 : Int32)))), (.ref b17), (.ref b17)]) (lenOf pd_3 rfl) rfl (by show 2 * 0 + _ ≤ _; exact Nat.le_of_eq rfl) (hb hby at_31) (fun _ _ => ⟨rfl, e17, (by decide : 1 + 0 ≤ _), (by decide : 3 + 0 ≤ _)⟩)
    dsimp only [Pt.U, Pt.locs, Pt.cells, Pt.slots] at X18 l18 y18 z18 st18 hQ18
    subst l18 y18 z18
    obtain ⟨rfl, N18q, e18⟩ := hQ18
    have N18 := Fr.app N0 N18q
    obtain ⟨_, _, ⟨T19, L19, k19, n19⟩, -, X19, ⟨Lc19, hQ19, l19, y19, z19⟩, st19⟩ := Jvm.LawKit.callS X18 hx (y := (⟨"com/example/ruffwork/ruffwork/ContractSlamBonusPinLaw", "doublingOf", "(I)Lcom/example/ruffwork/ruffwork/Doubling;"⟩ : MethodName)) hown (mvT hZ (hw _ (List.mem_of_getElem? (i := 11) rfl))) (mvT hZ (hw _ (List.mem_of_getElem? (i := 12) rfl))) (mvT hZ (hw _ (List.mem_of_getElem? (i := 6) rfl))) (mvT hZ (hw _ (List.mem_of_getElem? (i := 13) rfl))) (by decide) (backOf (W := 4) (rm2 l Z a0 hw [] pd_ w_UNDOUBLED w_DOUBLED w_REDOUBLED h17 n0 (Nat.le_trans Z0 Kc17.1) (S_UNDOUBLED.ext Oc17.2) (S_DOUBLED.ext Oc17.2) (S_REDOUBLED.ext Oc17.2)) hZ (hw _ (List.mem_of_getElem? (i := 13) rfl)) (hw _ (List.mem_of_getElem? (i := 6) rfl)) (by decide) (by decide)) (g := (mkF m 35 #[.val (.int pl_), .val (.int ps_), .val (.int pd_), .val (.int pv_), .val (.int ((1 : Int32) + ((pl_ &&& (2147483647 : Int32)) % (7 : Int32)))), .val (.int (1 : Int32)), .unset, .unset, .unset, .unset] [(.int pd_), (.ref (strainF ps_ w_CLUBS w_DIAMONDS w_HEARTS w_SPADES w_NO_TRUMP)), (.int ((1 : Int32) + ((pl_ &&& (2147483647 : Int32)) % (7 : Int32)))), (.ref b17), (.ref b17)])) rfl (by rw [hml]; rfl) (argsL := [(.int pd_)]) (rest := [(.ref (strainF ps_ w_CLUBS w_DIAMONDS w_HEARTS w_SPADES w_NO_TRUMP)), (.int ((1 : Int32) + ((pl_ &&& (2147483647 : Int32)) % (7 : Int32)))), (.ref b17), (.ref b17)]) (lenOf pd_4 rfl) rfl (by show 2 * 0 + _ ≤ _; exact Nat.le_of_eq rfl) (hb hby at_35) (fun _ _ => ⟨rfl, e18, (by decide : 1 + 0 ≤ _), (by decide : 3 + 0 ≤ _)⟩)
    dsimp only [Pt.U, Pt.locs, Pt.cells, Pt.slots] at X19 l19 y19 z19 st19 hQ19
    subst l19 y19 z19
    obtain ⟨rfl, N19q, e19⟩ := hQ19
    have N19 := Fr.app N18 N19q
    obtain ⟨_, _, ⟨T20, L20, k20, n20⟩, -, X20, hSc20, hgc20, ⟨Lc20, hQ20, l20, y20, z20⟩, st20⟩ := X19.specialBackS hx (y := (⟨"com/example/ruffwork/ruffwork/Contract", "<init>", "(ILcom/example/ruffwork/ruffwork/Strain;Lcom/example/ruffwork/ruffwork/Doubling;)V"⟩ : MethodName)) rfl hown (mvT hZ (hw _ (List.mem_of_getElem? (i := 17) rfl))) (mvT hZ (hw _ (List.mem_of_getElem? (i := 18) rfl))) (mvT hZ (hw _ (List.mem_of_getElem? (i := 19) rfl))) (by decide) (backOfS (W := 1) (rm3 l Z a0 hw [] b17 ((1 : Int32) + ((pl_ &&& (2147483647 : Int32)) % (7 : Int32))) (strainF ps_ w_CLUBS w_DIAMONDS w_HEARTS w_SPADES w_NO_TRUMP) (doublF pd_ w_UNDOUBLED w_DOUBLED w_REDOUBLED) h17 n0 (Nat.le_trans Z0 Kc17.1) A17 g_b17 F_level_b17 F_strain_b17 F_doubling_b17 (own_lev pl_)) hZ (hw _ (List.mem_of_getElem? (i := 19) rfl)) (hw _ (List.mem_of_getElem? (i := 3) rfl)) (by decide) (by decide)) (g := (mkF m 38 #[.val (.int pl_), .val (.int ps_), .val (.int pd_), .val (.int pv_), .val (.int ((1 : Int32) + ((pl_ &&& (2147483647 : Int32)) % (7 : Int32)))), .val (.int (1 : Int32)), .unset, .unset, .unset, .unset] [(.ref (doublF pd_ w_UNDOUBLED w_DOUBLED w_REDOUBLED)), (.ref (strainF ps_ w_CLUBS w_DIAMONDS w_HEARTS w_SPADES w_NO_TRUMP)), (.int ((1 : Int32) + ((pl_ &&& (2147483647 : Int32)) % (7 : Int32)))), (.ref b17), (.ref b17)])) rfl (by rw [hml]; rfl) (Steps.refl _) (a := b17) (argsL := [(.int ((1 : Int32) + ((pl_ &&& (2147483647 : Int32)) % (7 : Int32)))), (.ref (strainF ps_ w_CLUBS w_DIAMONDS w_HEARTS w_SPADES w_NO_TRUMP)), (.ref (doublF pd_ w_UNDOUBLED w_DOUBLED w_REDOUBLED))]) (rest := [(.ref b17)]) (lenOf pd_5 rfl) rfl (by show 2 * 0 + _ ≤ _; exact Nat.le_of_eq rfl) (hb hby at_38) (fun _ _ => ⟨rfl, e19, (by decide : 1 + 4 ≤ _), (by decide : 3 + 64 ≤ _)⟩)
    dsimp only [Pt.U, Pt.locs, Pt.cells, Pt.slots] at X20 l20 y20 z20 st20 hQ20 hSc20 hgc20
    subst l20 y20 z20
    obtain ⟨rfl, N20q, K20, A20c, Fl20⟩ := hQ20
    have N20 := Fr.app N19 N20q
    obtain ⟨Xr20, hS20, hZ20, hown20⟩ := rebS (n1 := T19.heap.size) hS0 (by rw [e19]; exact (Nat.le_trans (Nat.zero_le _) E17.1)) X20 hSc20 hgc20 hZ hown
    have Kc20 : Keep h0 T20.heap [] := Kc17.trans K20 (allS (Or.inr sz_b17) all0)
    have Oc20 := Oc17.keep K20 (allS g_b17 all0)
    have pre21 : ∀ t, Steps p.tables e below (T20.setTop (mkF m 52 #[.val (.int pl_), .val (.int ps_), .val (.int pd_), .val (.int pv_), .val (.int ((1 : Int32) + ((pl_ &&& (2147483647 : Int32)) % (7 : Int32)))), .val (.int (1 : Int32)), .val (.ref b17), .val (.int (500 : Int32)), .unset, .unset] [(.int (7 : Int32)), (.int ((1 : Int32) + ((pl_ &&& (2147483647 : Int32)) % (7 : Int32))))])) t → Steps p.tables e below (s₁.setTop (entryFrame m #[(.int pl_), (.int ps_), (.int pd_), (.int pv_)] maxLocals)) t := by
      intro t kt
      refine pre1 t ?_
      show Steps p.tables e below (s₁.setTop (mkF m 14 #[.val (.int pl_), .val (.int ps_), .val (.int pd_), .val (.int pv_), .val (.int ((1 : Int32) + ((pl_ &&& (2147483647 : Int32)) % (7 : Int32)))), .unset, .unset, .unset, .unset, .unset] [(.int (pv_ &&& (1 : Int32)))])) _
      refine XS.ifNo X0.here hx rfl (hb hby at_14) rfl ((if0 _ _).trans (feq hc14_2).1) ?_
      show Steps p.tables e below (s₁.setTop (mkF m 17 #[.val (.int pl_), .val (.int ps_), .val (.int pd_), .val (.int pv_), .val (.int ((1 : Int32) + ((pl_ &&& (2147483647 : Int32)) % (7 : Int32)))), .unset, .unset, .unset, .unset, .unset] [])) _
      refine XS.iconst X0.here hx rfl (hb hby at_17) ?_
      show Steps p.tables e below (s₁.setTop (mkF m 18 #[.val (.int pl_), .val (.int ps_), .val (.int pd_), .val (.int pv_), .val (.int ((1 : Int32) + ((pl_ &&& (2147483647 : Int32)) % (7 : Int32)))), .unset, .unset, .unset, .unset, .unset] [(.int (1 : Int32))])) _
      refine XS.goto X0.here hx rfl (pc0 := 18) (pc' := 22) rfl (hb hby at_18) (by decide) (by decide) ?_
      show Steps p.tables e below (s₁.setTop (mkF m 22 #[.val (.int pl_), .val (.int ps_), .val (.int pd_), .val (.int pv_), .val (.int ((1 : Int32) + ((pl_ &&& (2147483647 : Int32)) % (7 : Int32)))), .unset, .unset, .unset, .unset, .unset] [(.int (1 : Int32))])) _
      refine XS.istore X0.here hx rfl (hb hby at_22) rfl (l' := #[.val (.int pl_), .val (.int ps_), .val (.int pd_), .val (.int pv_), .val (.int ((1 : Int32) + ((pl_ &&& (2147483647 : Int32)) % (7 : Int32)))), .val (.int (1 : Int32)), .unset, .unset, .unset, .unset]) rfl ?_
      show Steps p.tables e below (s₁.setTop (mkF m 24 #[.val (.int pl_), .val (.int ps_), .val (.int pd_), .val (.int pv_), .val (.int ((1 : Int32) + ((pl_ &&& (2147483647 : Int32)) % (7 : Int32)))), .val (.int (1 : Int32)), .unset, .unset, .unset, .unset] [])) _
      refine st17 _ ?_
      show Steps p.tables e below (T17.setTop (mkF m 27 #[.val (.int pl_), .val (.int ps_), .val (.int pd_), .val (.int pv_), .val (.int ((1 : Int32) + ((pl_ &&& (2147483647 : Int32)) % (7 : Int32)))), .val (.int (1 : Int32)), .unset, .unset, .unset, .unset] [(.ref b17)])) _
      refine XS.dup X17.here hx rfl (hb hby at_27) rfl rfl ?_
      show Steps p.tables e below (T17.setTop (mkF m 28 #[.val (.int pl_), .val (.int ps_), .val (.int pd_), .val (.int pv_), .val (.int ((1 : Int32) + ((pl_ &&& (2147483647 : Int32)) % (7 : Int32)))), .val (.int (1 : Int32)), .unset, .unset, .unset, .unset] [(.ref b17), (.ref b17)])) _
      refine XS.iload X17.here hx rfl (hb hby at_28) rfl ?_
      show Steps p.tables e below (T17.setTop (mkF m 30 #[.val (.int pl_), .val (.int ps_), .val (.int pd_), .val (.int pv_), .val (.int ((1 : Int32) + ((pl_ &&& (2147483647 : Int32)) % (7 : Int32)))), .val (.int (1 : Int32)), .unset, .unset, .unset, .unset] [(.int ((1 : Int32) + ((pl_ &&& (2147483647 : Int32)) % (7 : Int32)))), (.ref b17), (.ref b17)])) _
      refine XS.iloadN X17.here hx rfl (hb hby at_30) rfl ?_
      show Steps p.tables e below (T17.setTop (mkF m 31 #[.val (.int pl_), .val (.int ps_), .val (.int pd_), .val (.int pv_), .val (.int ((1 : Int32) + ((pl_ &&& (2147483647 : Int32)) % (7 : Int32)))), .val (.int (1 : Int32)), .unset, .unset, .unset, .unset] [(.int ps_), (.int ((1 : Int32) + ((pl_ &&& (2147483647 : Int32)) % (7 : Int32)))), (.ref b17), (.ref b17)])) _
      refine st18 _ ?_
      show Steps p.tables e below (T18.setTop (mkF m 34 #[.val (.int pl_), .val (.int ps_), .val (.int pd_), .val (.int pv_), .val (.int ((1 : Int32) + ((pl_ &&& (2147483647 : Int32)) % (7 : Int32)))), .val (.int (1 : Int32)), .unset, .unset, .unset, .unset] [(.ref (strainF ps_ w_CLUBS w_DIAMONDS w_HEARTS w_SPADES w_NO_TRUMP)), (.int ((1 : Int32) + ((pl_ &&& (2147483647 : Int32)) % (7 : Int32)))), (.ref b17), (.ref b17)])) _
      refine XS.iloadN X18.here hx rfl (hb hby at_34) rfl ?_
      show Steps p.tables e below (T18.setTop (mkF m 35 #[.val (.int pl_), .val (.int ps_), .val (.int pd_), .val (.int pv_), .val (.int ((1 : Int32) + ((pl_ &&& (2147483647 : Int32)) % (7 : Int32)))), .val (.int (1 : Int32)), .unset, .unset, .unset, .unset] [(.int pd_), (.ref (strainF ps_ w_CLUBS w_DIAMONDS w_HEARTS w_SPADES w_NO_TRUMP)), (.int ((1 : Int32) + ((pl_ &&& (2147483647 : Int32)) % (7 : Int32)))), (.ref b17), (.ref b17)])) _
      refine st19 _ ?_
      show Steps p.tables e below (T19.setTop (mkF m 38 #[.val (.int pl_), .val (.int ps_), .val (.int pd_), .val (.int pv_), .val (.int ((1 : Int32) + ((pl_ &&& (2147483647 : Int32)) % (7 : Int32)))), .val (.int (1 : Int32)), .unset, .unset, .unset, .unset] [(.ref (doublF pd_ w_UNDOUBLED w_DOUBLED w_REDOUBLED)), (.ref (strainF ps_ w_CLUBS w_DIAMONDS w_HEARTS w_SPADES w_NO_TRUMP)), (.int ((1 : Int32) + ((pl_ &&& (2147483647 : Int32)) % (7 : Int32)))), (.ref b17), (.ref b17)])) _
      refine st20.trans ?_
      show Steps p.tables e below (T20.setTop (mkF m 41 #[.val (.int pl_), .val (.int ps_), .val (.int pd_), .val (.int pv_), .val (.int ((1 : Int32) + ((pl_ &&& (2147483647 : Int32)) % (7 : Int32)))), .val (.int (1 : Int32)), .unset, .unset, .unset, .unset] [(.ref b17)])) _
      refine XS.astore Xr20.here hx rfl (hb hby at_41) rfl rfl (l' := #[.val (.int pl_), .val (.int ps_), .val (.int pd_), .val (.int pv_), .val (.int ((1 : Int32) + ((pl_ &&& (2147483647 : Int32)) % (7 : Int32)))), .val (.int (1 : Int32)), .val (.ref b17), .unset, .unset, .unset]) rfl ?_
      show Steps p.tables e below (T20.setTop (mkF m 43 #[.val (.int pl_), .val (.int ps_), .val (.int pd_), .val (.int pv_), .val (.int ((1 : Int32) + ((pl_ &&& (2147483647 : Int32)) % (7 : Int32)))), .val (.int (1 : Int32)), .val (.ref b17), .unset, .unset, .unset] [])) _
      refine XS.sipush Xr20.here hx rfl (hb hby at_43) ?_
      show Steps p.tables e below (T20.setTop (mkF m 46 #[.val (.int pl_), .val (.int ps_), .val (.int pd_), .val (.int pv_), .val (.int ((1 : Int32) + ((pl_ &&& (2147483647 : Int32)) % (7 : Int32)))), .val (.int (1 : Int32)), .val (.ref b17), .unset, .unset, .unset] [(.int (500 : Int32))])) _
      refine XS.istore Xr20.here hx rfl (hb hby at_46) rfl (l' := #[.val (.int pl_), .val (.int ps_), .val (.int pd_), .val (.int pv_), .val (.int ((1 : Int32) + ((pl_ &&& (2147483647 : Int32)) % (7 : Int32)))), .val (.int (1 : Int32)), .val (.ref b17), .val (.int (500 : Int32)), .unset, .unset]) rfl ?_
      show Steps p.tables e below (T20.setTop (mkF m 48 #[.val (.int pl_), .val (.int ps_), .val (.int pd_), .val (.int pv_), .val (.int ((1 : Int32) + ((pl_ &&& (2147483647 : Int32)) % (7 : Int32)))), .val (.int (1 : Int32)), .val (.ref b17), .val (.int (500 : Int32)), .unset, .unset] [])) _
      refine XS.iload Xr20.here hx rfl (hb hby at_48) rfl ?_
      show Steps p.tables e below (T20.setTop (mkF m 50 #[.val (.int pl_), .val (.int ps_), .val (.int pd_), .val (.int pv_), .val (.int ((1 : Int32) + ((pl_ &&& (2147483647 : Int32)) % (7 : Int32)))), .val (.int (1 : Int32)), .val (.ref b17), .val (.int (500 : Int32)), .unset, .unset] [(.int ((1 : Int32) + ((pl_ &&& (2147483647 : Int32)) % (7 : Int32))))])) _
      refine XS.bipush Xr20.here hx rfl (hb hby at_50) ?_
      show Steps p.tables e below (T20.setTop (mkF m 52 #[.val (.int pl_), .val (.int ps_), .val (.int pd_), .val (.int pv_), .val (.int ((1 : Int32) + ((pl_ &&& (2147483647 : Int32)) % (7 : Int32)))), .val (.int (1 : Int32)), .val (.ref b17), .val (.int (500 : Int32)), .unset, .unset] [(.int (7 : Int32)), (.int ((1 : Int32) + ((pl_ &&& (2147483647 : Int32)) % (7 : Int32))))])) _
      exact kt
    by_cases hc52_22 : ((1 : Int32) + ((pl_ &&& (2147483647 : Int32)) % (7 : Int32))) = (7 : Int32)
    · obtain ⟨cq23, kq23, q23a, q23b, q23c⟩ := isOf hZ20 rfl A20c
      obtain ⟨_, _, ⟨T23, L23, k23, n23⟩, -, X23, ⟨Lc23, hQ23, l23, y23, z23⟩, st23⟩ := Xr20.virtualBack hx (y := (⟨"com/example/ruffwork/ruffwork/Contract", "slamBonus", "(Z)I"⟩ : MethodName)) (z := (⟨"com/example/ruffwork/ruffwork/Contract", "slamBonus", "(Z)I"⟩ : MethodName)) hown20 (mvT hZ20 (hw _ (List.mem_of_getElem? (i := 51) rfl))) (mvT hZ20 (hw _ (List.mem_of_getElem? (i := 52) rfl))) (notFace_of_selects (args := #[]) (mvT hZ20 (hw _ (List.mem_of_getElem? (i := 54) rfl)))) (mvT hZ20 (hw _ (List.mem_of_getElem? (i := 54) rfl))) (mvT hZ20 (hw _ (List.mem_of_getElem? (i := 53) rfl))) (by decide) (backOf (W := 0) (rm8 l Z a0 hw [] b17 (1 : Int32) ((1 : Int32) + ((pl_ &&& (2147483647 : Int32)) % (7 : Int32))) T20.heap n0 (Nat.le_trans Z0 Kc20.1) Fl20) hZ20 (hw _ (List.mem_of_getElem? (i := 55) rfl)) (hw _ (List.mem_of_getElem? (i := 3) rfl)) (by decide) (by decide)) q23a q23c (g := (mkF m 104 #[.val (.int pl_), .val (.int ps_), .val (.int pd_), .val (.int pv_), .val (.int ((1 : Int32) + ((pl_ &&& (2147483647 : Int32)) % (7 : Int32)))), .val (.int (1 : Int32)), .val (.ref b17), .val (.int (500 : Int32)), .val (.int (1000 : Int32)), .val (.int ((1000 : Int32) + ((1000 : Int32) / (2 : Int32))))] [(.int (1 : Int32)), (.ref b17)])) rfl (by rw [hml]; rfl) (Steps.refl _) (argsL := [(.int (1 : Int32))]) (rest := []) (lenOf pd_6 rfl) rfl (by show 2 * 0 + _ ≤ _; exact Nat.le_of_eq rfl) (hb hby at_104) (fun _ _ => ⟨rfl, rfl, (by decide : 5 + 0 ≤ _), (by decide : 67 + 0 ≤ _)⟩)
      dsimp only [Pt.U, Pt.locs, Pt.cells, Pt.slots] at X23 l23 y23 z23 st23 hQ23
      subst l23 y23 z23
      obtain ⟨rfl, N23q, e23⟩ := hQ23
      have N23 := Fr.app N20 N23q
      obtain ⟨fs, hr, hrun, hended, hend⟩ := Stand.leaveW (s := s) (vm₁ := T20.vm) X23 hS20 (by rw [e23]; exact (Nat.le_refl _)) (v := some (.int (1 : Int32))) (fun h => by rw [Bd.returns] at h; cases h)
      refine ⟨_, _, pre21 _ ?_, hrun, hended, _, _, rfl, ?_, hend.1, hend.2.1, hend.2.2.1, hend.2.2.2.mono (by decide) (by decide)⟩
      · show Steps p.tables e below (T20.setTop (mkF m 52 #[.val (.int pl_), .val (.int ps_), .val (.int pd_), .val (.int pv_), .val (.int ((1 : Int32) + ((pl_ &&& (2147483647 : Int32)) % (7 : Int32)))), .val (.int (1 : Int32)), .val (.ref b17), .val (.int (500 : Int32)), .unset, .unset] [(.int (7 : Int32)), (.int ((1 : Int32) + ((pl_ &&& (2147483647 : Int32)) % (7 : Int32))))])) _
        refine XS.icmpNo Xr20.here hx rfl (hb hby at_52) rfl (teq hc52_22).2 ?_
        show Steps p.tables e below (T20.setTop (mkF m 55 #[.val (.int pl_), .val (.int ps_), .val (.int pd_), .val (.int pv_), .val (.int ((1 : Int32) + ((pl_ &&& (2147483647 : Int32)) % (7 : Int32)))), .val (.int (1 : Int32)), .val (.ref b17), .val (.int (500 : Int32)), .unset, .unset] [])) _
        refine XS.iconst Xr20.here hx rfl (hb hby at_55) ?_
        show Steps p.tables e below (T20.setTop (mkF m 56 #[.val (.int pl_), .val (.int ps_), .val (.int pd_), .val (.int pv_), .val (.int ((1 : Int32) + ((pl_ &&& (2147483647 : Int32)) % (7 : Int32)))), .val (.int (1 : Int32)), .val (.ref b17), .val (.int (500 : Int32)), .unset, .unset] [(.int (2 : Int32))])) _
        refine XS.iload Xr20.here hx rfl (hb hby at_56) rfl ?_
        show Steps p.tables e below (T20.setTop (mkF m 58 #[.val (.int pl_), .val (.int ps_), .val (.int pd_), .val (.int pv_), .val (.int ((1 : Int32) + ((pl_ &&& (2147483647 : Int32)) % (7 : Int32)))), .val (.int (1 : Int32)), .val (.ref b17), .val (.int (500 : Int32)), .unset, .unset] [(.int (500 : Int32)), (.int (2 : Int32))])) _
        refine XS.imul Xr20.here hx rfl (hb hby at_58) rfl ?_
        show Steps p.tables e below (T20.setTop (mkF m 59 #[.val (.int pl_), .val (.int ps_), .val (.int pd_), .val (.int pv_), .val (.int ((1 : Int32) + ((pl_ &&& (2147483647 : Int32)) % (7 : Int32)))), .val (.int (1 : Int32)), .val (.ref b17), .val (.int (500 : Int32)), .unset, .unset] [(.int (1000 : Int32))])) _
        refine XS.istore Xr20.here hx rfl (hb hby at_59) rfl (l' := #[.val (.int pl_), .val (.int ps_), .val (.int pd_), .val (.int pv_), .val (.int ((1 : Int32) + ((pl_ &&& (2147483647 : Int32)) % (7 : Int32)))), .val (.int (1 : Int32)), .val (.ref b17), .val (.int (500 : Int32)), .val (.int (1000 : Int32)), .unset]) rfl ?_
        show Steps p.tables e below (T20.setTop (mkF m 61 #[.val (.int pl_), .val (.int ps_), .val (.int pd_), .val (.int pv_), .val (.int ((1 : Int32) + ((pl_ &&& (2147483647 : Int32)) % (7 : Int32)))), .val (.int (1 : Int32)), .val (.ref b17), .val (.int (500 : Int32)), .val (.int (1000 : Int32)), .unset] [])) _
        refine XS.goto Xr20.here hx rfl (pc0 := 61) (pc' := 81) rfl (hb hby at_61) (by decide) (by decide) ?_
        show Steps p.tables e below (T20.setTop (mkF m 81 #[.val (.int pl_), .val (.int ps_), .val (.int pd_), .val (.int pv_), .val (.int ((1 : Int32) + ((pl_ &&& (2147483647 : Int32)) % (7 : Int32)))), .val (.int (1 : Int32)), .val (.ref b17), .val (.int (500 : Int32)), .val (.int (1000 : Int32)), .unset] [])) _
        refine XS.iload Xr20.here hx rfl (hb hby at_81) rfl ?_
        show Steps p.tables e below (T20.setTop (mkF m 83 #[.val (.int pl_), .val (.int ps_), .val (.int pd_), .val (.int pv_), .val (.int ((1 : Int32) + ((pl_ &&& (2147483647 : Int32)) % (7 : Int32)))), .val (.int (1 : Int32)), .val (.ref b17), .val (.int (500 : Int32)), .val (.int (1000 : Int32)), .unset] [(.int (1 : Int32))])) _
        refine XS.ifNo Xr20.here hx rfl (hb hby at_83) rfl ((if0 _ _).trans (feq (by decide : ¬ ((1 : Int32) = (0 : Int32)))).1) ?_
        show Steps p.tables e below (T20.setTop (mkF m 86 #[.val (.int pl_), .val (.int ps_), .val (.int pd_), .val (.int pv_), .val (.int ((1 : Int32) + ((pl_ &&& (2147483647 : Int32)) % (7 : Int32)))), .val (.int (1 : Int32)), .val (.ref b17), .val (.int (500 : Int32)), .val (.int (1000 : Int32)), .unset] [])) _
        refine XS.iload Xr20.here hx rfl (hb hby at_86) rfl ?_
        show Steps p.tables e below (T20.setTop (mkF m 88 #[.val (.int pl_), .val (.int ps_), .val (.int pd_), .val (.int pv_), .val (.int ((1 : Int32) + ((pl_ &&& (2147483647 : Int32)) % (7 : Int32)))), .val (.int (1 : Int32)), .val (.ref b17), .val (.int (500 : Int32)), .val (.int (1000 : Int32)), .unset] [(.int (1000 : Int32))])) _
        refine XS.iload Xr20.here hx rfl (hb hby at_88) rfl ?_
        show Steps p.tables e below (T20.setTop (mkF m 90 #[.val (.int pl_), .val (.int ps_), .val (.int pd_), .val (.int pv_), .val (.int ((1 : Int32) + ((pl_ &&& (2147483647 : Int32)) % (7 : Int32)))), .val (.int (1 : Int32)), .val (.ref b17), .val (.int (500 : Int32)), .val (.int (1000 : Int32)), .unset] [(.int (1000 : Int32)), (.int (1000 : Int32))])) _
        refine XS.iconst Xr20.here hx rfl (hb hby at_90) ?_
        show Steps p.tables e below (T20.setTop (mkF m 91 #[.val (.int pl_), .val (.int ps_), .val (.int pd_), .val (.int pv_), .val (.int ((1 : Int32) + ((pl_ &&& (2147483647 : Int32)) % (7 : Int32)))), .val (.int (1 : Int32)), .val (.ref b17), .val (.int (500 : Int32)), .val (.int (1000 : Int32)), .unset] [(.int (2 : Int32)), (.int (1000 : Int32)), (.int (1000 : Int32))])) _
        refine XS.idiv Xr20.here hx rfl (hb hby at_91) rfl (by decide) ?_
        show Steps p.tables e below (T20.setTop (mkF m 92 #[.val (.int pl_), .val (.int ps_), .val (.int pd_), .val (.int pv_), .val (.int ((1 : Int32) + ((pl_ &&& (2147483647 : Int32)) % (7 : Int32)))), .val (.int (1 : Int32)), .val (.ref b17), .val (.int (500 : Int32)), .val (.int (1000 : Int32)), .unset] [(.int ((1000 : Int32) / (2 : Int32))), (.int (1000 : Int32))])) _
        refine XS.iadd Xr20.here hx rfl (hb hby at_92) rfl ?_
        show Steps p.tables e below (T20.setTop (mkF m 93 #[.val (.int pl_), .val (.int ps_), .val (.int pd_), .val (.int pv_), .val (.int ((1 : Int32) + ((pl_ &&& (2147483647 : Int32)) % (7 : Int32)))), .val (.int (1 : Int32)), .val (.ref b17), .val (.int (500 : Int32)), .val (.int (1000 : Int32)), .unset] [(.int ((1000 : Int32) + ((1000 : Int32) / (2 : Int32))))])) _
        refine XS.goto Xr20.here hx rfl (pc0 := 93) (pc' := 98) rfl (hb hby at_93) (by decide) (by decide) ?_
        show Steps p.tables e below (T20.setTop (mkF m 98 #[.val (.int pl_), .val (.int ps_), .val (.int pd_), .val (.int pv_), .val (.int ((1 : Int32) + ((pl_ &&& (2147483647 : Int32)) % (7 : Int32)))), .val (.int (1 : Int32)), .val (.ref b17), .val (.int (500 : Int32)), .val (.int (1000 : Int32)), .unset] [(.int ((1000 : Int32) + ((1000 : Int32) / (2 : Int32))))])) _
        refine XS.istore Xr20.here hx rfl (hb hby at_98) rfl (l' := #[.val (.int pl_), .val (.int ps_), .val (.int pd_), .val (.int pv_), .val (.int ((1 : Int32) + ((pl_ &&& (2147483647 : Int32)) % (7 : Int32)))), .val (.int (1 : Int32)), .val (.ref b17), .val (.int (500 : Int32)), .val (.int (1000 : Int32)), .val (.int ((1000 : Int32) + ((1000 : Int32) / (2 : Int32))))]) rfl ?_
        show Steps p.tables e below (T20.setTop (mkF m 100 #[.val (.int pl_), .val (.int ps_), .val (.int pd_), .val (.int pv_), .val (.int ((1 : Int32) + ((pl_ &&& (2147483647 : Int32)) % (7 : Int32)))), .val (.int (1 : Int32)), .val (.ref b17), .val (.int (500 : Int32)), .val (.int (1000 : Int32)), .val (.int ((1000 : Int32) + ((1000 : Int32) / (2 : Int32))))] [])) _
        refine XS.aload Xr20.here hx rfl (hb hby at_100) rfl rfl ?_
        show Steps p.tables e below (T20.setTop (mkF m 102 #[.val (.int pl_), .val (.int ps_), .val (.int pd_), .val (.int pv_), .val (.int ((1 : Int32) + ((pl_ &&& (2147483647 : Int32)) % (7 : Int32)))), .val (.int (1 : Int32)), .val (.ref b17), .val (.int (500 : Int32)), .val (.int (1000 : Int32)), .val (.int ((1000 : Int32) + ((1000 : Int32) / (2 : Int32))))] [(.ref b17)])) _
        refine XS.iload Xr20.here hx rfl (hb hby at_102) rfl ?_
        show Steps p.tables e below (T20.setTop (mkF m 104 #[.val (.int pl_), .val (.int ps_), .val (.int pd_), .val (.int pv_), .val (.int ((1 : Int32) + ((pl_ &&& (2147483647 : Int32)) % (7 : Int32)))), .val (.int (1 : Int32)), .val (.ref b17), .val (.int (500 : Int32)), .val (.int (1000 : Int32)), .val (.int ((1000 : Int32) + ((1000 : Int32) / (2 : Int32))))] [(.int (1 : Int32)), (.ref b17)])) _
        refine st23.trans ?_
        show Steps p.tables e below (T23.setTop (mkF m 107 #[.val (.int pl_), .val (.int ps_), .val (.int pd_), .val (.int pv_), .val (.int ((1 : Int32) + ((pl_ &&& (2147483647 : Int32)) % (7 : Int32)))), .val (.int (1 : Int32)), .val (.ref b17), .val (.int (500 : Int32)), .val (.int (1000 : Int32)), .val (.int ((1000 : Int32) + ((1000 : Int32) / (2 : Int32))))] [(.int (slamF (1 : Int32) ((1 : Int32) + ((pl_ &&& (2147483647 : Int32)) % (7 : Int32)))))])) _
        refine XS.iload X23.here hx rfl (hb hby at_107) rfl ?_
        show Steps p.tables e below (T23.setTop (mkF m 109 #[.val (.int pl_), .val (.int ps_), .val (.int pd_), .val (.int pv_), .val (.int ((1 : Int32) + ((pl_ &&& (2147483647 : Int32)) % (7 : Int32)))), .val (.int (1 : Int32)), .val (.ref b17), .val (.int (500 : Int32)), .val (.int (1000 : Int32)), .val (.int ((1000 : Int32) + ((1000 : Int32) / (2 : Int32))))] [(.int ((1000 : Int32) + ((1000 : Int32) / (2 : Int32)))), (.int (slamF (1 : Int32) ((1 : Int32) + ((pl_ &&& (2147483647 : Int32)) % (7 : Int32)))))])) _
        refine XS.icmpNo X23.here hx rfl (hb hby at_109) rfl (teq (by rw [hc52_22]; first | done | decide +kernel : (slamF (1 : Int32) ((1 : Int32) + ((pl_ &&& (2147483647 : Int32)) % (7 : Int32)))) = ((1000 : Int32) + ((1000 : Int32) / (2 : Int32))))).2 ?_
        show Steps p.tables e below (T23.setTop (mkF m 112 #[.val (.int pl_), .val (.int ps_), .val (.int pd_), .val (.int pv_), .val (.int ((1 : Int32) + ((pl_ &&& (2147483647 : Int32)) % (7 : Int32)))), .val (.int (1 : Int32)), .val (.ref b17), .val (.int (500 : Int32)), .val (.int (1000 : Int32)), .val (.int ((1000 : Int32) + ((1000 : Int32) / (2 : Int32))))] [])) _
        refine XS.iconst X23.here hx rfl (hb hby at_112) ?_
        show Steps p.tables e below (T23.setTop (mkF m 113 #[.val (.int pl_), .val (.int ps_), .val (.int pd_), .val (.int pv_), .val (.int ((1 : Int32) + ((pl_ &&& (2147483647 : Int32)) % (7 : Int32)))), .val (.int (1 : Int32)), .val (.ref b17), .val (.int (500 : Int32)), .val (.int (1000 : Int32)), .val (.int ((1000 : Int32) + ((1000 : Int32) / (2 : Int32))))] [(.int (1 : Int32))])) _
        refine XS.goto X23.here hx rfl (pc0 := 113) (pc' := 117) rfl (hb hby at_113) (by decide) (by decide) ?_
        show Steps p.tables e below (T23.setTop (mkF m 117 #[.val (.int pl_), .val (.int ps_), .val (.int pd_), .val (.int pv_), .val (.int ((1 : Int32) + ((pl_ &&& (2147483647 : Int32)) % (7 : Int32)))), .val (.int (1 : Int32)), .val (.ref b17), .val (.int (500 : Int32)), .val (.int (1000 : Int32)), .val (.int ((1000 : Int32) + ((1000 : Int32) / (2 : Int32))))] [(.int (1 : Int32))])) _
        exact retN X23 hx (t := .boolean) Bd.returns (by simp) (hb hby at_117) hr
      · show Q0 Z pl_ ps_ pd_ pv_ w_CLUBS w_DIAMONDS w_HEARTS w_SPADES w_NO_TRUMP w_UNDOUBLED w_DOUBLED w_REDOUBLED h0 n0 _ T23.heap _
        rw [e23]
        exact ⟨rfl, N23⟩
    · have pre25 : ∀ t, Steps p.tables e below (T20.setTop (mkF m 68 #[.val (.int pl_), .val (.int ps_), .val (.int pd_), .val (.int pv_), .val (.int ((1 : Int32) + ((pl_ &&& (2147483647 : Int32)) % (7 : Int32)))), .val (.int (1 : Int32)), .val (.ref b17), .val (.int (500 : Int32)), .unset, .unset] [(.int (6 : Int32)), (.int ((1 : Int32) + ((pl_ &&& (2147483647 : Int32)) % (7 : Int32))))])) t → Steps p.tables e below (s₁.setTop (entryFrame m #[(.int pl_), (.int ps_), (.int pd_), (.int pv_)] maxLocals)) t := by
        intro t kt
        refine pre21 t ?_
        show Steps p.tables e below (T20.setTop (mkF m 52 #[.val (.int pl_), .val (.int ps_), .val (.int pd_), .val (.int pv_), .val (.int ((1 : Int32) + ((pl_ &&& (2147483647 : Int32)) % (7 : Int32)))), .val (.int (1 : Int32)), .val (.ref b17), .val (.int (500 : Int32)), .unset, .unset] [(.int (7 : Int32)), (.int ((1 : Int32) + ((pl_ &&& (2147483647 : Int32)) % (7 : Int32))))])) _
        refine XS.icmpYes Xr20.here hx rfl (pc0 := 52) (pc' := 64) rfl (hb hby at_52) rfl (feq hc52_22).2 (by decide) (by decide) ?_
        show Steps p.tables e below (T20.setTop (mkF m 64 #[.val (.int pl_), .val (.int ps_), .val (.int pd_), .val (.int pv_), .val (.int ((1 : Int32) + ((pl_ &&& (2147483647 : Int32)) % (7 : Int32)))), .val (.int (1 : Int32)), .val (.ref b17), .val (.int (500 : Int32)), .unset, .unset] [])) _
        refine XS.iload Xr20.here hx rfl (hb hby at_64) rfl ?_
        show Steps p.tables e below (T20.setTop (mkF m 66 #[.val (.int pl_), .val (.int ps_), .val (.int pd_), .val (.int pv_), .val (.int ((1 : Int32) + ((pl_ &&& (2147483647 : Int32)) % (7 : Int32)))), .val (.int (1 : Int32)), .val (.ref b17), .val (.int (500 : Int32)), .unset, .unset] [(.int ((1 : Int32) + ((pl_ &&& (2147483647 : Int32)) % (7 : Int32))))])) _
        refine XS.bipush Xr20.here hx rfl (hb hby at_66) ?_
        show Steps p.tables e below (T20.setTop (mkF m 68 #[.val (.int pl_), .val (.int ps_), .val (.int pd_), .val (.int pv_), .val (.int ((1 : Int32) + ((pl_ &&& (2147483647 : Int32)) % (7 : Int32)))), .val (.int (1 : Int32)), .val (.ref b17), .val (.int (500 : Int32)), .unset, .unset] [(.int (6 : Int32)), (.int ((1 : Int32) + ((pl_ &&& (2147483647 : Int32)) % (7 : Int32))))])) _
        exact kt
      by_cases hc68_26 : ((1 : Int32) + ((pl_ &&& (2147483647 : Int32)) % (7 : Int32))) = (6 : Int32)
      · obtain ⟨cq27, kq27, q27a, q27b, q27c⟩ := isOf hZ20 rfl A20c
        obtain ⟨_, _, ⟨T27, L27, k27, n27⟩, -, X27, ⟨Lc27, hQ27, l27, y27, z27⟩, st27⟩ := Xr20.virtualBack hx (y := (⟨"com/example/ruffwork/ruffwork/Contract", "slamBonus", "(Z)I"⟩ : MethodName)) (z := (⟨"com/example/ruffwork/ruffwork/Contract", "slamBonus", "(Z)I"⟩ : MethodName)) hown20 (mvT hZ20 (hw _ (List.mem_of_getElem? (i := 51) rfl))) (mvT hZ20 (hw _ (List.mem_of_getElem? (i := 52) rfl))) (notFace_of_selects (args := #[]) (mvT hZ20 (hw _ (List.mem_of_getElem? (i := 54) rfl)))) (mvT hZ20 (hw _ (List.mem_of_getElem? (i := 54) rfl))) (mvT hZ20 (hw _ (List.mem_of_getElem? (i := 53) rfl))) (by decide) (backOf (W := 0) (rm8 l Z a0 hw [] b17 (1 : Int32) ((1 : Int32) + ((pl_ &&& (2147483647 : Int32)) % (7 : Int32))) T20.heap n0 (Nat.le_trans Z0 Kc20.1) Fl20) hZ20 (hw _ (List.mem_of_getElem? (i := 55) rfl)) (hw _ (List.mem_of_getElem? (i := 3) rfl)) (by decide) (by decide)) q27a q27c (g := (mkF m 104 #[.val (.int pl_), .val (.int ps_), .val (.int pd_), .val (.int pv_), .val (.int ((1 : Int32) + ((pl_ &&& (2147483647 : Int32)) % (7 : Int32)))), .val (.int (1 : Int32)), .val (.ref b17), .val (.int (500 : Int32)), .val (.int (500 : Int32)), .val (.int ((500 : Int32) + ((500 : Int32) / (2 : Int32))))] [(.int (1 : Int32)), (.ref b17)])) rfl (by rw [hml]; rfl) (Steps.refl _) (argsL := [(.int (1 : Int32))]) (rest := []) (lenOf pd_6 rfl) rfl (by show 2 * 0 + _ ≤ _; exact Nat.le_of_eq rfl) (hb hby at_104) (fun _ _ => ⟨rfl, rfl, (by decide : 5 + 0 ≤ _), (by decide : 67 + 0 ≤ _)⟩)
        dsimp only [Pt.U, Pt.locs, Pt.cells, Pt.slots] at X27 l27 y27 z27 st27 hQ27
        subst l27 y27 z27
        obtain ⟨rfl, N27q, e27⟩ := hQ27
        have N27 := Fr.app N20 N27q
        obtain ⟨fs, hr, hrun, hended, hend⟩ := Stand.leaveW (s := s) (vm₁ := T20.vm) X27 hS20 (by rw [e27]; exact (Nat.le_refl _)) (v := some (.int (1 : Int32))) (fun h => by rw [Bd.returns] at h; cases h)
        refine ⟨_, _, pre25 _ ?_, hrun, hended, _, _, rfl, ?_, hend.1, hend.2.1, hend.2.2.1, hend.2.2.2.mono (by decide) (by decide)⟩
        · show Steps p.tables e below (T20.setTop (mkF m 68 #[.val (.int pl_), .val (.int ps_), .val (.int pd_), .val (.int pv_), .val (.int ((1 : Int32) + ((pl_ &&& (2147483647 : Int32)) % (7 : Int32)))), .val (.int (1 : Int32)), .val (.ref b17), .val (.int (500 : Int32)), .unset, .unset] [(.int (6 : Int32)), (.int ((1 : Int32) + ((pl_ &&& (2147483647 : Int32)) % (7 : Int32))))])) _
          refine XS.icmpNo Xr20.here hx rfl (hb hby at_68) rfl (teq hc68_26).2 ?_
          show Steps p.tables e below (T20.setTop (mkF m 71 #[.val (.int pl_), .val (.int ps_), .val (.int pd_), .val (.int pv_), .val (.int ((1 : Int32) + ((pl_ &&& (2147483647 : Int32)) % (7 : Int32)))), .val (.int (1 : Int32)), .val (.ref b17), .val (.int (500 : Int32)), .unset, .unset] [])) _
          refine XS.iload Xr20.here hx rfl (hb hby at_71) rfl ?_
          show Steps p.tables e below (T20.setTop (mkF m 73 #[.val (.int pl_), .val (.int ps_), .val (.int pd_), .val (.int pv_), .val (.int ((1 : Int32) + ((pl_ &&& (2147483647 : Int32)) % (7 : Int32)))), .val (.int (1 : Int32)), .val (.ref b17), .val (.int (500 : Int32)), .unset, .unset] [(.int (500 : Int32))])) _
          refine XS.istore Xr20.here hx rfl (hb hby at_73) rfl (l' := #[.val (.int pl_), .val (.int ps_), .val (.int pd_), .val (.int pv_), .val (.int ((1 : Int32) + ((pl_ &&& (2147483647 : Int32)) % (7 : Int32)))), .val (.int (1 : Int32)), .val (.ref b17), .val (.int (500 : Int32)), .val (.int (500 : Int32)), .unset]) rfl ?_
          show Steps p.tables e below (T20.setTop (mkF m 75 #[.val (.int pl_), .val (.int ps_), .val (.int pd_), .val (.int pv_), .val (.int ((1 : Int32) + ((pl_ &&& (2147483647 : Int32)) % (7 : Int32)))), .val (.int (1 : Int32)), .val (.ref b17), .val (.int (500 : Int32)), .val (.int (500 : Int32)), .unset] [])) _
          refine XS.goto Xr20.here hx rfl (pc0 := 75) (pc' := 81) rfl (hb hby at_75) (by decide) (by decide) ?_
          show Steps p.tables e below (T20.setTop (mkF m 81 #[.val (.int pl_), .val (.int ps_), .val (.int pd_), .val (.int pv_), .val (.int ((1 : Int32) + ((pl_ &&& (2147483647 : Int32)) % (7 : Int32)))), .val (.int (1 : Int32)), .val (.ref b17), .val (.int (500 : Int32)), .val (.int (500 : Int32)), .unset] [])) _
          refine XS.iload Xr20.here hx rfl (hb hby at_81) rfl ?_
          show Steps p.tables e below (T20.setTop (mkF m 83 #[.val (.int pl_), .val (.int ps_), .val (.int pd_), .val (.int pv_), .val (.int ((1 : Int32) + ((pl_ &&& (2147483647 : Int32)) % (7 : Int32)))), .val (.int (1 : Int32)), .val (.ref b17), .val (.int (500 : Int32)), .val (.int (500 : Int32)), .unset] [(.int (1 : Int32))])) _
          refine XS.ifNo Xr20.here hx rfl (hb hby at_83) rfl ((if0 _ _).trans (feq (by decide : ¬ ((1 : Int32) = (0 : Int32)))).1) ?_
          show Steps p.tables e below (T20.setTop (mkF m 86 #[.val (.int pl_), .val (.int ps_), .val (.int pd_), .val (.int pv_), .val (.int ((1 : Int32) + ((pl_ &&& (2147483647 : Int32)) % (7 : Int32)))), .val (.int (1 : Int32)), .val (.ref b17), .val (.int (500 : Int32)), .val (.int (500 : Int32)), .unset] [])) _
          refine XS.iload Xr20.here hx rfl (hb hby at_86) rfl ?_
          show Steps p.tables e below (T20.setTop (mkF m 88 #[.val (.int pl_), .val (.int ps_), .val (.int pd_), .val (.int pv_), .val (.int ((1 : Int32) + ((pl_ &&& (2147483647 : Int32)) % (7 : Int32)))), .val (.int (1 : Int32)), .val (.ref b17), .val (.int (500 : Int32)), .val (.int (500 : Int32)), .unset] [(.int (500 : Int32))])) _
          refine XS.iload Xr20.here hx rfl (hb hby at_88) rfl ?_
          show Steps p.tables e below (T20.setTop (mkF m 90 #[.val (.int pl_), .val (.int ps_), .val (.int pd_), .val (.int pv_), .val (.int ((1 : Int32) + ((pl_ &&& (2147483647 : Int32)) % (7 : Int32)))), .val (.int (1 : Int32)), .val (.ref b17), .val (.int (500 : Int32)), .val (.int (500 : Int32)), .unset] [(.int (500 : Int32)), (.int (500 : Int32))])) _
          refine XS.iconst Xr20.here hx rfl (hb hby at_90) ?_
          show Steps p.tables e below (T20.setTop (mkF m 91 #[.val (.int pl_), .val (.int ps_), .val (.int pd_), .val (.int pv_), .val (.int ((1 : Int32) + ((pl_ &&& (2147483647 : Int32)) % (7 : Int32)))), .val (.int (1 : Int32)), .val (.ref b17), .val (.int (500 : Int32)), .val (.int (500 : Int32)), .unset] [(.int (2 : Int32)), (.int (500 : Int32)), (.int (500 : Int32))])) _
          refine XS.idiv Xr20.here hx rfl (hb hby at_91) rfl (by decide) ?_
          show Steps p.tables e below (T20.setTop (mkF m 92 #[.val (.int pl_), .val (.int ps_), .val (.int pd_), .val (.int pv_), .val (.int ((1 : Int32) + ((pl_ &&& (2147483647 : Int32)) % (7 : Int32)))), .val (.int (1 : Int32)), .val (.ref b17), .val (.int (500 : Int32)), .val (.int (500 : Int32)), .unset] [(.int ((500 : Int32) / (2 : Int32))), (.int (500 : Int32))])) _
          refine XS.iadd Xr20.here hx rfl (hb hby at_92) rfl ?_
          show Steps p.tables e below (T20.setTop (mkF m 93 #[.val (.int pl_), .val (.int ps_), .val (.int pd_), .val (.int pv_), .val (.int ((1 : Int32) + ((pl_ &&& (2147483647 : Int32)) % (7 : Int32)))), .val (.int (1 : Int32)), .val (.ref b17), .val (.int (500 : Int32)), .val (.int (500 : Int32)), .unset] [(.int ((500 : Int32) + ((500 : Int32) / (2 : Int32))))])) _
          refine XS.goto Xr20.here hx rfl (pc0 := 93) (pc' := 98) rfl (hb hby at_93) (by decide) (by decide) ?_
          show Steps p.tables e below (T20.setTop (mkF m 98 #[.val (.int pl_), .val (.int ps_), .val (.int pd_), .val (.int pv_), .val (.int ((1 : Int32) + ((pl_ &&& (2147483647 : Int32)) % (7 : Int32)))), .val (.int (1 : Int32)), .val (.ref b17), .val (.int (500 : Int32)), .val (.int (500 : Int32)), .unset] [(.int ((500 : Int32) + ((500 : Int32) / (2 : Int32))))])) _
          refine XS.istore Xr20.here hx rfl (hb hby at_98) rfl (l' := #[.val (.int pl_), .val (.int ps_), .val (.int pd_), .val (.int pv_), .val (.int ((1 : Int32) + ((pl_ &&& (2147483647 : Int32)) % (7 : Int32)))), .val (.int (1 : Int32)), .val (.ref b17), .val (.int (500 : Int32)), .val (.int (500 : Int32)), .val (.int ((500 : Int32) + ((500 : Int32) / (2 : Int32))))]) rfl ?_
          show Steps p.tables e below (T20.setTop (mkF m 100 #[.val (.int pl_), .val (.int ps_), .val (.int pd_), .val (.int pv_), .val (.int ((1 : Int32) + ((pl_ &&& (2147483647 : Int32)) % (7 : Int32)))), .val (.int (1 : Int32)), .val (.ref b17), .val (.int (500 : Int32)), .val (.int (500 : Int32)), .val (.int ((500 : Int32) + ((500 : Int32) / (2 : Int32))))] [])) _
          refine XS.aload Xr20.here hx rfl (hb hby at_100) rfl rfl ?_
          show Steps p.tables e below (T20.setTop (mkF m 102 #[.val (.int pl_), .val (.int ps_), .val (.int pd_), .val (.int pv_), .val (.int ((1 : Int32) + ((pl_ &&& (2147483647 : Int32)) % (7 : Int32)))), .val (.int (1 : Int32)), .val (.ref b17), .val (.int (500 : Int32)), .val (.int (500 : Int32)), .val (.int ((500 : Int32) + ((500 : Int32) / (2 : Int32))))] [(.ref b17)])) _
          refine XS.iload Xr20.here hx rfl (hb hby at_102) rfl ?_
          show Steps p.tables e below (T20.setTop (mkF m 104 #[.val (.int pl_), .val (.int ps_), .val (.int pd_), .val (.int pv_), .val (.int ((1 : Int32) + ((pl_ &&& (2147483647 : Int32)) % (7 : Int32)))), .val (.int (1 : Int32)), .val (.ref b17), .val (.int (500 : Int32)), .val (.int (500 : Int32)), .val (.int ((500 : Int32) + ((500 : Int32) / (2 : Int32))))] [(.int (1 : Int32)), (.ref b17)])) _
          refine st27.trans ?_
          show Steps p.tables e below (T27.setTop (mkF m 107 #[.val (.int pl_), .val (.int ps_), .val (.int pd_), .val (.int pv_), .val (.int ((1 : Int32) + ((pl_ &&& (2147483647 : Int32)) % (7 : Int32)))), .val (.int (1 : Int32)), .val (.ref b17), .val (.int (500 : Int32)), .val (.int (500 : Int32)), .val (.int ((500 : Int32) + ((500 : Int32) / (2 : Int32))))] [(.int (slamF (1 : Int32) ((1 : Int32) + ((pl_ &&& (2147483647 : Int32)) % (7 : Int32)))))])) _
          refine XS.iload X27.here hx rfl (hb hby at_107) rfl ?_
          show Steps p.tables e below (T27.setTop (mkF m 109 #[.val (.int pl_), .val (.int ps_), .val (.int pd_), .val (.int pv_), .val (.int ((1 : Int32) + ((pl_ &&& (2147483647 : Int32)) % (7 : Int32)))), .val (.int (1 : Int32)), .val (.ref b17), .val (.int (500 : Int32)), .val (.int (500 : Int32)), .val (.int ((500 : Int32) + ((500 : Int32) / (2 : Int32))))] [(.int ((500 : Int32) + ((500 : Int32) / (2 : Int32)))), (.int (slamF (1 : Int32) ((1 : Int32) + ((pl_ &&& (2147483647 : Int32)) % (7 : Int32)))))])) _
          refine XS.icmpNo X27.here hx rfl (hb hby at_109) rfl (teq (by rw [hc68_26]; first | done | decide +kernel : (slamF (1 : Int32) ((1 : Int32) + ((pl_ &&& (2147483647 : Int32)) % (7 : Int32)))) = ((500 : Int32) + ((500 : Int32) / (2 : Int32))))).2 ?_
          show Steps p.tables e below (T27.setTop (mkF m 112 #[.val (.int pl_), .val (.int ps_), .val (.int pd_), .val (.int pv_), .val (.int ((1 : Int32) + ((pl_ &&& (2147483647 : Int32)) % (7 : Int32)))), .val (.int (1 : Int32)), .val (.ref b17), .val (.int (500 : Int32)), .val (.int (500 : Int32)), .val (.int ((500 : Int32) + ((500 : Int32) / (2 : Int32))))] [])) _
          refine XS.iconst X27.here hx rfl (hb hby at_112) ?_
          show Steps p.tables e below (T27.setTop (mkF m 113 #[.val (.int pl_), .val (.int ps_), .val (.int pd_), .val (.int pv_), .val (.int ((1 : Int32) + ((pl_ &&& (2147483647 : Int32)) % (7 : Int32)))), .val (.int (1 : Int32)), .val (.ref b17), .val (.int (500 : Int32)), .val (.int (500 : Int32)), .val (.int ((500 : Int32) + ((500 : Int32) / (2 : Int32))))] [(.int (1 : Int32))])) _
          refine XS.goto X27.here hx rfl (pc0 := 113) (pc' := 117) rfl (hb hby at_113) (by decide) (by decide) ?_
          show Steps p.tables e below (T27.setTop (mkF m 117 #[.val (.int pl_), .val (.int ps_), .val (.int pd_), .val (.int pv_), .val (.int ((1 : Int32) + ((pl_ &&& (2147483647 : Int32)) % (7 : Int32)))), .val (.int (1 : Int32)), .val (.ref b17), .val (.int (500 : Int32)), .val (.int (500 : Int32)), .val (.int ((500 : Int32) + ((500 : Int32) / (2 : Int32))))] [(.int (1 : Int32))])) _
          exact retN X27 hx (t := .boolean) Bd.returns (by simp) (hb hby at_117) hr
        · show Q0 Z pl_ ps_ pd_ pv_ w_CLUBS w_DIAMONDS w_HEARTS w_SPADES w_NO_TRUMP w_UNDOUBLED w_DOUBLED w_REDOUBLED h0 n0 _ T27.heap _
          rw [e27]
          exact ⟨rfl, N27⟩
      · obtain ⟨cq29, kq29, q29a, q29b, q29c⟩ := isOf hZ20 rfl A20c
        obtain ⟨_, _, ⟨T29, L29, k29, n29⟩, -, X29, ⟨Lc29, hQ29, l29, y29, z29⟩, st29⟩ := Xr20.virtualBack hx (y := (⟨"com/example/ruffwork/ruffwork/Contract", "slamBonus", "(Z)I"⟩ : MethodName)) (z := (⟨"com/example/ruffwork/ruffwork/Contract", "slamBonus", "(Z)I"⟩ : MethodName)) hown20 (mvT hZ20 (hw _ (List.mem_of_getElem? (i := 51) rfl))) (mvT hZ20 (hw _ (List.mem_of_getElem? (i := 52) rfl))) (notFace_of_selects (args := #[]) (mvT hZ20 (hw _ (List.mem_of_getElem? (i := 54) rfl)))) (mvT hZ20 (hw _ (List.mem_of_getElem? (i := 54) rfl))) (mvT hZ20 (hw _ (List.mem_of_getElem? (i := 53) rfl))) (by decide) (backOf (W := 0) (rm8 l Z a0 hw [] b17 (1 : Int32) ((1 : Int32) + ((pl_ &&& (2147483647 : Int32)) % (7 : Int32))) T20.heap n0 (Nat.le_trans Z0 Kc20.1) Fl20) hZ20 (hw _ (List.mem_of_getElem? (i := 55) rfl)) (hw _ (List.mem_of_getElem? (i := 3) rfl)) (by decide) (by decide)) q29a q29c (g := (mkF m 104 #[.val (.int pl_), .val (.int ps_), .val (.int pd_), .val (.int pv_), .val (.int ((1 : Int32) + ((pl_ &&& (2147483647 : Int32)) % (7 : Int32)))), .val (.int (1 : Int32)), .val (.ref b17), .val (.int (500 : Int32)), .val (.int (0 : Int32)), .val (.int ((0 : Int32) + ((0 : Int32) / (2 : Int32))))] [(.int (1 : Int32)), (.ref b17)])) rfl (by rw [hml]; rfl) (Steps.refl _) (argsL := [(.int (1 : Int32))]) (rest := []) (lenOf pd_6 rfl) rfl (by show 2 * 0 + _ ≤ _; exact Nat.le_of_eq rfl) (hb hby at_104) (fun _ _ => ⟨rfl, rfl, (by decide : 5 + 0 ≤ _), (by decide : 67 + 0 ≤ _)⟩)
        dsimp only [Pt.U, Pt.locs, Pt.cells, Pt.slots] at X29 l29 y29 z29 st29 hQ29
        subst l29 y29 z29
        obtain ⟨rfl, N29q, e29⟩ := hQ29
        have N29 := Fr.app N20 N29q
        obtain ⟨fs, hr, hrun, hended, hend⟩ := Stand.leaveW (s := s) (vm₁ := T20.vm) X29 hS20 (by rw [e29]; exact (Nat.le_refl _)) (v := some (.int (1 : Int32))) (fun h => by rw [Bd.returns] at h; cases h)
        refine ⟨_, _, pre25 _ ?_, hrun, hended, _, _, rfl, ?_, hend.1, hend.2.1, hend.2.2.1, hend.2.2.2.mono (by decide) (by decide)⟩
        · show Steps p.tables e below (T20.setTop (mkF m 68 #[.val (.int pl_), .val (.int ps_), .val (.int pd_), .val (.int pv_), .val (.int ((1 : Int32) + ((pl_ &&& (2147483647 : Int32)) % (7 : Int32)))), .val (.int (1 : Int32)), .val (.ref b17), .val (.int (500 : Int32)), .unset, .unset] [(.int (6 : Int32)), (.int ((1 : Int32) + ((pl_ &&& (2147483647 : Int32)) % (7 : Int32))))])) _
          refine XS.icmpYes Xr20.here hx rfl (pc0 := 68) (pc' := 78) rfl (hb hby at_68) rfl (feq hc68_26).2 (by decide) (by decide) ?_
          show Steps p.tables e below (T20.setTop (mkF m 78 #[.val (.int pl_), .val (.int ps_), .val (.int pd_), .val (.int pv_), .val (.int ((1 : Int32) + ((pl_ &&& (2147483647 : Int32)) % (7 : Int32)))), .val (.int (1 : Int32)), .val (.ref b17), .val (.int (500 : Int32)), .unset, .unset] [])) _
          refine XS.iconst Xr20.here hx rfl (hb hby at_78) ?_
          show Steps p.tables e below (T20.setTop (mkF m 79 #[.val (.int pl_), .val (.int ps_), .val (.int pd_), .val (.int pv_), .val (.int ((1 : Int32) + ((pl_ &&& (2147483647 : Int32)) % (7 : Int32)))), .val (.int (1 : Int32)), .val (.ref b17), .val (.int (500 : Int32)), .unset, .unset] [(.int (0 : Int32))])) _
          refine XS.istore Xr20.here hx rfl (hb hby at_79) rfl (l' := #[.val (.int pl_), .val (.int ps_), .val (.int pd_), .val (.int pv_), .val (.int ((1 : Int32) + ((pl_ &&& (2147483647 : Int32)) % (7 : Int32)))), .val (.int (1 : Int32)), .val (.ref b17), .val (.int (500 : Int32)), .val (.int (0 : Int32)), .unset]) rfl ?_
          show Steps p.tables e below (T20.setTop (mkF m 81 #[.val (.int pl_), .val (.int ps_), .val (.int pd_), .val (.int pv_), .val (.int ((1 : Int32) + ((pl_ &&& (2147483647 : Int32)) % (7 : Int32)))), .val (.int (1 : Int32)), .val (.ref b17), .val (.int (500 : Int32)), .val (.int (0 : Int32)), .unset] [])) _
          refine XS.iload Xr20.here hx rfl (hb hby at_81) rfl ?_
          show Steps p.tables e below (T20.setTop (mkF m 83 #[.val (.int pl_), .val (.int ps_), .val (.int pd_), .val (.int pv_), .val (.int ((1 : Int32) + ((pl_ &&& (2147483647 : Int32)) % (7 : Int32)))), .val (.int (1 : Int32)), .val (.ref b17), .val (.int (500 : Int32)), .val (.int (0 : Int32)), .unset] [(.int (1 : Int32))])) _
          refine XS.ifNo Xr20.here hx rfl (hb hby at_83) rfl ((if0 _ _).trans (feq (by decide : ¬ ((1 : Int32) = (0 : Int32)))).1) ?_
          show Steps p.tables e below (T20.setTop (mkF m 86 #[.val (.int pl_), .val (.int ps_), .val (.int pd_), .val (.int pv_), .val (.int ((1 : Int32) + ((pl_ &&& (2147483647 : Int32)) % (7 : Int32)))), .val (.int (1 : Int32)), .val (.ref b17), .val (.int (500 : Int32)), .val (.int (0 : Int32)), .unset] [])) _
          refine XS.iload Xr20.here hx rfl (hb hby at_86) rfl ?_
          show Steps p.tables e below (T20.setTop (mkF m 88 #[.val (.int pl_), .val (.int ps_), .val (.int pd_), .val (.int pv_), .val (.int ((1 : Int32) + ((pl_ &&& (2147483647 : Int32)) % (7 : Int32)))), .val (.int (1 : Int32)), .val (.ref b17), .val (.int (500 : Int32)), .val (.int (0 : Int32)), .unset] [(.int (0 : Int32))])) _
          refine XS.iload Xr20.here hx rfl (hb hby at_88) rfl ?_
          show Steps p.tables e below (T20.setTop (mkF m 90 #[.val (.int pl_), .val (.int ps_), .val (.int pd_), .val (.int pv_), .val (.int ((1 : Int32) + ((pl_ &&& (2147483647 : Int32)) % (7 : Int32)))), .val (.int (1 : Int32)), .val (.ref b17), .val (.int (500 : Int32)), .val (.int (0 : Int32)), .unset] [(.int (0 : Int32)), (.int (0 : Int32))])) _
          refine XS.iconst Xr20.here hx rfl (hb hby at_90) ?_
          show Steps p.tables e below (T20.setTop (mkF m 91 #[.val (.int pl_), .val (.int ps_), .val (.int pd_), .val (.int pv_), .val (.int ((1 : Int32) + ((pl_ &&& (2147483647 : Int32)) % (7 : Int32)))), .val (.int (1 : Int32)), .val (.ref b17), .val (.int (500 : Int32)), .val (.int (0 : Int32)), .unset] [(.int (2 : Int32)), (.int (0 : Int32)), (.int (0 : Int32))])) _
          refine XS.idiv Xr20.here hx rfl (hb hby at_91) rfl (by decide) ?_
          show Steps p.tables e below (T20.setTop (mkF m 92 #[.val (.int pl_), .val (.int ps_), .val (.int pd_), .val (.int pv_), .val (.int ((1 : Int32) + ((pl_ &&& (2147483647 : Int32)) % (7 : Int32)))), .val (.int (1 : Int32)), .val (.ref b17), .val (.int (500 : Int32)), .val (.int (0 : Int32)), .unset] [(.int ((0 : Int32) / (2 : Int32))), (.int (0 : Int32))])) _
          refine XS.iadd Xr20.here hx rfl (hb hby at_92) rfl ?_
          show Steps p.tables e below (T20.setTop (mkF m 93 #[.val (.int pl_), .val (.int ps_), .val (.int pd_), .val (.int pv_), .val (.int ((1 : Int32) + ((pl_ &&& (2147483647 : Int32)) % (7 : Int32)))), .val (.int (1 : Int32)), .val (.ref b17), .val (.int (500 : Int32)), .val (.int (0 : Int32)), .unset] [(.int ((0 : Int32) + ((0 : Int32) / (2 : Int32))))])) _
          refine XS.goto Xr20.here hx rfl (pc0 := 93) (pc' := 98) rfl (hb hby at_93) (by decide) (by decide) ?_
          show Steps p.tables e below (T20.setTop (mkF m 98 #[.val (.int pl_), .val (.int ps_), .val (.int pd_), .val (.int pv_), .val (.int ((1 : Int32) + ((pl_ &&& (2147483647 : Int32)) % (7 : Int32)))), .val (.int (1 : Int32)), .val (.ref b17), .val (.int (500 : Int32)), .val (.int (0 : Int32)), .unset] [(.int ((0 : Int32) + ((0 : Int32) / (2 : Int32))))])) _
          refine XS.istore Xr20.here hx rfl (hb hby at_98) rfl (l' := #[.val (.int pl_), .val (.int ps_), .val (.int pd_), .val (.int pv_), .val (.int ((1 : Int32) + ((pl_ &&& (2147483647 : Int32)) % (7 : Int32)))), .val (.int (1 : Int32)), .val (.ref b17), .val (.int (500 : Int32)), .val (.int (0 : Int32)), .val (.int ((0 : Int32) + ((0 : Int32) / (2 : Int32))))]) rfl ?_
          show Steps p.tables e below (T20.setTop (mkF m 100 #[.val (.int pl_), .val (.int ps_), .val (.int pd_), .val (.int pv_), .val (.int ((1 : Int32) + ((pl_ &&& (2147483647 : Int32)) % (7 : Int32)))), .val (.int (1 : Int32)), .val (.ref b17), .val (.int (500 : Int32)), .val (.int (0 : Int32)), .val (.int ((0 : Int32) + ((0 : Int32) / (2 : Int32))))] [])) _
          refine XS.aload Xr20.here hx rfl (hb hby at_100) rfl rfl ?_
          show Steps p.tables e below (T20.setTop (mkF m 102 #[.val (.int pl_), .val (.int ps_), .val (.int pd_), .val (.int pv_), .val (.int ((1 : Int32) + ((pl_ &&& (2147483647 : Int32)) % (7 : Int32)))), .val (.int (1 : Int32)), .val (.ref b17), .val (.int (500 : Int32)), .val (.int (0 : Int32)), .val (.int ((0 : Int32) + ((0 : Int32) / (2 : Int32))))] [(.ref b17)])) _
          refine XS.iload Xr20.here hx rfl (hb hby at_102) rfl ?_
          show Steps p.tables e below (T20.setTop (mkF m 104 #[.val (.int pl_), .val (.int ps_), .val (.int pd_), .val (.int pv_), .val (.int ((1 : Int32) + ((pl_ &&& (2147483647 : Int32)) % (7 : Int32)))), .val (.int (1 : Int32)), .val (.ref b17), .val (.int (500 : Int32)), .val (.int (0 : Int32)), .val (.int ((0 : Int32) + ((0 : Int32) / (2 : Int32))))] [(.int (1 : Int32)), (.ref b17)])) _
          refine st29.trans ?_
          show Steps p.tables e below (T29.setTop (mkF m 107 #[.val (.int pl_), .val (.int ps_), .val (.int pd_), .val (.int pv_), .val (.int ((1 : Int32) + ((pl_ &&& (2147483647 : Int32)) % (7 : Int32)))), .val (.int (1 : Int32)), .val (.ref b17), .val (.int (500 : Int32)), .val (.int (0 : Int32)), .val (.int ((0 : Int32) + ((0 : Int32) / (2 : Int32))))] [(.int (slamF (1 : Int32) ((1 : Int32) + ((pl_ &&& (2147483647 : Int32)) % (7 : Int32)))))])) _
          refine XS.iload X29.here hx rfl (hb hby at_107) rfl ?_
          show Steps p.tables e below (T29.setTop (mkF m 109 #[.val (.int pl_), .val (.int ps_), .val (.int pd_), .val (.int pv_), .val (.int ((1 : Int32) + ((pl_ &&& (2147483647 : Int32)) % (7 : Int32)))), .val (.int (1 : Int32)), .val (.ref b17), .val (.int (500 : Int32)), .val (.int (0 : Int32)), .val (.int ((0 : Int32) + ((0 : Int32) / (2 : Int32))))] [(.int ((0 : Int32) + ((0 : Int32) / (2 : Int32)))), (.int (slamF (1 : Int32) ((1 : Int32) + ((pl_ &&& (2147483647 : Int32)) % (7 : Int32)))))])) _
          refine XS.icmpNo X29.here hx rfl (hb hby at_109) rfl (teq (by unfold slamF; rw [if_neg hc68_26, if_neg hc52_22]; first | done | decide +kernel : (slamF (1 : Int32) ((1 : Int32) + ((pl_ &&& (2147483647 : Int32)) % (7 : Int32)))) = ((0 : Int32) + ((0 : Int32) / (2 : Int32))))).2 ?_
          show Steps p.tables e below (T29.setTop (mkF m 112 #[.val (.int pl_), .val (.int ps_), .val (.int pd_), .val (.int pv_), .val (.int ((1 : Int32) + ((pl_ &&& (2147483647 : Int32)) % (7 : Int32)))), .val (.int (1 : Int32)), .val (.ref b17), .val (.int (500 : Int32)), .val (.int (0 : Int32)), .val (.int ((0 : Int32) + ((0 : Int32) / (2 : Int32))))] [])) _
          refine XS.iconst X29.here hx rfl (hb hby at_112) ?_
          show Steps p.tables e below (T29.setTop (mkF m 113 #[.val (.int pl_), .val (.int ps_), .val (.int pd_), .val (.int pv_), .val (.int ((1 : Int32) + ((pl_ &&& (2147483647 : Int32)) % (7 : Int32)))), .val (.int (1 : Int32)), .val (.ref b17), .val (.int (500 : Int32)), .val (.int (0 : Int32)), .val (.int ((0 : Int32) + ((0 : Int32) / (2 : Int32))))] [(.int (1 : Int32))])) _
          refine XS.goto X29.here hx rfl (pc0 := 113) (pc' := 117) rfl (hb hby at_113) (by decide) (by decide) ?_
          show Steps p.tables e below (T29.setTop (mkF m 117 #[.val (.int pl_), .val (.int ps_), .val (.int pd_), .val (.int pv_), .val (.int ((1 : Int32) + ((pl_ &&& (2147483647 : Int32)) % (7 : Int32)))), .val (.int (1 : Int32)), .val (.ref b17), .val (.int (500 : Int32)), .val (.int (0 : Int32)), .val (.int ((0 : Int32) + ((0 : Int32) / (2 : Int32))))] [(.int (1 : Int32))])) _
          exact retN X29 hx (t := .boolean) Bd.returns (by simp) (hb hby at_117) hr
        · show Q0 Z pl_ ps_ pd_ pv_ w_CLUBS w_DIAMONDS w_HEARTS w_SPADES w_NO_TRUMP w_UNDOUBLED w_DOUBLED w_REDOUBLED h0 n0 _ T29.heap _
          rw [e29]
          exact ⟨rfl, N29⟩
set_option maxRecDepth 65536 in
set_option maxHeartbeats 40000000 in
theorem comes_1 {Post : Tables → Env → Array Value → State → Outcome → State → Prop} (hpost : ∀ tb e args s v u, (limb_1_1.after args s (.returned v) u = true ∧ limb_1_2.after args s (.returned v) u = true ∧ True) → ReturnedEndW s (.returned v) u (Jvm.fieldLocs frame_1_writes args s ++ Jvm.arrayLocs frame_1_arrays args s ++ Jvm.staticLocs frame_1_statics s) 16 2176 → Post tb e args s (.returned v) u) :
    ArmFor flags0 classFile x code maxLocals ret World_1 tables_1 room_1 Calls_1 rest_1 Pre_1 Post := by
  intro l hfl _ _ p e ha hc hk s m args below hf hA hF happ hP
  obtain ⟨hcalls, hrest, hpre⟩ := hP
  obtain ⟨-, -, -, hnamed, -, -, -, hat⟩ := (Spec.applies_iff hf).mp happ
  obtain ⟨hg, hn⟩ := and_e (Cond.before_iff.mp (show (Jvm.Cond.and given_1 narrow_1).before args s = true from hpre))
  obtain ⟨g1, g2⟩ := and_e hg
  obtain ⟨g3, g4⟩ := and_e g2
  obtain ⟨g5, g6⟩ := and_e g4
  obtain ⟨g7, g8⟩ := and_e g6
  obtain ⟨w0, w1, w2, w3, rfl⟩ : ∃ w0 w1 w2 w3 : Value, args = #[w0, w1, w2, w3] := by
    have hs : args.size = 4 := by simpa [Cond.value, given_1] using g1
    obtain ⟨L⟩ := args
    match L, hs with
    | [w0, w1, w2, w3], _ => exact ⟨w0, w1, w2, w3, rfl⟩
  have hw := fun d (hd : d ∈ tables_1) => atoms_spec (ws := Jvm.Cond.code x code maxLocals ret :: tables_1) hat d (List.mem_cons_of_mem _ hd)
  have hfit : Fit s := fun {y c} hc i hi => by
    obtain ⟨ha, rfl⟩ := Array.getElem?_eq_some_iff.mp hc
    have q := List.all_eq_true.mp ((Array.all_eq_true_iff_forall_mem.mp hF) _ (Array.getElem_mem ha)) i (List.mem_range.mpr hi)
    simpa [Array.getElem?_eq_getElem hi] using q
  obtain ⟨i0, ei0⟩ := is_v g3
  obtain rfl : w0 = (.int i0) := Option.some.inj ei0
  obtain ⟨i1, ei1⟩ := is_v g5
  obtain rfl : w1 = (.int i1) := Option.some.inj ei1
  obtain ⟨i2, ei2⟩ := is_v g7
  obtain rfl : w2 = (.int i2) := Option.some.inj ei2
  obtain ⟨i3, ei3⟩ := is_v g8
  obtain rfl : w3 = (.int i3) := Option.some.inj ei3
  obtain ⟨k9, k10⟩ := and_e hn
  obtain ⟨k11, k12⟩ := and_e k10
  obtain ⟨k13, k14⟩ := and_e k12
  obtain ⟨k15, k16⟩ := and_e k14
  obtain ⟨k17, k18⟩ := and_e k16
  obtain ⟨k19, k20⟩ := and_e k18
  obtain ⟨k21, k22⟩ := and_e k20
  obtain ⟨w_CLUBS, e_CLUBS⟩ := exa_v k17
  have S_CLUBS := Sta.start e_CLUBS (Or.inr ⟨(hw _ (List.mem_of_getElem? (i := 9) rfl)), (hw _ (List.mem_of_getElem? (i := 61) rfl))⟩)
  obtain ⟨w_DIAMONDS, e_DIAMONDS⟩ := exa_v k19
  have S_DIAMONDS := Sta.start e_DIAMONDS (Or.inr ⟨(hw _ (List.mem_of_getElem? (i := 9) rfl)), (hw _ (List.mem_of_getElem? (i := 63) rfl))⟩)
  obtain ⟨w_HEARTS, e_HEARTS⟩ := exa_v k22
  have S_HEARTS := Sta.start e_HEARTS (Or.inr ⟨(hw _ (List.mem_of_getElem? (i := 9) rfl)), (hw _ (List.mem_of_getElem? (i := 67) rfl))⟩)
  obtain ⟨w_SPADES, e_SPADES⟩ := exa_v k9
  have S_SPADES := Sta.start e_SPADES (Or.inr ⟨(hw _ (List.mem_of_getElem? (i := 9) rfl)), (hw _ (List.mem_of_getElem? (i := 10) rfl))⟩)
  obtain ⟨w_NO_TRUMP, e_NO_TRUMP⟩ := exa_v k15
  have S_NO_TRUMP := Sta.start e_NO_TRUMP (Or.inr ⟨(hw _ (List.mem_of_getElem? (i := 9) rfl)), (hw _ (List.mem_of_getElem? (i := 59) rfl))⟩)
  obtain ⟨w_UNDOUBLED, e_UNDOUBLED⟩ := exa_v k21
  have S_UNDOUBLED := Sta.start e_UNDOUBLED (Or.inr ⟨(hw _ (List.mem_of_getElem? (i := 15) rfl)), (hw _ (List.mem_of_getElem? (i := 65) rfl))⟩)
  obtain ⟨w_DOUBLED, e_DOUBLED⟩ := exa_v k13
  have S_DOUBLED := Sta.start e_DOUBLED (Or.inr ⟨(hw _ (List.mem_of_getElem? (i := 15) rfl)), (hw _ (List.mem_of_getElem? (i := 57) rfl))⟩)
  obtain ⟨w_REDOUBLED, e_REDOUBLED⟩ := exa_v k11
  have S_REDOUBLED := Sta.start e_REDOUBLED (Or.inr ⟨(hw _ (List.mem_of_getElem? (i := 15) rfl)), (hw _ (List.mem_of_getElem? (i := 16) rfl))⟩)
  obtain ⟨n, o, h1, h2, h3, _, L, rfl, ⟨rfl, N⟩, hq⟩ := rm0 l s _ hw tables_1 i0 i1 i2 i3 w_CLUBS w_DIAMONDS w_HEARTS w_SPADES w_NO_TRUMP w_UNDOUBLED w_DOUBLED w_REDOUBLED s.heap s.heap.size (Nat.le_refl _) (Old.start s) S_CLUBS S_DIAMONDS S_HEARTS S_SPADES S_NO_TRUMP S_UNDOUBLED S_DOUBLED S_REDOUBLED p e ha hc hk s m _ below hf ((Spec.applies_iff_loose hf).mp happ).1 ⟨rfl, State.Warmed39.refl s, rfl⟩ trivial
  refine ⟨n, _, h1, h2, h3, hpost _ _ _ _ _ _ ⟨Cond.after_iff.mpr rfl, Cond.after_iff.mpr (eq_i res_at (Term.int_eval (1)) rfl), trivial⟩ ⟨hq.1, hq.2.1, hq.2.2.1, (hq.2.2.2.sift fun y hy => Or.inr (N y hy)).mono (by decide) (by decide)⟩⟩
theorem main_1_1 : Claimed_1_1 := comes_1 fun _ _ _ _ _ _ h hF => ⟨h.1, hF⟩
theorem main_1_2 : Claimed_1_2 := comes_1 fun _ _ _ _ _ _ h hF => ⟨h.2.1, hF⟩
end Jvm.Pilot.@@N@@
namespace Jvm.Pilot.@@N@@
open Jvm Jvm.ClassFile Sem Op Lib Jvm.Free Jvm.Stand Jvm.Pilot.@@N@@.Jvm.D
/-! MADE BY PROGRAM (witnessworld.py) out of the Statement's table words and the real class files: 20 classes; the members and pool entries that the words name. The judged class is class 1, her method 3. -/
namespace start1
open Jvm.ClassFile
def u (s : String) : CpInfo := .utf8 (stringToUtf16 s)
/-- a pool by its gaps: so many unusable entries, then the entry; so many at the end -/
def gap : Nat → List CpInfo → List CpInfo
  | 0, r => r
  | n + 1, r => .unusable :: gap n r
def poolList (es : List (Nat × CpInfo)) (last : Nat) : List CpInfo := es.foldr (fun e r => gap e.1 (e.2 :: r)) (gap last [])
def pool (es : List (Nat × CpInfo)) (last : Nat) : Array CpInfo := ⟨poolList es last⟩
def fileOf (pool : Array CpInfo) (this : Nat) (attrs : Array Attribute := #[]) (ms : Array MethodInfo := #[]) (fl : Nat := 33) (sup : Nat := 0) (ifs : Array Nat := #[]) (fds : Array FieldInfo := #[]) : ClassFile where
  minorVersion := 0
  majorVersion := 65
  constantPool := pool
  accessFlags := fl
  thisClass := this
  superClass := sup
  interfaces := ifs
  fields := fds
  methods := ms
  attributes := attrs
def plain (name : String) (sup : Option ClassId) : Class where
  name := name
  kind := .ordinary
  loader := none
  accessFlags := 33
  super := sup
  interfaces := #[]
  cf := none
  fields := #[]
  methods := #[]
  instanceTypes := #[]
  staticTypes := #[]
  resolved := #[]
  callSites := []
  init := .initialized
  statics := none
  mirror := none

def pool0 : Array CpInfo := pool [(5, u "<init>"), (0, u "()V"), (1, .class_ 10), (1, u "java/lang/Object")] 113

def k0c0 : Code := { maxStack := 0, maxLocals := 1, code := object_method_1_code, exceptionTable := #[], attributes := #[] }
def k0m0 : Method := { name := "<init>", desc := "()V", sig := { parameters := [], returnType := none }, accessFlags := 1, code := some k0c0 }
/-- java/lang/Object -/
def k0 : Class := { plain "java/lang/Object" none with
  accessFlags := 33
  interfaces := #[]
  cf := some (fileOf pool0 8 #[] #[{ accessFlags := 1, nameIndex := 5, descriptorIndex := 6, attributes := #[] }] 33 0 #[] #[])
  fields := #[]
  methods := #[k0m0]
  instanceTypes := #[]
  staticTypes := #[]
  resolved := Array.replicate 124 none
  statics := none }

def pool1 : Array CpInfo := pool [(2, .class_ 4), (1, u "java/lang/Object"), (0, u "<init>"), (0, u "()V"), (0, .integer 2147483647), (0, .fieldref 9 10), (0, .class_ 11), (0, .nameAndType 12 13), (0, u "com/example/ruffwork/ruffwork/Strain"), (0, u "CLUBS"), (0, u "Lcom/example/ruffwork/ruffwork/Strain;"), (0, .fieldref 9 15), (0, .nameAndType 16 13), (0, u "DIAMONDS"), (0, .fieldref 9 18), (0, .nameAndType 19 13), (0, u "HEARTS"), (0, .fieldref 9 21), (0, .nameAndType 22 13), (0, u "SPADES"), (0, .fieldref 9 24), (0, .nameAndType 25 13), (0, u "NO_TRUMP"), (0, .fieldref 27 28), (0, .class_ 29), (0, .nameAndType 30 31), (0, u "com/example/ruffwork/ruffwork/Doubling"), (0, u "UNDOUBLED"), (0, u "Lcom/example/ruffwork/ruffwork/Doubling;"), (0, .fieldref 27 33), (0, .nameAndType 34 31), (0, u "DOUBLED"), (0, .fieldref 27 36), (0, .nameAndType 37 31), (0, u "REDOUBLED"), (0, .class_ 39), (0, u "com/example/ruffwork/ruffwork/Contract"), (0, .methodref 41 42), (0, .class_ 43), (0, .nameAndType 44 45), (0, u "com/example/ruffwork/ruffwork/ContractSlamBonusPinLaw"), (0, u "strainOf"), (0, u "(I)Lcom/example/ruffwork/ruffwork/Strain;"), (0, .methodref 41 47), (0, .nameAndType 48 49), (0, u "doublingOf"), (0, u "(I)Lcom/example/ruffwork/ruffwork/Doubling;"), (0, .methodref 38 51), (0, .nameAndType 5 52), (0, u "(ILcom/example/ruffwork/ruffwork/Strain;Lcom/example/ruffwork/ruffwork/Doubling;)V"), (0, .methodref 38 54), (0, .nameAndType 55 56), (0, u "slamBonus"), (0, u "(Z)I"), (3, u "law"), (0, u "(IIII)Z")] 2

def k1m0 : Method := { name := "<init>", desc := "()V", sig := { parameters := [], returnType := none }, accessFlags := 2, code := none }
def k1c1 : Code := { maxStack := 2, maxLocals := 2, code := method_2_code, exceptionTable := #[], attributes := #[] }
def k1m1 : Method := { name := "strainOf", desc := "(I)Lcom/example/ruffwork/ruffwork/Strain;", sig := { parameters := [.int], returnType := some (.object "com/example/ruffwork/ruffwork/Strain") }, accessFlags := 10, code := some k1c1 }
def k1c2 : Code := { maxStack := 2, maxLocals := 2, code := method_3_code, exceptionTable := #[], attributes := #[] }
def k1m2 : Method := { name := "doublingOf", desc := "(I)Lcom/example/ruffwork/ruffwork/Doubling;", sig := { parameters := [.int], returnType := some (.object "com/example/ruffwork/ruffwork/Doubling") }, accessFlags := 10, code := some k1c2 }
def k1c3 : Code := { maxStack := 5, maxLocals := 10, code := code, exceptionTable := #[], attributes := #[] }
def k1m3 : Method := { name := "law", desc := "(IIII)Z", sig := { parameters := [.int, .int, .int, .int], returnType := some .boolean }, accessFlags := 9, code := some k1c3 }
/-- com/example/ruffwork/ruffwork/ContractSlamBonusPinLaw -/
def k1 : Class := { plain "com/example/ruffwork/ruffwork/ContractSlamBonusPinLaw" (some 0) with
  accessFlags := 49
  interfaces := #[]
  cf := some (fileOf pool1 41 #[] #[{ accessFlags := 2, nameIndex := 5, descriptorIndex := 6, attributes := #[] }, { accessFlags := 10, nameIndex := 44, descriptorIndex := 45, attributes := #[] }, { accessFlags := 10, nameIndex := 48, descriptorIndex := 49, attributes := #[] }, { accessFlags := 9, nameIndex := 60, descriptorIndex := 61, attributes := #[] }] 49 2 #[] #[])
  fields := #[]
  methods := #[k1m0, k1m1, k1m2, k1m3]
  instanceTypes := #[]
  staticTypes := #[]
  resolved := Array.replicate 64 none
  statics := none }

def pool2 : Array CpInfo := pool [(1, .methodref 2 3), (0, .class_ 4), (0, .nameAndType 5 6), (0, u "java/lang/Object"), (0, u "<init>"), (0, u "()V"), (0, .class_ 8), (0, u "java/lang/Record")] 13

def k2c0 : Code := { maxStack := 1, maxLocals := 1, code := jdk_30_method_1_code, exceptionTable := #[], attributes := #[] }
def k2m0 : Method := { name := "<init>", desc := "()V", sig := { parameters := [], returnType := none }, accessFlags := 4, code := some k2c0 }
/-- java/lang/Record -/
def k2 : Class := { plain "java/lang/Record" (some 0) with
  accessFlags := 1057
  interfaces := #[]
  cf := some (fileOf pool2 7 #[] #[{ accessFlags := 4, nameIndex := 5, descriptorIndex := 6, attributes := #[] }] 1057 2 #[] #[])
  fields := #[]
  methods := #[k2m0]
  instanceTypes := #[]
  staticTypes := #[]
  resolved := Array.replicate 22 none
  statics := none }

def pool3 : Array CpInfo := pool [(1, .methodref 2 3), (0, .class_ 4), (0, .nameAndType 5 6), (0, u "java/lang/Record"), (0, u "<init>"), (0, u "()V"), (0, .methodref 8 9), (0, .class_ 10), (0, .nameAndType 11 12), (0, u "com/example/ruffwork/ruffwork/Call"), (0, u "isLevel"), (0, u "(I)Z"), (15, .string 29), (0, u "strain"), (0, .methodref 31 32), (0, .class_ 33), (0, .nameAndType 34 35), (0, u "java/util/Objects"), (0, u "requireNonNull"), (0, u "(Ljava/lang/Object;Ljava/lang/String;)Ljava/lang/Object;"), (0, .string 37), (0, u "doubling"), (0, .fieldref 39 40), (0, .class_ 41), (0, .nameAndType 42 43), (0, u "com/example/ruffwork/ruffwork/Contract"), (0, u "level"), (0, u "I"), (0, .fieldref 39 45), (0, .nameAndType 29 46), (0, u "Lcom/example/ruffwork/ruffwork/Strain;"), (0, .fieldref 39 48), (0, .nameAndType 37 49), (0, u "Lcom/example/ruffwork/ruffwork/Doubling;"), (30, u "(ILcom/example/ruffwork/ruffwork/Strain;Lcom/example/ruffwork/ruffwork/Doubling;)V"), (33, u "slamBonus"), (0, u "(Z)I"), (18, .class_ 136), (1, u "com/example/ruffwork/ruffwork/Contract$1")] 69

def k3c0 : Code := { maxStack := 3, maxLocals := 4, code := prog_25_method_1_code, exceptionTable := #[], attributes := #[] }
def k3m0 : Method := { name := "<init>", desc := "(ILcom/example/ruffwork/ruffwork/Strain;Lcom/example/ruffwork/ruffwork/Doubling;)V", sig := { parameters := [.int, (.object "com/example/ruffwork/ruffwork/Strain"), (.object "com/example/ruffwork/ruffwork/Doubling")], returnType := none }, accessFlags := 1, code := some k3c0 }
def k3c1 : Code := { maxStack := 2, maxLocals := 2, code := prog_25_method_8_code, exceptionTable := #[], attributes := #[] }
def k3m1 : Method := { name := "slamBonus", desc := "(Z)I", sig := { parameters := [.boolean], returnType := some .int }, accessFlags := 0, code := some k3c1 }
/-- com/example/ruffwork/ruffwork/Contract -/
def k3 : Class := { plain "com/example/ruffwork/ruffwork/Contract" (some 2) with
  accessFlags := 49
  interfaces := #[]
  cf := some (fileOf pool3 39 #[.nestMembers #[134]] #[{ accessFlags := 1, nameIndex := 5, descriptorIndex := 80, attributes := #[] }, { accessFlags := 0, nameIndex := 114, descriptorIndex := 115, attributes := #[] }] 49 2 #[] #[{ accessFlags := 18, nameIndex := 42, descriptorIndex := 43, attributes := #[] }, { accessFlags := 18, nameIndex := 29, descriptorIndex := 46, attributes := #[] }, { accessFlags := 18, nameIndex := 37, descriptorIndex := 49, attributes := #[] }])
  fields := #[{ name := "level", type := .int, accessFlags := 18, slot := 0, constantValue := 0 }, { name := "strain", type := (.object "com/example/ruffwork/ruffwork/Strain"), accessFlags := 18, slot := 1, constantValue := 0 }, { name := "doubling", type := (.object "com/example/ruffwork/ruffwork/Doubling"), accessFlags := 18, slot := 2, constantValue := 0 }]
  methods := #[k3m0, k3m1]
  instanceTypes := #[.int, (.object "com/example/ruffwork/ruffwork/Strain"), (.object "com/example/ruffwork/ruffwork/Doubling")]
  staticTypes := #[]
  resolved := Array.replicate 206 none
  statics := none }

def pool4 : Array CpInfo := pool [(1, .class_ 2), (0, u "java/lang/constant/Constable"), (0, .class_ 4), (0, u "java/lang/Object")] 6

/-- java/lang/constant/Constable -/
def k4 : Class := { plain "java/lang/constant/Constable" (some 0) with
  accessFlags := 1537
  interfaces := #[]
  cf := some (fileOf pool4 1 #[] #[] 1537 3 #[] #[])
  fields := #[]
  methods := #[]
  instanceTypes := #[]
  staticTypes := #[]
  resolved := Array.replicate 11 none
  statics := none }

def pool5 : Array CpInfo := pool [(1, .class_ 2), (0, u "java/lang/Comparable"), (0, .class_ 4), (0, u "java/lang/Object")] 7

/-- java/lang/Comparable -/
def k5 : Class := { plain "java/lang/Comparable" (some 0) with
  accessFlags := 1537
  interfaces := #[]
  cf := some (fileOf pool5 1 #[] #[] 1537 3 #[] #[])
  fields := #[]
  methods := #[]
  instanceTypes := #[]
  staticTypes := #[]
  resolved := Array.replicate 12 none
  statics := none }

def pool6 : Array CpInfo := pool [(1, .class_ 2), (0, u "java/io/Serializable"), (0, .class_ 4), (0, u "java/lang/Object")] 2

/-- java/io/Serializable -/
def k6 : Class := { plain "java/io/Serializable" (some 0) with
  accessFlags := 1537
  interfaces := #[]
  cf := some (fileOf pool6 1 #[] #[] 1537 3 #[] #[])
  fields := #[]
  methods := #[]
  instanceTypes := #[]
  staticTypes := #[]
  resolved := Array.replicate 7 none
  statics := none }

def pool7 : Array CpInfo := pool [(2, .class_ 4), (1, u "java/lang/Enum"), (0, u "name"), (0, u "Ljava/lang/String;"), (2, u "ordinal"), (0, u "I"), (1, .class_ 14), (1, u "java/lang/Object"), (4, u "hash"), (86, .class_ 108), (1, u "java/lang/Enum$EnumDesc"), (2, .class_ 112), (0, u "java/lang/constant/Constable"), (0, .class_ 114), (0, u "java/lang/Comparable"), (0, .class_ 116), (0, u "java/io/Serializable")] 87

/-- java/lang/Enum -/
def k7 : Class := { plain "java/lang/Enum" (some 0) with
  accessFlags := 1057
  interfaces := #[4, 5, 6]
  cf := some (fileOf pool7 2 #[.nestMembers #[106]] #[] 1057 12 #[111, 113, 115] #[{ accessFlags := 18, nameIndex := 5, descriptorIndex := 6, attributes := #[] }, { accessFlags := 18, nameIndex := 9, descriptorIndex := 10, attributes := #[] }, { accessFlags := 2, nameIndex := 19, descriptorIndex := 10, attributes := #[] }])
  fields := #[{ name := "name", type := (.object "java/lang/String"), accessFlags := 18, slot := 0, constantValue := 0 }, { name := "ordinal", type := .int, accessFlags := 18, slot := 1, constantValue := 0 }, { name := "hash", type := .int, accessFlags := 2, slot := 2, constantValue := 0 }]
  methods := #[]
  instanceTypes := #[(.object "java/lang/String"), .int, .int]
  staticTypes := #[]
  resolved := Array.replicate 204 none
  statics := none }

def pool8 : Array CpInfo := pool [(1, .class_ 2), (0, u "com/example/ruffwork/ruffwork/Strain"), (2, u "CLUBS"), (0, u "Lcom/example/ruffwork/ruffwork/Strain;"), (2, u "DIAMONDS"), (2, u "HEARTS"), (2, u "SPADES"), (2, u "NO_TRUMP"), (2, u "$VALUES"), (0, u "[Lcom/example/ruffwork/ruffwork/Strain;"), (6, .class_ 31), (1, u "java/lang/Enum"), (8, u "symbol"), (0, u "Ljava/lang/String;"), (2, u "trumps"), (0, u "Lcom/example/ruffwork/ruffwork/Suit;"), (2, u "firstTrickValue"), (0, u "I"), (2, u "trickValue")] 47

/-- com/example/ruffwork/ruffwork/Strain -/
def k8 : Class := { plain "com/example/ruffwork/ruffwork/Strain" (some 7) with
  accessFlags := 16433
  interfaces := #[]
  cf := some (fileOf pool8 1 #[] #[] 16433 29 #[] #[{ accessFlags := 16409, nameIndex := 5, descriptorIndex := 6, attributes := #[] }, { accessFlags := 16409, nameIndex := 9, descriptorIndex := 6, attributes := #[] }, { accessFlags := 16409, nameIndex := 12, descriptorIndex := 6, attributes := #[] }, { accessFlags := 16409, nameIndex := 15, descriptorIndex := 6, attributes := #[] }, { accessFlags := 16409, nameIndex := 18, descriptorIndex := 6, attributes := #[] }, { accessFlags := 18, nameIndex := 40, descriptorIndex := 41, attributes := #[] }, { accessFlags := 18, nameIndex := 44, descriptorIndex := 45, attributes := #[] }, { accessFlags := 18, nameIndex := 48, descriptorIndex := 49, attributes := #[] }, { accessFlags := 18, nameIndex := 52, descriptorIndex := 49, attributes := #[] }, { accessFlags := 4122, nameIndex := 21, descriptorIndex := 22, attributes := #[] }])
  fields := #[{ name := "CLUBS", type := (.object "com/example/ruffwork/ruffwork/Strain"), accessFlags := 16409, slot := 0, constantValue := 0 }, { name := "DIAMONDS", type := (.object "com/example/ruffwork/ruffwork/Strain"), accessFlags := 16409, slot := 1, constantValue := 0 }, { name := "HEARTS", type := (.object "com/example/ruffwork/ruffwork/Strain"), accessFlags := 16409, slot := 2, constantValue := 0 }, { name := "SPADES", type := (.object "com/example/ruffwork/ruffwork/Strain"), accessFlags := 16409, slot := 3, constantValue := 0 }, { name := "NO_TRUMP", type := (.object "com/example/ruffwork/ruffwork/Strain"), accessFlags := 16409, slot := 4, constantValue := 0 }, { name := "symbol", type := (.object "java/lang/String"), accessFlags := 18, slot := 3, constantValue := 0 }, { name := "trumps", type := (.object "com/example/ruffwork/ruffwork/Suit"), accessFlags := 18, slot := 4, constantValue := 0 }, { name := "firstTrickValue", type := .int, accessFlags := 18, slot := 5, constantValue := 0 }, { name := "trickValue", type := .int, accessFlags := 18, slot := 6, constantValue := 0 }, { name := "$VALUES", type := (.array (.object "com/example/ruffwork/ruffwork/Strain")), accessFlags := 4122, slot := 5, constantValue := 0 }]
  methods := #[]
  instanceTypes := #[(.object "java/lang/String"), .int, .int, (.object "java/lang/String"), (.object "com/example/ruffwork/ruffwork/Suit"), .int, .int]
  staticTypes := #[(.object "com/example/ruffwork/ruffwork/Strain"), (.object "com/example/ruffwork/ruffwork/Strain"), (.object "com/example/ruffwork/ruffwork/Strain"), (.object "com/example/ruffwork/ruffwork/Strain"), (.object "com/example/ruffwork/ruffwork/Strain"), (.array (.object "com/example/ruffwork/ruffwork/Strain"))]
  resolved := Array.replicate 100 none
  statics := some 0 }

def pool9 : Array CpInfo := pool [(1, .class_ 2), (0, u "com/example/ruffwork/ruffwork/Doubling"), (2, u "UNDOUBLED"), (0, u "Lcom/example/ruffwork/ruffwork/Doubling;"), (2, u "DOUBLED"), (2, u "REDOUBLED"), (2, u "$VALUES"), (0, u "[Lcom/example/ruffwork/ruffwork/Doubling;"), (6, .class_ 25), (1, u "java/lang/Enum"), (8, u "symbol"), (0, u "Ljava/lang/String;"), (2, u "trickScoreFactor"), (0, u "I")] 46

/-- com/example/ruffwork/ruffwork/Doubling -/
def k9 : Class := { plain "com/example/ruffwork/ruffwork/Doubling" (some 7) with
  accessFlags := 16433
  interfaces := #[]
  cf := some (fileOf pool9 1 #[] #[] 16433 23 #[] #[{ accessFlags := 16409, nameIndex := 5, descriptorIndex := 6, attributes := #[] }, { accessFlags := 16409, nameIndex := 9, descriptorIndex := 6, attributes := #[] }, { accessFlags := 16409, nameIndex := 12, descriptorIndex := 6, attributes := #[] }, { accessFlags := 18, nameIndex := 34, descriptorIndex := 35, attributes := #[] }, { accessFlags := 18, nameIndex := 38, descriptorIndex := 39, attributes := #[] }, { accessFlags := 4122, nameIndex := 15, descriptorIndex := 16, attributes := #[] }])
  fields := #[{ name := "UNDOUBLED", type := (.object "com/example/ruffwork/ruffwork/Doubling"), accessFlags := 16409, slot := 0, constantValue := 0 }, { name := "DOUBLED", type := (.object "com/example/ruffwork/ruffwork/Doubling"), accessFlags := 16409, slot := 1, constantValue := 0 }, { name := "REDOUBLED", type := (.object "com/example/ruffwork/ruffwork/Doubling"), accessFlags := 16409, slot := 2, constantValue := 0 }, { name := "symbol", type := (.object "java/lang/String"), accessFlags := 18, slot := 3, constantValue := 0 }, { name := "trickScoreFactor", type := .int, accessFlags := 18, slot := 4, constantValue := 0 }, { name := "$VALUES", type := (.array (.object "com/example/ruffwork/ruffwork/Doubling")), accessFlags := 4122, slot := 3, constantValue := 0 }]
  methods := #[]
  instanceTypes := #[(.object "java/lang/String"), .int, .int, (.object "java/lang/String"), .int]
  staticTypes := #[(.object "com/example/ruffwork/ruffwork/Doubling"), (.object "com/example/ruffwork/ruffwork/Doubling"), (.object "com/example/ruffwork/ruffwork/Doubling"), (.array (.object "com/example/ruffwork/ruffwork/Doubling"))]
  resolved := Array.replicate 86 none
  statics := some 1 }

def pool10 : Array CpInfo := pool [(2, .class_ 4), (1, u "java/lang/Object"), (3, .class_ 10), (1, u "com/example/ruffwork/ruffwork/Call"), (0, u "kind"), (0, u "Lcom/example/ruffwork/ruffwork/Call$Kind;"), (2, u "level"), (0, u "I"), (2, u "strain"), (0, u "Lcom/example/ruffwork/ruffwork/Strain;"), (2, u "symbol"), (0, u "Ljava/lang/String;"), (2, u "isLevel"), (0, u "(I)Z"), (17, u "BIDS"), (0, u "Ljava/util/List;"), (18, u "ALL"), (2, u "PASS"), (0, u "Lcom/example/ruffwork/ruffwork/Call;"), (2, u "DOUBLE"), (2, u "REDOUBLE"), (79, u "ZERO_NO_TRUMP"), (13, .class_ 172), (1, u "com/example/ruffwork/ruffwork/Call$Kind"), (58, u "HIGHEST_LEVEL")] 47

def k10c0 : Code := { maxStack := 2, maxLocals := 1, code := prog_21_method_9_code, exceptionTable := #[], attributes := #[] }
def k10m0 : Method := { name := "isLevel", desc := "(I)Z", sig := { parameters := [.int], returnType := some .boolean }, accessFlags := 8, code := some k10c0 }
/-- com/example/ruffwork/ruffwork/Call -/
def k10 : Class := { plain "com/example/ruffwork/ruffwork/Call" (some 0) with
  accessFlags := 49
  interfaces := #[]
  cf := some (fileOf pool10 8 #[.nestMembers #[170]] #[{ accessFlags := 8, nameIndex := 27, descriptorIndex := 28, attributes := #[] }] 49 2 #[] #[{ accessFlags := 25, nameIndex := 69, descriptorIndex := 70, attributes := #[] }, { accessFlags := 25, nameIndex := 73, descriptorIndex := 70, attributes := #[] }, { accessFlags := 25, nameIndex := 76, descriptorIndex := 70, attributes := #[] }, { accessFlags := 25, nameIndex := 156, descriptorIndex := 70, attributes := #[] }, { accessFlags := 26, nameIndex := 231, descriptorIndex := 16, attributes := #[] }, { accessFlags := 26, nameIndex := 46, descriptorIndex := 47, attributes := #[] }, { accessFlags := 26, nameIndex := 66, descriptorIndex := 47, attributes := #[] }, { accessFlags := 18, nameIndex := 11, descriptorIndex := 12, attributes := #[] }, { accessFlags := 18, nameIndex := 15, descriptorIndex := 16, attributes := #[] }, { accessFlags := 18, nameIndex := 19, descriptorIndex := 20, attributes := #[] }, { accessFlags := 18, nameIndex := 23, descriptorIndex := 24, attributes := #[] }])
  fields := #[{ name := "PASS", type := (.object "com/example/ruffwork/ruffwork/Call"), accessFlags := 25, slot := 0, constantValue := 0 }, { name := "DOUBLE", type := (.object "com/example/ruffwork/ruffwork/Call"), accessFlags := 25, slot := 1, constantValue := 0 }, { name := "REDOUBLE", type := (.object "com/example/ruffwork/ruffwork/Call"), accessFlags := 25, slot := 2, constantValue := 0 }, { name := "ZERO_NO_TRUMP", type := (.object "com/example/ruffwork/ruffwork/Call"), accessFlags := 25, slot := 3, constantValue := 0 }, { name := "HIGHEST_LEVEL", type := .int, accessFlags := 26, slot := 4, constantValue := 0 }, { name := "BIDS", type := (.object "java/util/List"), accessFlags := 26, slot := 5, constantValue := 0 }, { name := "ALL", type := (.object "java/util/List"), accessFlags := 26, slot := 6, constantValue := 0 }, { name := "kind", type := (.object "com/example/ruffwork/ruffwork/Call$Kind"), accessFlags := 18, slot := 0, constantValue := 0 }, { name := "level", type := .int, accessFlags := 18, slot := 1, constantValue := 0 }, { name := "strain", type := (.object "com/example/ruffwork/ruffwork/Strain"), accessFlags := 18, slot := 2, constantValue := 0 }, { name := "symbol", type := (.object "java/lang/String"), accessFlags := 18, slot := 3, constantValue := 0 }]
  methods := #[k10m0]
  instanceTypes := #[(.object "com/example/ruffwork/ruffwork/Call$Kind"), .int, (.object "com/example/ruffwork/ruffwork/Strain"), (.object "java/lang/String")]
  staticTypes := #[(.object "com/example/ruffwork/ruffwork/Call"), (.object "com/example/ruffwork/ruffwork/Call"), (.object "com/example/ruffwork/ruffwork/Call"), (.object "com/example/ruffwork/ruffwork/Call"), .int, (.object "java/util/List"), (.object "java/util/List")]
  resolved := Array.replicate 279 none
  statics := none }

def pool11 : Array CpInfo := pool [(2, .class_ 4), (1, u "java/lang/CharSequence"), (42, .class_ 48), (0, u "java/lang/CharSequence$1CodePointIterator"), (10, .class_ 60), (0, u "java/lang/CharSequence$1CharIterator"), (5, .class_ 67), (0, u "java/lang/Object")] 63

/-- java/lang/CharSequence -/
def k11 : Class := { plain "java/lang/CharSequence" (some 0) with
  accessFlags := 1537
  interfaces := #[]
  cf := some (fileOf pool11 2 #[.nestMembers #[47, 59]] #[] 1537 66 #[] #[])
  fields := #[]
  methods := #[]
  instanceTypes := #[]
  staticTypes := #[]
  resolved := Array.replicate 131 none
  statics := none }

def pool12 : Array CpInfo := pool [(1, .class_ 2), (0, u "java/lang/constant/ConstantDesc"), (0, .class_ 4), (0, u "java/lang/Object")] 32

/-- java/lang/constant/ConstantDesc -/
def k12 : Class := { plain "java/lang/constant/ConstantDesc" (some 0) with
  accessFlags := 1537
  interfaces := #[]
  cf := some (fileOf pool12 1 #[] #[] 1537 3 #[] #[])
  fields := #[]
  methods := #[]
  instanceTypes := #[]
  staticTypes := #[]
  resolved := Array.replicate 37 none
  statics := none }

def pool13 : Array CpInfo := pool [(2, .class_ 4), (1, u "java/lang/Object"), (0, u "<init>"), (0, u "()V"), (3, .class_ 12), (1, u "java/lang/String"), (0, u "value"), (0, u "[B"), (2, u "coder"), (0, u "B"), (2, u "hash"), (0, u "I"), (2, u "hashIsZero"), (0, u "Z"), (13, u "COMPACT_STRINGS"), (534, .class_ 576), (0, u "java/lang/CharSequence"), (22, u "CASE_INSENSITIVE_ORDER"), (0, u "Ljava/util/Comparator;"), (500, u "serialPersistentFields"), (0, u "[Ljava/io/ObjectStreamField;"), (0, .class_ 1104), (0, u "java/lang/String$CaseInsensitiveComparator"), (1, .class_ 1107), (0, u "java/io/Serializable"), (0, .class_ 1109), (0, u "java/lang/Comparable"), (0, .class_ 1111), (0, u "java/lang/constant/Constable"), (0, .class_ 1113), (0, u "java/lang/constant/ConstantDesc"), (2, u "serialVersionUID"), (0, u "J"), (3, u "REPL"), (0, u "C"), (2, u "LATIN1"), (1, u "UTF16")] 323

def k13m0 : Method := { name := "<init>", desc := "()V", sig := { parameters := [], returnType := none }, accessFlags := 1, code := none }
/-- java/lang/String -/
def k13 : Class := { plain "java/lang/String" (some 0) with
  accessFlags := 49
  interfaces := #[6, 5, 11, 4, 12]
  cf := some (fileOf pool13 10 #[.nestMembers #[1103]] #[{ accessFlags := 1, nameIndex := 5, descriptorIndex := 6, attributes := #[] }] 49 2 #[1106, 1108, 575, 1110, 1112] #[{ accessFlags := 18, nameIndex := 13, descriptorIndex := 14, attributes := #[] }, { accessFlags := 18, nameIndex := 17, descriptorIndex := 18, attributes := #[] }, { accessFlags := 2, nameIndex := 21, descriptorIndex := 22, attributes := #[] }, { accessFlags := 2, nameIndex := 25, descriptorIndex := 26, attributes := #[] }, { accessFlags := 26, nameIndex := 1116, descriptorIndex := 1117, attributes := #[] }, { accessFlags := 24, nameIndex := 40, descriptorIndex := 26, attributes := #[] }, { accessFlags := 26, nameIndex := 1101, descriptorIndex := 1102, attributes := #[] }, { accessFlags := 26, nameIndex := 1121, descriptorIndex := 1122, attributes := #[] }, { accessFlags := 25, nameIndex := 599, descriptorIndex := 600, attributes := #[] }, { accessFlags := 24, nameIndex := 1125, descriptorIndex := 18, attributes := #[] }, { accessFlags := 24, nameIndex := 1127, descriptorIndex := 18, attributes := #[] }])
  fields := #[{ name := "value", type := (.array .byte), accessFlags := 18, slot := 0, constantValue := 0 }, { name := "coder", type := .byte, accessFlags := 18, slot := 1, constantValue := 0 }, { name := "hash", type := .int, accessFlags := 2, slot := 2, constantValue := 0 }, { name := "hashIsZero", type := .boolean, accessFlags := 2, slot := 3, constantValue := 0 }, { name := "serialVersionUID", type := .long, accessFlags := 26, slot := 0, constantValue := 0 }, { name := "COMPACT_STRINGS", type := .boolean, accessFlags := 24, slot := 1, constantValue := 0 }, { name := "serialPersistentFields", type := (.array (.object "java/io/ObjectStreamField")), accessFlags := 26, slot := 2, constantValue := 0 }, { name := "REPL", type := .char, accessFlags := 26, slot := 3, constantValue := 0 }, { name := "CASE_INSENSITIVE_ORDER", type := (.object "java/util/Comparator"), accessFlags := 25, slot := 4, constantValue := 0 }, { name := "LATIN1", type := .byte, accessFlags := 24, slot := 5, constantValue := 0 }, { name := "UTF16", type := .byte, accessFlags := 24, slot := 6, constantValue := 0 }]
  methods := #[k13m0]
  instanceTypes := #[(.array .byte), .byte, .int, .boolean]
  staticTypes := #[.long, .boolean, (.array (.object "java/io/ObjectStreamField")), .char, (.object "java/util/Comparator"), .byte, .byte]
  resolved := Array.replicate 1451 none
  statics := none }

def pool14 : Array CpInfo := pool [(2, .class_ 4), (1, u "java/lang/Object"), (0, u "<init>"), (0, u "()V"), (35, .class_ 44), (1, u "java/util/Objects"), (0, u "requireNonNull"), (48, u "(Ljava/lang/Object;Ljava/lang/String;)Ljava/lang/Object;")] 89

def k14m0 : Method := { name := "<init>", desc := "()V", sig := { parameters := [], returnType := none }, accessFlags := 2, code := none }
def k14c1 : Code := { maxStack := 3, maxLocals := 2, code := jdk_31_method_11_code, exceptionTable := #[], attributes := #[] }
def k14m1 : Method := { name := "requireNonNull", desc := "(Ljava/lang/Object;Ljava/lang/String;)Ljava/lang/Object;", sig := { parameters := [(.object "java/lang/Object"), (.object "java/lang/String")], returnType := some (.object "java/lang/Object") }, accessFlags := 9, code := some k14c1 }
/-- java/util/Objects -/
def k14 : Class := { plain "java/util/Objects" (some 0) with
  accessFlags := 49
  interfaces := #[]
  cf := some (fileOf pool14 42 #[] #[{ accessFlags := 2, nameIndex := 5, descriptorIndex := 6, attributes := #[] }, { accessFlags := 9, nameIndex := 45, descriptorIndex := 94, attributes := #[] }] 49 2 #[] #[])
  fields := #[]
  methods := #[k14m0, k14m1]
  instanceTypes := #[]
  staticTypes := #[]
  resolved := Array.replicate 184 none
  statics := none }

def pool15 : Array CpInfo := pool [(1, u "java/lang/Cloneable"), (0, .class_ 1), (0, u "java/lang/Object"), (0, .class_ 3)] 3

/-- java/lang/Cloneable -/
def k15 : Class := { plain "java/lang/Cloneable" (some 0) with
  accessFlags := 1537
  interfaces := #[]
  cf := some (fileOf pool15 2 #[] #[] 1537 4 #[] #[])
  fields := #[]
  methods := #[]
  instanceTypes := #[]
  staticTypes := #[]
  resolved := Array.replicate 8 none
  statics := none }

/-- the primitive byte -/
def k16 : Class := { plain "byte" none with kind := .primitive 'B', accessFlags := 0x411 }
/-- [B -/
def k17 : Class := { plain "[B" (some 0) with kind := .array 16 .byte, interfaces := #[15, 6], accessFlags := 1041 }

/-- the primitive int -/
def k18 : Class := { plain "int" none with kind := .primitive 'I', accessFlags := 0x411 }
/-- [I -/
def k19 : Class := { plain "[I" (some 0) with kind := .array 18 .int, interfaces := #[15, 6], accessFlags := 1041 }

def heap : Heap := #[{ cls := 8, slots := #[.ref 2, .ref 3, .ref 4, .ref 5, .ref 6, .null], vm := .statics 8 },
  { cls := 9, slots := #[.ref 7, .ref 8, .ref 9, .null], vm := .statics 9 },
  { cls := 8, slots := #[.null, .int 0, .int 0, .null, .null, .int 20, .int 20], vm := .none },
  { cls := 8, slots := #[.null, .int 1, .int 0, .null, .null, .int 20, .int 20], vm := .none },
  { cls := 8, slots := #[.null, .int 2, .int 0, .null, .null, .int 20, .int 20], vm := .none },
  { cls := 8, slots := #[.null, .int 3, .int 0, .null, .null, .int 20, .int 20], vm := .none },
  { cls := 8, slots := #[.null, .int 4, .int 0, .null, .null, .int 20, .int 20], vm := .none },
  { cls := 9, slots := #[.null, .int 0, .int 0, .null, .int 1], vm := .none },
  { cls := 9, slots := #[.null, .int 1, .int 0, .null, .int 1], vm := .none },
  { cls := 9, slots := #[.null, .int 2, .int 0, .null, .int 1], vm := .none }]
def classes : Array Class := #[k0, k1, k2, k3, k4, k5, k6, k7, k8, k9, k10, k11, k12, k13, k14, k15, k16, k17, k18, k19]
def interned : List (Array UInt16 × Addr) := []
def slotsUsed : Nat := 60
def theMethod : MethodId := ⟨1, 3⟩
def args0 : Array Value := #[.int 0, .int 3, .int 2, .int 1]
def aboutOver (below : List Frame) : State where
  vm := { classes := classes, interned := interned.toArray }
  heap := heap
  slotsUsed := slotsUsed
  threads := #[{ frames := .invoking theMethod args0 :: below }]
def below0 : List Frame := [.native { method := ⟨0, 0⟩, args := #[] }]
def about1 : State := aboutOver below0
def p0 : Program := .bare "" "" ""
def e0 : Env := launch0.env 0 0 0
theorem w_frames : about1.frames = Frame.invoking theMethod args0 :: below0 := rfl
set_option maxRecDepth 65536 in
theorem w_args : argsFit about1.vm theMethod args0 = true := by decide +kernel
set_option maxRecDepth 65536 in
theorem w_heap : heapFits about1 = true := by decide +kernel
set_option maxRecDepth 65536 in
theorem w_runnable : about1.curStatus? = some .runnable := by decide +kernel
set_option maxRecDepth 65536 in
theorem w_alone : about1.alone = true := by decide +kernel
set_option maxRecDepth 65536 in
theorem w_named : about1.methodNamed? x = some theMethod := by decide +kernel
set_option maxRecDepth 65536 in
theorem w_hears : about1.hears theMethod below0 = true := by decide +kernel
set_option maxRecDepth 65536 in
theorem w_ripe : about1.ripe theMethod args0 below0 = true := by decide +kernel
theorem w_running : about1.status = .running := rfl
set_option maxRecDepth 65536 in
theorem w_room : about1.hasRoom e0.platform room_1 = true :=
  launch0.hasRoom_least _ room_1 (by decide +kernel) (by decide +kernel) (by decide +kernel) (by decide +kernel) (by decide +kernel) (by decide +kernel)
theorem allAtoms_all (ts : List Jvm.Cond) (a : Array Jvm.Value) (st : Jvm.State) : (allAtoms ts).before a st = ts.all (fun c => c.before a st) := by
  induction ts with
  | nil => rfl
  | cons c t ih =>
    show (Jvm.Cond.and c (allAtoms t)).before a st = _
    rw [Jvm.Cond.before_and, ih, List.all_cons]
def words1 : List Jvm.Cond := Jvm.Cond.code x code maxLocals ret :: tables_1
/-- a 'code' word, met by the world's own term for the bytes: nothing is compared byte by byte -/
theorem code_word {y : MethodName} {bytes : ByteArray} {mx : Nat} {rt : Option FieldType} {a : Array Value} {s : State} {m : MethodId} {meth : Method} {c : Code} (h1 : s.methodNamed? y = some m) (h2 : s.vm.method? m = some meth) (h3 : meth.code = some c) (h4 : c.code = bytes)
    (h5 : (c.maxLocals == mx && c.exceptionTable.isEmpty && decide (c.maxStack ≤ mostOperands) && decide (meth.sig.returnType = rt) && !meth.locks && decide (parseMethodDescriptor y.desc = some meth.sig)) = true) : (Jvm.Cond.code y bytes mx rt).before a s = true := by
  simp only [Bool.and_eq_true, beq_iff_eq, Bool.not_eq_true', decide_eq_true_eq] at h5
  obtain ⟨⟨⟨⟨⟨g1, g2⟩, g3⟩, g4⟩, g5⟩, g6⟩ := h5
  simp [Cond.before, Cond.holds, Cond.value, h1, h2, h3, h4, g1, g2, g3, g4, g5, g6]
def isCode : Jvm.Cond → Bool
  | .code _ _ _ _ => true
  | _ => false
theorem all_split {L : List Jvm.Cond} {P : Jvm.Cond → Bool} (h1 : L.all (fun c => isCode c || P c) = true) (h2 : ∀ c ∈ L.filter isCode, P c = true) : L.all P = true := by
  refine List.all_eq_true.mpr fun c hc => ?_
  have h := List.all_eq_true.mp h1 c hc
  rcases Bool.eq_false_or_eq_true (isCode c) with hi | hi
  · exact h2 c (List.mem_filter.mpr ⟨hc, hi⟩)
  · simpa [hi] using h
set_option maxRecDepth 65536 in
theorem w_c0 : (Jvm.Cond.code x code maxLocals ret).before args0 about1 = true := code_word (m := ⟨1, 3⟩) (meth := k1m3) (c := k1c3) (by decide +kernel) rfl rfl rfl (by decide +kernel)
set_option maxRecDepth 65536 in
theorem w_c1 : (Jvm.Cond.code ({ cls := "com/example/ruffwork/ruffwork/ContractSlamBonusPinLaw", name := "strainOf", desc := "(I)Lcom/example/ruffwork/ruffwork/Strain;" } : Jvm.MethodName) method_2_code (2 : Nat) (Option.some (Jvm.ClassFile.FieldType.object "com/example/ruffwork/ruffwork/Strain"))).before args0 about1 = true := code_word (m := ⟨1, 1⟩) (meth := k1m1) (c := k1c1) (by decide +kernel) rfl rfl rfl (by decide +kernel)
set_option maxRecDepth 65536 in
theorem w_c2 : (Jvm.Cond.code ({ cls := "com/example/ruffwork/ruffwork/ContractSlamBonusPinLaw", name := "doublingOf", desc := "(I)Lcom/example/ruffwork/ruffwork/Doubling;" } : Jvm.MethodName) method_3_code (2 : Nat) (Option.some (Jvm.ClassFile.FieldType.object "com/example/ruffwork/ruffwork/Doubling"))).before args0 about1 = true := code_word (m := ⟨1, 2⟩) (meth := k1m2) (c := k1c2) (by decide +kernel) rfl rfl rfl (by decide +kernel)
set_option maxRecDepth 65536 in
theorem w_c3 : (Jvm.Cond.code ({ cls := "com/example/ruffwork/ruffwork/Contract", name := "<init>", desc := "(ILcom/example/ruffwork/ruffwork/Strain;Lcom/example/ruffwork/ruffwork/Doubling;)V" } : Jvm.MethodName) prog_25_method_1_code (4 : Nat) (Option.none : Option Jvm.ClassFile.FieldType)).before args0 about1 = true := code_word (m := ⟨3, 0⟩) (meth := k3m0) (c := k3c0) (by decide +kernel) rfl rfl rfl (by decide +kernel)
set_option maxRecDepth 65536 in
theorem w_c4 : (Jvm.Cond.code ({ cls := "java/lang/Record", name := "<init>", desc := "()V" } : Jvm.MethodName) jdk_30_method_1_code (1 : Nat) (Option.none : Option Jvm.ClassFile.FieldType)).before args0 about1 = true := code_word (m := ⟨2, 0⟩) (meth := k2m0) (c := k2c0) (by decide +kernel) rfl rfl rfl (by decide +kernel)
set_option maxRecDepth 65536 in
theorem w_c5 : (Jvm.Cond.code ({ cls := "java/lang/Object", name := "<init>", desc := "()V" } : Jvm.MethodName) object_method_1_code (1 : Nat) (Option.none : Option Jvm.ClassFile.FieldType)).before args0 about1 = true := code_word (m := ⟨0, 0⟩) (meth := k0m0) (c := k0c0) (by decide +kernel) rfl rfl rfl (by decide +kernel)
set_option maxRecDepth 65536 in
theorem w_c6 : (Jvm.Cond.code ({ cls := "com/example/ruffwork/ruffwork/Call", name := "isLevel", desc := "(I)Z" } : Jvm.MethodName) prog_21_method_9_code (1 : Nat) (Option.some Jvm.ClassFile.FieldType.boolean)).before args0 about1 = true := code_word (m := ⟨10, 0⟩) (meth := k10m0) (c := k10c0) (by decide +kernel) rfl rfl rfl (by decide +kernel)
set_option maxRecDepth 65536 in
theorem w_c7 : (Jvm.Cond.code ({ cls := "java/util/Objects", name := "requireNonNull", desc := "(Ljava/lang/Object;Ljava/lang/String;)Ljava/lang/Object;" } : Jvm.MethodName) jdk_31_method_11_code (2 : Nat) (Option.some (Jvm.ClassFile.FieldType.object "java/lang/Object"))).before args0 about1 = true := code_word (m := ⟨14, 1⟩) (meth := k14m1) (c := k14c1) (by decide +kernel) rfl rfl rfl (by decide +kernel)
set_option maxRecDepth 65536 in
theorem w_c8 : (Jvm.Cond.code ({ cls := "com/example/ruffwork/ruffwork/Contract", name := "slamBonus", desc := "(Z)I" } : Jvm.MethodName) prog_25_method_8_code (2 : Nat) (Option.some Jvm.ClassFile.FieldType.int)).before args0 about1 = true := code_word (m := ⟨3, 1⟩) (meth := k3m1) (c := k3c1) (by decide +kernel) rfl rfl rfl (by decide +kernel)
def codes1 : List Jvm.Cond := [Jvm.Cond.code x code maxLocals ret, Jvm.Cond.code ({ cls := "com/example/ruffwork/ruffwork/ContractSlamBonusPinLaw", name := "strainOf", desc := "(I)Lcom/example/ruffwork/ruffwork/Strain;" } : Jvm.MethodName) method_2_code (2 : Nat) (Option.some (Jvm.ClassFile.FieldType.object "com/example/ruffwork/ruffwork/Strain")), Jvm.Cond.code ({ cls := "com/example/ruffwork/ruffwork/ContractSlamBonusPinLaw", name := "doublingOf", desc := "(I)Lcom/example/ruffwork/ruffwork/Doubling;" } : Jvm.MethodName) method_3_code (2 : Nat) (Option.some (Jvm.ClassFile.FieldType.object "com/example/ruffwork/ruffwork/Doubling")), Jvm.Cond.code ({ cls := "com/example/ruffwork/ruffwork/Contract", name := "<init>", desc := "(ILcom/example/ruffwork/ruffwork/Strain;Lcom/example/ruffwork/ruffwork/Doubling;)V" } : Jvm.MethodName) prog_25_method_1_code (4 : Nat) (Option.none : Option Jvm.ClassFile.FieldType), Jvm.Cond.code ({ cls := "java/lang/Record", name := "<init>", desc := "()V" } : Jvm.MethodName) jdk_30_method_1_code (1 : Nat) (Option.none : Option Jvm.ClassFile.FieldType), Jvm.Cond.code ({ cls := "java/lang/Object", name := "<init>", desc := "()V" } : Jvm.MethodName) object_method_1_code (1 : Nat) (Option.none : Option Jvm.ClassFile.FieldType), Jvm.Cond.code ({ cls := "com/example/ruffwork/ruffwork/Call", name := "isLevel", desc := "(I)Z" } : Jvm.MethodName) prog_21_method_9_code (1 : Nat) (Option.some Jvm.ClassFile.FieldType.boolean), Jvm.Cond.code ({ cls := "java/util/Objects", name := "requireNonNull", desc := "(Ljava/lang/Object;Ljava/lang/String;)Ljava/lang/Object;" } : Jvm.MethodName) jdk_31_method_11_code (2 : Nat) (Option.some (Jvm.ClassFile.FieldType.object "java/lang/Object")), Jvm.Cond.code ({ cls := "com/example/ruffwork/ruffwork/Contract", name := "slamBonus", desc := "(Z)I" } : Jvm.MethodName) prog_25_method_8_code (2 : Nat) (Option.some Jvm.ClassFile.FieldType.int)]
set_option maxRecDepth 65536 in
theorem codes_eq : words1.filter isCode = codes1 := rfl
theorem w_codes : ∀ c ∈ words1.filter isCode, c.before args0 about1 = true := by
  rw [codes_eq]
  intro c hc
  simp only [codes1, List.mem_cons, List.not_mem_nil, or_false] at hc
  rcases hc with rfl | rfl | rfl | rfl | rfl | rfl | rfl | rfl | rfl
  · exact w_c0
  · exact w_c1
  · exact w_c2
  · exact w_c3
  · exact w_c4
  · exact w_c5
  · exact w_c6
  · exact w_c7
  · exact w_c8
set_option maxRecDepth 65536 in
theorem w_t1 : (words1.take 24).all (fun c => isCode c || c.before args0 about1) = true := by decide +kernel
set_option maxRecDepth 65536 in
theorem w_t2 : ((words1.drop 24).take 24).all (fun c => isCode c || c.before args0 about1) = true := by decide +kernel
set_option maxRecDepth 65536 in
theorem w_t3 : ((words1.drop 24).drop 24).all (fun c => isCode c || c.before args0 about1) = true := by decide +kernel
theorem w_tables : (allAtoms (Jvm.Cond.code x code maxLocals ret :: tables_1)).before args0 about1 = true := by
  rw [allAtoms_all]
  show words1.all (fun c => c.before args0 about1) = true
  refine all_split ?_ w_codes
  rw [← List.take_append_drop 24 words1, List.all_append, w_t1, ← List.take_append_drop 24 (words1.drop 24), List.all_append, w_t2, w_t3]
  rfl
set_option maxRecDepth 65536 in
theorem w_case : (Jvm.Cond.and given_1 narrow_1).before args0 about1 = true := by decide +kernel
theorem w_applies : (headSpec (Jvm.Cond.code x code maxLocals ret :: tables_1) room_1).applies x e0.platform about1 = true :=
  (Spec.applies_iff w_frames).mpr ⟨w_running, w_runnable, w_alone, w_named, w_hears, w_ripe, w_room, w_tables⟩
theorem atStart : AtStart classFile x code maxLocals ret World_1 tables_1 room_1 Calls_1 rest_1 Pre_1 launch0 p0 e0 about1 theMethod args0 below0 :=
  ⟨lists_1, trivial, launch0.admits_env _ _ _, launch0.least_env, fairChoices_fair.cas, fairChoices_fair.clock, w_frames, w_args, w_heap, w_applies, trivial, trivial, w_case⟩
end start1
theorem witness_1 : WitnessClaimed_1 := ⟨start1.p0, start1.e0, start1.about1, start1.theMethod, start1.args0, start1.below0, start1.atStart⟩
end Jvm.Pilot.@@N@@
