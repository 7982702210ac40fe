import JvmDerived
import JvmDerived.Pilot.@@N@@Statement
import JvmDerived.Pilot.@@N@@Code
set_option linter.unusedVariables false
set_option linter.unusedSimpArgs false
namespace Jvm.RoadKit
open Sem ClassFile Op Lib Jvm.Stand Jvm.Free Jvm.LawKit
section New
variable {p : Program} {l : Launch} {e : Env} {R : Room} {s : State} {m : MethodId} {args : Array Value} {below : List Frame} {meth : Method} {c : Code} {T : State} {locs : List Loc} {cells slots : Nat}
theorem retI (X : Stand p l e R s m args below meth c T locs cells slots) (hx : p.tables.exec = Jvm.exec) {pc : Nat} {Ls : Array Slot} {z : Int32} {rest : List Value} (hret : meth.sig.returnType = some .int) (hd : decode c.code pc = .ok (.ireturn, 1)) {fs : List Frame}
    (hl : ∀ (f : JFrame) (acts : List Action), f.method = m → f.locked = none → f.entered = [] → (doReturn e (T.setTop f) acts (some (.int z))).1 = T.setFrames fs) : Steps p.tables e below (T.setTop (mkF m pc Ls (.int z :: rest))) (T.setFrames fs) :=
  retOut X hx hret rfl (Or.inl ⟨rfl, Or.inl rfl, _, rfl⟩) hd hl
end New
end Jvm.RoadKit
namespace Jvm.Pilot.@@N@@
open Jvm Jvm.ClassFile Sem Op Lib Jvm.Free Jvm.Stand Jvm.LawKit Jvm.RoadKit Bundle Jvm.Pilot.@@N@@.Jvm.D
theorem d1_0 : decode method_3_code 0 = .ok (.iload_n 0, 1) := by decide +kernel
theorem d1_1 : decode method_3_code 1 = .ok (.ifCond .ne 7, 3) := by decide +kernel
theorem d1_4 : decode method_3_code 4 = .ok (.getstatic 33, 3) := by decide +kernel
theorem d1_7 : decode method_3_code 7 = .ok (.areturn, 1) := by decide +kernel
theorem d1_8 : decode method_3_code 8 = .ok (.iload_n 0, 1) := by decide +kernel
theorem d1_9 : decode method_3_code 9 = .ok (.iconst 1, 1) := by decide +kernel
theorem d1_10 : decode method_3_code 10 = .ok (.if_icmp .ne 7, 3) := by decide +kernel
theorem d1_13 : decode method_3_code 13 = .ok (.getstatic 39, 3) := by decide +kernel
theorem d1_16 : decode method_3_code 16 = .ok (.areturn, 1) := by decide +kernel
theorem d1_17 : decode method_3_code 17 = .ok (.iload_n 0, 1) := by decide +kernel
theorem d1_18 : decode method_3_code 18 = .ok (.iconst 2, 1) := by decide +kernel
theorem d1_19 : decode method_3_code 19 = .ok (.if_icmp .ne 7, 3) := by decide +kernel
theorem d1_22 : decode method_3_code 22 = .ok (.getstatic 42, 3) := by decide +kernel
theorem d1_25 : decode method_3_code 25 = .ok (.areturn, 1) := by decide +kernel
theorem d1_26 : decode method_3_code 26 = .ok (.getstatic 45, 3) := by decide +kernel
theorem d1_29 : decode method_3_code 29 = .ok (.areturn, 1) := by decide +kernel
theorem pn_0 : plainName "com/example/ruffwork/ruffwork/CardEqualsPinLaw" = true := by first | (simp [plainName, overriddenIn]; done) | decide +kernel
theorem ef_rm1 (m : MethodId) (x0 : Int32) : entryFrame m #[(.int x0)] 1 = mkF m 0 #[.val (.int x0)] [] := by first | (simp [entryFrame, mkF, argsToLocals, Value.category]; done) | rfl
def suitF (p1 : Int32) (w_SPADES : Addr) (w_HEARTS : Addr) (w_DIAMONDS : Addr) (w_CLUBS : Addr) : Addr :=
  if p1 = (0 : Int32) then w_SPADES
  else if p1 = (1 : Int32) then w_HEARTS
    else if p1 = (2 : Int32) then w_DIAMONDS
      else w_CLUBS
def Q1 (Z : State) (p1 : Int32) (w_SPADES : Addr) (w_HEARTS : Addr) (w_DIAMONDS : Addr) (w_CLUBS : Addr) (h0 : Heap) (n0 : Nat) (v : Option Value) (h : Heap) (L : List Loc) : Prop := v = some (.ref (suitF p1 w_SPADES w_HEARTS w_DIAMONDS w_CLUBS)) ∧ Fr n0 L ∧ h = h0
set_option maxRecDepth 65536 in
set_option maxHeartbeats 40000000 in
theorem rm1 (l : Launch) (Z : State) (a0 : Array Value) (hw : ∀ d ∈ tables_1, d.before a0 Z = true) (ws : List Jvm.Cond) (p1 : Int32) (w_SPADES : Addr) (w_HEARTS : Addr) (w_DIAMONDS : Addr) (w_CLUBS : Addr) (h0 : Heap) (n0 : Nat) (Z0 : n0 ≤ h0.size) (S_SPADES : Sta Z h0 "com/example/ruffwork/ruffwork/Suit" "SPADES" "Lcom/example/ruffwork/ruffwork/Suit;" (.ref w_SPADES)) (S_HEARTS : Sta Z h0 "com/example/ruffwork/ruffwork/Suit" "HEARTS" "Lcom/example/ruffwork/ruffwork/Suit;" (.ref w_HEARTS)) (S_DIAMONDS : Sta Z h0 "com/example/ruffwork/ruffwork/Suit" "DIAMONDS" "Lcom/example/ruffwork/ruffwork/Suit;" (.ref w_DIAMONDS)) (S_CLUBS : Sta Z h0 "com/example/ruffwork/ruffwork/Suit" "CLUBS" "Lcom/example/ruffwork/ruffwork/Suit;" (.ref w_CLUBS)) :
    MetFree l (⟨"com/example/ruffwork/ruffwork/CardEqualsPinLaw", "suit", "(I)Lcom/example/ruffwork/ruffwork/Suit;"⟩ : MethodName) (head1 (Jvm.Cond.code (⟨"com/example/ruffwork/ruffwork/CardEqualsPinLaw", "suit", "(I)Lcom/example/ruffwork/ruffwork/Suit;"⟩ : MethodName) method_3_code 1 (some (.object "com/example/ruffwork/ruffwork/Suit")) :: ws) ({ frames := 0, cells := 0, slots := 0, locals := 0 } : Room)) (fun a U => a = #[(.int p1)] ∧ Z.Warmed39 U.vm ∧ U.heap = h0) (fun _ _ _ _ _ => True) (fun _ U o U' => ∃ v L, o = .returned v ∧ Q1 Z p1 w_SPADES w_HEARTS w_DIAMONDS w_CLUBS h0 n0 v U'.heap L ∧ FrameEnd U o U' L ({ frames := 0, cells := 0, slots := 0, locals := 0 } : Room).cells ({ frames := 0, cells := 0, slots := 0, locals := 0 } : Room).slots) := by
  refine MetFree.of_bodySF (plainFor_of_name pn_0) hisR ?_
  intro p e s m args below meth c s₁ Bd hml0 hP hK
  obtain ⟨rfl, hZ, hh⟩ := hP
  have hx := Bd.exec
  have hby := Bd.bytes
  have hml : c.maxLocals = 1 := hml0
  have hown : s.vm.findClass "com/example/ruffwork/ruffwork/CardEqualsPinLaw" = some m.cls := findClass_of_methodNamed Bd.named
  have hnm := (name_of_methodNamed Bd.named Bd.method).1
  have X0 : Stand p l e ({ frames := 0, cells := 0, slots := 0, locals := 0 } : Room) s m #[(.int p1)] below meth c s₁ [] 0 0 := Stand.of_body Bd
  have e0 : s₁.heap = h0 := by rw [← hh, Bd.state]; rfl
  have N0 := Fr.nil n0
  have pre0 : ∀ t, Steps p.tables e below (s₁.setTop (mkF m 0 #[.val (.int p1)] [])) t → Steps p.tables e below (s₁.setTop (entryFrame m #[(.int p1)] 1)) t := fun t k => castTop (ef_rm1 m p1) k
  have pre1 : ∀ t, Steps p.tables e below (s₁.setTop (mkF m 1 #[.val (.int p1)] [(.int p1)])) t → Steps p.tables e below (s₁.setTop (entryFrame m #[(.int p1)] 1)) t := by
    intro t kt
    refine pre0 t ?_
    show Steps p.tables e below (s₁.setTop (mkF m 0 #[.val (.int p1)] [])) _
    refine XS.iloadN X0.here hx rfl (hb hby d1_0) rfl ?_
    show Steps p.tables e below (s₁.setTop (mkF m 1 #[.val (.int p1)] [(.int p1)])) _
    exact kt
  by_cases hc1_2 : p1 = (0 : Int32)
  · obtain ⟨T3, X3, e3, st3⟩ := getS2 X0 hx hZ hown (host := "") (Or.inl (hw _ (List.mem_of_getElem? (i := 8) rfl))) Via.refl e0 S_SPADES (g := (mkF m 4 #[.val (.int p1)] [])) rfl (hb hby d1_4)
    obtain ⟨fs, hr, hrun, hended, hW, hsame⟩ := X3.leave (v := some (.ref w_SPADES)) (fun h => by rw [Bd.returns] at h; cases h)
    refine ⟨_, _, pre1 _ ?_, hrun, hended, _, _, rfl, ?_, ⟨_, rfl⟩, hW, hsame.mono (by decide) (by decide)⟩
    · show Steps p.tables e below (s₁.setTop (mkF m 1 #[.val (.int p1)] [(.int p1)])) _
      refine XS.ifNo X0.here hx rfl (hb hby d1_1) rfl ((if0 _ _).trans (teq hc1_2).2) ?_
      show Steps p.tables e below (s₁.setTop (mkF m 4 #[.val (.int p1)] [])) _
      refine st3 _ ?_
      show Steps p.tables e below (T3.setTop (mkF m 7 #[.val (.int p1)] [(.ref w_SPADES)])) _
      exact retOut X3 hx Bd.returns rfl (Or.inr (Or.inr (Or.inr (Or.inr ⟨rfl, rfl, rfl⟩)))) (hb hby d1_7) hr
    · show Q1 Z p1 w_SPADES w_HEARTS w_DIAMONDS w_CLUBS h0 n0 _ T3.heap _
      rw [e3]
      refine ⟨?_, N0, rfl⟩
      show (some (.ref w_SPADES) : Option Value) = some (.ref (suitF p1 w_SPADES w_HEARTS w_DIAMONDS w_CLUBS))
      rw [show (suitF p1 w_SPADES w_HEARTS w_DIAMONDS w_CLUBS) = w_SPADES from by unfold suitF; rw [if_pos hc1_2]]
  · have pre5 : ∀ t, Steps p.tables e below (s₁.setTop (mkF m 10 #[.val (.int p1)] [(.int (1 : Int32)), (.int p1)])) t → Steps p.tables e below (s₁.setTop (entryFrame m #[(.int p1)] 1)) t := by
      intro t kt
      refine pre1 t ?_
      show Steps p.tables e below (s₁.setTop (mkF m 1 #[.val (.int p1)] [(.int p1)])) _
      refine XS.ifYes X0.here hx rfl (pc0 := 1) (pc' := 8) rfl (hb hby d1_1) rfl ((if0 _ _).trans (feq hc1_2).2) (by decide) (by decide) ?_
      show Steps p.tables e below (s₁.setTop (mkF m 8 #[.val (.int p1)] [])) _
      refine XS.iloadN X0.here hx rfl (hb hby d1_8) rfl ?_
      show Steps p.tables e below (s₁.setTop (mkF m 9 #[.val (.int p1)] [(.int p1)])) _
      refine XS.iconst X0.here hx rfl (hb hby d1_9) ?_
      show Steps p.tables e below (s₁.setTop (mkF m 10 #[.val (.int p1)] [(.int (1 : Int32)), (.int p1)])) _
      exact kt
    by_cases hc10_6 : p1 = (1 : Int32)
    · obtain ⟨T7, X7, e7, st7⟩ := getS2 X0 hx hZ hown (host := "") (Or.inl (hw _ (List.mem_of_getElem? (i := 64) rfl))) Via.refl e0 S_HEARTS (g := (mkF m 13 #[.val (.int p1)] [])) rfl (hb hby d1_13)
      obtain ⟨fs, hr, hrun, hended, hW, hsame⟩ := X7.leave (v := some (.ref w_HEARTS)) (fun h => by rw [Bd.returns] at h; cases h)
      refine ⟨_, _, pre5 _ ?_, hrun, hended, _, _, rfl, ?_, ⟨_, rfl⟩, hW, hsame.mono (by decide) (by decide)⟩
      · show Steps p.tables e below (s₁.setTop (mkF m 10 #[.val (.int p1)] [(.int (1 : Int32)), (.int p1)])) _
        refine XS.icmpNo X0.here hx rfl (hb hby d1_10) rfl (teq hc10_6).2 ?_
        show Steps p.tables e below (s₁.setTop (mkF m 13 #[.val (.int p1)] [])) _
        refine st7 _ ?_
        show Steps p.tables e below (T7.setTop (mkF m 16 #[.val (.int p1)] [(.ref w_HEARTS)])) _
        exact retOut X7 hx Bd.returns rfl (Or.inr (Or.inr (Or.inr (Or.inr ⟨rfl, rfl, rfl⟩)))) (hb hby d1_16) hr
      · show Q1 Z p1 w_SPADES w_HEARTS w_DIAMONDS w_CLUBS h0 n0 _ T7.heap _
        rw [e7]
        refine ⟨?_, N0, rfl⟩
        show (some (.ref w_HEARTS) : Option Value) = some (.ref (suitF p1 w_SPADES w_HEARTS w_DIAMONDS w_CLUBS))
        rw [show (suitF p1 w_SPADES w_HEARTS w_DIAMONDS w_CLUBS) = w_HEARTS from by unfold suitF; rw [if_neg hc1_2, if_pos hc10_6]]
    · have pre9 : ∀ t, Steps p.tables e below (s₁.setTop (mkF m 19 #[.val (.int p1)] [(.int (2 : Int32)), (.int p1)])) t → Steps p.tables e below (s₁.setTop (entryFrame m #[(.int p1)] 1)) t := by
        intro t kt
        refine pre5 t ?_
        show Steps p.tables e below (s₁.setTop (mkF m 10 #[.val (.int p1)] [(.int (1 : Int32)), (.int p1)])) _
        refine XS.icmpYes X0.here hx rfl (pc0 := 10) (pc' := 17) rfl (hb hby d1_10) rfl (feq hc10_6).2 (by decide) (by decide) ?_
        show Steps p.tables e below (s₁.setTop (mkF m 17 #[.val (.int p1)] [])) _
        refine XS.iloadN X0.here hx rfl (hb hby d1_17) rfl ?_
        show Steps p.tables e below (s₁.setTop (mkF m 18 #[.val (.int p1)] [(.int p1)])) _
        refine XS.iconst X0.here hx rfl (hb hby d1_18) ?_
        show Steps p.tables e below (s₁.setTop (mkF m 19 #[.val (.int p1)] [(.int (2 : Int32)), (.int p1)])) _
        exact kt
      by_cases hc19_10 : p1 = (2 : Int32)
      · obtain ⟨T11, X11, e11, st11⟩ := getS2 X0 hx hZ hown (host := "") (Or.inl (hw _ (List.mem_of_getElem? (i := 49) rfl))) Via.refl e0 S_DIAMONDS (g := (mkF m 22 #[.val (.int p1)] [])) rfl (hb hby d1_22)
        obtain ⟨fs, hr, hrun, hended, hW, hsame⟩ := X11.leave (v := some (.ref w_DIAMONDS)) (fun h => by rw [Bd.returns] at h; cases h)
        refine ⟨_, _, pre9 _ ?_, hrun, hended, _, _, rfl, ?_, ⟨_, rfl⟩, hW, hsame.mono (by decide) (by decide)⟩
        · show Steps p.tables e below (s₁.setTop (mkF m 19 #[.val (.int p1)] [(.int (2 : Int32)), (.int p1)])) _
          refine XS.icmpNo X0.here hx rfl (hb hby d1_19) rfl (teq hc19_10).2 ?_
          show Steps p.tables e below (s₁.setTop (mkF m 22 #[.val (.int p1)] [])) _
          refine st11 _ ?_
          show Steps p.tables e below (T11.setTop (mkF m 25 #[.val (.int p1)] [(.ref w_DIAMONDS)])) _
          exact retOut X11 hx Bd.returns rfl (Or.inr (Or.inr (Or.inr (Or.inr ⟨rfl, rfl, rfl⟩)))) (hb hby d1_25) hr
        · show Q1 Z p1 w_SPADES w_HEARTS w_DIAMONDS w_CLUBS h0 n0 _ T11.heap _
          rw [e11]
          refine ⟨?_, N0, rfl⟩
          show (some (.ref w_DIAMONDS) : Option Value) = some (.ref (suitF p1 w_SPADES w_HEARTS w_DIAMONDS w_CLUBS))
          rw [show (suitF p1 w_SPADES w_HEARTS w_DIAMONDS w_CLUBS) = w_DIAMONDS from by unfold suitF; rw [if_neg hc1_2, if_neg hc10_6, if_pos hc19_10]]
      · obtain ⟨T13, X13, e13, st13⟩ := getS2 X0 hx hZ hown (host := "") (Or.inl (hw _ (List.mem_of_getElem? (i := 62) rfl))) Via.refl e0 S_CLUBS (g := (mkF m 26 #[.val (.int p1)] [])) rfl (hb hby d1_26)
        obtain ⟨fs, hr, hrun, hended, hW, hsame⟩ := X13.leave (v := some (.ref w_CLUBS)) (fun h => by rw [Bd.returns] at h; cases h)
        refine ⟨_, _, pre9 _ ?_, hrun, hended, _, _, rfl, ?_, ⟨_, rfl⟩, hW, hsame.mono (by decide) (by decide)⟩
        · show Steps p.tables e below (s₁.setTop (mkF m 19 #[.val (.int p1)] [(.int (2 : Int32)), (.int p1)])) _
          refine XS.icmpYes X0.here hx rfl (pc0 := 19) (pc' := 26) rfl (hb hby d1_19) rfl (feq hc19_10).2 (by decide) (by decide) ?_
          show Steps p.tables e below (s₁.setTop (mkF m 26 #[.val (.int p1)] [])) _
          refine st13 _ ?_
          show Steps p.tables e below (T13.setTop (mkF m 29 #[.val (.int p1)] [(.ref w_CLUBS)])) _
          exact retOut X13 hx Bd.returns rfl (Or.inr (Or.inr (Or.inr (Or.inr ⟨rfl, rfl, rfl⟩)))) (hb hby d1_29) hr
        · show Q1 Z p1 w_SPADES w_HEARTS w_DIAMONDS w_CLUBS h0 n0 _ T13.heap _
          rw [e13]
          refine ⟨?_, N0, rfl⟩
          show (some (.ref w_CLUBS) : Option Value) = some (.ref (suitF p1 w_SPADES w_HEARTS w_DIAMONDS w_CLUBS))
          rw [show (suitF p1 w_SPADES w_HEARTS w_DIAMONDS w_CLUBS) = w_CLUBS from by unfold suitF; rw [if_neg hc1_2, if_neg hc10_6, if_neg hc19_10]]
theorem d2_0 : decode method_4_code 0 = .ok (.iload_n 0, 1) := by decide +kernel
theorem d2_1 : decode method_4_code 1 = .ok (.ifCond .ne 7, 3) := by decide +kernel
theorem d2_4 : decode method_4_code 4 = .ok (.getstatic 48, 3) := by decide +kernel
theorem d2_7 : decode method_4_code 7 = .ok (.areturn, 1) := by decide +kernel
theorem d2_8 : decode method_4_code 8 = .ok (.iload_n 0, 1) := by decide +kernel
theorem d2_9 : decode method_4_code 9 = .ok (.iconst 1, 1) := by decide +kernel
theorem d2_10 : decode method_4_code 10 = .ok (.if_icmp .ne 7, 3) := by decide +kernel
theorem d2_13 : decode method_4_code 13 = .ok (.getstatic 54, 3) := by decide +kernel
theorem d2_16 : decode method_4_code 16 = .ok (.areturn, 1) := by decide +kernel
theorem d2_17 : decode method_4_code 17 = .ok (.iload_n 0, 1) := by decide +kernel
theorem d2_18 : decode method_4_code 18 = .ok (.iconst 2, 1) := by decide +kernel
theorem d2_19 : decode method_4_code 19 = .ok (.if_icmp .ne 7, 3) := by decide +kernel
theorem d2_22 : decode method_4_code 22 = .ok (.getstatic 57, 3) := by decide +kernel
theorem d2_25 : decode method_4_code 25 = .ok (.areturn, 1) := by decide +kernel
theorem d2_26 : decode method_4_code 26 = .ok (.iload_n 0, 1) := by decide +kernel
theorem d2_27 : decode method_4_code 27 = .ok (.iconst 3, 1) := by decide +kernel
theorem d2_28 : decode method_4_code 28 = .ok (.if_icmp .ne 7, 3) := by decide +kernel
theorem d2_31 : decode method_4_code 31 = .ok (.getstatic 60, 3) := by decide +kernel
theorem d2_34 : decode method_4_code 34 = .ok (.areturn, 1) := by decide +kernel
theorem d2_35 : decode method_4_code 35 = .ok (.iload_n 0, 1) := by decide +kernel
theorem d2_36 : decode method_4_code 36 = .ok (.iconst 4, 1) := by decide +kernel
theorem d2_37 : decode method_4_code 37 = .ok (.if_icmp .ne 7, 3) := by decide +kernel
theorem d2_40 : decode method_4_code 40 = .ok (.getstatic 63, 3) := by decide +kernel
theorem d2_43 : decode method_4_code 43 = .ok (.areturn, 1) := by decide +kernel
theorem d2_44 : decode method_4_code 44 = .ok (.iload_n 0, 1) := by decide +kernel
theorem d2_45 : decode method_4_code 45 = .ok (.iconst 5, 1) := by decide +kernel
theorem d2_46 : decode method_4_code 46 = .ok (.if_icmp .ne 7, 3) := by decide +kernel
theorem d2_49 : decode method_4_code 49 = .ok (.getstatic 66, 3) := by decide +kernel
theorem d2_52 : decode method_4_code 52 = .ok (.areturn, 1) := by decide +kernel
theorem d2_53 : decode method_4_code 53 = .ok (.iload_n 0, 1) := by decide +kernel
theorem d2_54 : decode method_4_code 54 = .ok (.bipush 6, 2) := by decide +kernel
theorem d2_56 : decode method_4_code 56 = .ok (.if_icmp .ne 7, 3) := by decide +kernel
theorem d2_59 : decode method_4_code 59 = .ok (.getstatic 69, 3) := by decide +kernel
theorem d2_62 : decode method_4_code 62 = .ok (.areturn, 1) := by decide +kernel
theorem d2_63 : decode method_4_code 63 = .ok (.iload_n 0, 1) := by decide +kernel
theorem d2_64 : decode method_4_code 64 = .ok (.bipush 7, 2) := by decide +kernel
theorem d2_66 : decode method_4_code 66 = .ok (.if_icmp .ne 7, 3) := by decide +kernel
theorem d2_69 : decode method_4_code 69 = .ok (.getstatic 72, 3) := by decide +kernel
theorem d2_72 : decode method_4_code 72 = .ok (.areturn, 1) := by decide +kernel
theorem d2_73 : decode method_4_code 73 = .ok (.iload_n 0, 1) := by decide +kernel
theorem d2_74 : decode method_4_code 74 = .ok (.bipush 8, 2) := by decide +kernel
theorem d2_76 : decode method_4_code 76 = .ok (.if_icmp .ne 7, 3) := by decide +kernel
theorem d2_79 : decode method_4_code 79 = .ok (.getstatic 75, 3) := by decide +kernel
theorem d2_82 : decode method_4_code 82 = .ok (.areturn, 1) := by decide +kernel
theorem d2_83 : decode method_4_code 83 = .ok (.iload_n 0, 1) := by decide +kernel
theorem d2_84 : decode method_4_code 84 = .ok (.bipush 9, 2) := by decide +kernel
theorem d2_86 : decode method_4_code 86 = .ok (.if_icmp .ne 7, 3) := by decide +kernel
theorem d2_89 : decode method_4_code 89 = .ok (.getstatic 78, 3) := by decide +kernel
theorem d2_92 : decode method_4_code 92 = .ok (.areturn, 1) := by decide +kernel
theorem d2_93 : decode method_4_code 93 = .ok (.iload_n 0, 1) := by decide +kernel
theorem d2_94 : decode method_4_code 94 = .ok (.bipush 10, 2) := by decide +kernel
theorem d2_96 : decode method_4_code 96 = .ok (.if_icmp .ne 7, 3) := by decide +kernel
theorem d2_99 : decode method_4_code 99 = .ok (.getstatic 81, 3) := by decide +kernel
theorem d2_102 : decode method_4_code 102 = .ok (.areturn, 1) := by decide +kernel
theorem d2_103 : decode method_4_code 103 = .ok (.iload_n 0, 1) := by decide +kernel
theorem d2_104 : decode method_4_code 104 = .ok (.bipush 11, 2) := by decide +kernel
theorem d2_106 : decode method_4_code 106 = .ok (.if_icmp .ne 7, 3) := by decide +kernel
theorem d2_109 : decode method_4_code 109 = .ok (.getstatic 84, 3) := by decide +kernel
theorem d2_112 : decode method_4_code 112 = .ok (.areturn, 1) := by decide +kernel
theorem d2_113 : decode method_4_code 113 = .ok (.getstatic 87, 3) := by decide +kernel
theorem d2_116 : decode method_4_code 116 = .ok (.areturn, 1) := by decide +kernel
theorem ef_rm2 (m : MethodId) (x0 : Int32) : entryFrame m #[(.int x0)] 1 = mkF m 0 #[.val (.int x0)] [] := by first | (simp [entryFrame, mkF, argsToLocals, Value.category]; done) | rfl
def rankF (p1 : Int32) (w_TWO : Addr) (w_THREE : Addr) (w_FOUR : Addr) (w_FIVE : Addr) (w_SIX : Addr) (w_SEVEN : Addr) (w_EIGHT : Addr) (w_NINE : Addr) (w_TEN : Addr) (w_JACK : Addr) (w_QUEEN : Addr) (w_KING : Addr) (w_ACE : Addr) : Addr :=
  if p1 = (0 : Int32) then w_TWO
  else if p1 = (1 : Int32) then w_THREE
    else if p1 = (2 : Int32) then w_FOUR
      else if p1 = (3 : Int32) then w_FIVE
        else if p1 = (4 : Int32) then w_SIX
          else if p1 = (5 : Int32) then w_SEVEN
            else if p1 = (6 : Int32) then w_EIGHT
              else if p1 = (7 : Int32) then w_NINE
                else if p1 = (8 : Int32) then w_TEN
                  else if p1 = (9 : Int32) then w_JACK
                    else if p1 = (10 : Int32) then w_QUEEN
                      else if p1 = (11 : Int32) then w_KING
                        else w_ACE
def Q2 (Z : State) (p1 : Int32) (w_TWO : Addr) (w_THREE : Addr) (w_FOUR : Addr) (w_FIVE : Addr) (w_SIX : Addr) (w_SEVEN : Addr) (w_EIGHT : Addr) (w_NINE : Addr) (w_TEN : Addr) (w_JACK : Addr) (w_QUEEN : Addr) (w_KING : Addr) (w_ACE : Addr) (h0 : Heap) (n0 : Nat) (v : Option Value) (h : Heap) (L : List Loc) : Prop := v = some (.ref (rankF p1 w_TWO w_THREE w_FOUR w_FIVE w_SIX w_SEVEN w_EIGHT w_NINE w_TEN w_JACK w_QUEEN w_KING w_ACE)) ∧ Fr n0 L ∧ h = h0
set_option maxRecDepth 65536 in
set_option maxHeartbeats 40000000 in
theorem rm2 (l : Launch) (Z : State) (a0 : Array Value) (hw : ∀ d ∈ tables_1, d.before a0 Z = true) (ws : List Jvm.Cond) (p1 : Int32) (w_TWO : Addr) (w_THREE : Addr) (w_FOUR : Addr) (w_FIVE : Addr) (w_SIX : Addr) (w_SEVEN : Addr) (w_EIGHT : Addr) (w_NINE : Addr) (w_TEN : Addr) (w_JACK : Addr) (w_QUEEN : Addr) (w_KING : Addr) (w_ACE : Addr) (h0 : Heap) (n0 : Nat) (Z0 : n0 ≤ h0.size) (S_TWO : Sta Z h0 "com/example/ruffwork/ruffwork/Rank" "TWO" "Lcom/example/ruffwork/ruffwork/Rank;" (.ref w_TWO)) (S_THREE : Sta Z h0 "com/example/ruffwork/ruffwork/Rank" "THREE" "Lcom/example/ruffwork/ruffwork/Rank;" (.ref w_THREE)) (S_FOUR : Sta Z h0 "com/example/ruffwork/ruffwork/Rank" "FOUR" "Lcom/example/ruffwork/ruffwork/Rank;" (.ref w_FOUR)) (S_FIVE : Sta Z h0 "com/example/ruffwork/ruffwork/Rank" "FIVE" "Lcom/example/ruffwork/ruffwork/Rank;" (.ref w_FIVE)) (S_SIX : Sta Z h0 "com/example/ruffwork/ruffwork/Rank" "SIX" "Lcom/example/ruffwork/ruffwork/Rank;" (.ref w_SIX)) (S_SEVEN : Sta Z h0 "com/example/ruffwork/ruffwork/Rank" "SEVEN" "Lcom/example/ruffwork/ruffwork/Rank;" (.ref w_SEVEN)) (S_EIGHT : Sta Z h0 "com/example/ruffwork/ruffwork/Rank" "EIGHT" "Lcom/example/ruffwork/ruffwork/Rank;" (.ref w_EIGHT)) (S_NINE : Sta Z h0 "com/example/ruffwork/ruffwork/Rank" "NINE" "Lcom/example/ruffwork/ruffwork/Rank;" (.ref w_NINE)) (S_TEN : Sta Z h0 "com/example/ruffwork/ruffwork/Rank" "TEN" "Lcom/example/ruffwork/ruffwork/Rank;" (.ref w_TEN)) (S_JACK : Sta Z h0 "com/example/ruffwork/ruffwork/Rank" "JACK" "Lcom/example/ruffwork/ruffwork/Rank;" (.ref w_JACK)) (S_QUEEN : Sta Z h0 "com/example/ruffwork/ruffwork/Rank" "QUEEN" "Lcom/example/ruffwork/ruffwork/Rank;" (.ref w_QUEEN)) (S_KING : Sta Z h0 "com/example/ruffwork/ruffwork/Rank" "KING" "Lcom/example/ruffwork/ruffwork/Rank;" (.ref w_KING)) (S_ACE : Sta Z h0 "com/example/ruffwork/ruffwork/Rank" "ACE" "Lcom/example/ruffwork/ruffwork/Rank;" (.ref w_ACE)) :
    MetFree l (⟨"com/example/ruffwork/ruffwork/CardEqualsPinLaw", "rank", "(I)Lcom/example/ruffwork/ruffwork/Rank;"⟩ : MethodName) (head1 (Jvm.Cond.code (⟨"com/example/ruffwork/ruffwork/CardEqualsPinLaw", "rank", "(I)Lcom/example/ruffwork/ruffwork/Rank;"⟩ : MethodName) method_4_code 1 (some (.object "com/example/ruffwork/ruffwork/Rank")) :: ws) ({ frames := 0, cells := 0, slots := 0, locals := 0 } : Room)) (fun a U => a = #[(.int p1)] ∧ Z.Warmed39 U.vm ∧ U.heap = h0) (fun _ _ _ _ _ => True) (fun _ U o U' => ∃ v L, o = .returned v ∧ Q2 Z p1 w_TWO w_THREE w_FOUR w_FIVE w_SIX w_SEVEN w_EIGHT w_NINE w_TEN w_JACK w_QUEEN w_KING w_ACE h0 n0 v U'.heap L ∧ FrameEnd U o U' L ({ frames := 0, cells := 0, slots := 0, locals := 0 } : Room).cells ({ frames := 0, cells := 0, slots := 0, locals := 0 } : Room).slots) := by
  refine MetFree.of_bodySF (plainFor_of_name pn_0) hisR ?_
  intro p e s m args below meth c s₁ Bd hml0 hP hK
  obtain ⟨rfl, hZ, hh⟩ := hP
  have hx := Bd.exec
  have hby := Bd.bytes
  have hml : c.maxLocals = 1 := hml0
  have hown : s.vm.findClass "com/example/ruffwork/ruffwork/CardEqualsPinLaw" = some m.cls := findClass_of_methodNamed Bd.named
  have hnm := (name_of_methodNamed Bd.named Bd.method).1
  have X0 : Stand p l e ({ frames := 0, cells := 0, slots := 0, locals := 0 } : Room) s m #[(.int p1)] below meth c s₁ [] 0 0 := Stand.of_body Bd
  have e0 : s₁.heap = h0 := by rw [← hh, Bd.state]; rfl
  have N0 := Fr.nil n0
  have pre0 : ∀ t, Steps p.tables e below (s₁.setTop (mkF m 0 #[.val (.int p1)] [])) t → Steps p.tables e below (s₁.setTop (entryFrame m #[(.int p1)] 1)) t := fun t k => castTop (ef_rm2 m p1) k
  have pre1 : ∀ t, Steps p.tables e below (s₁.setTop (mkF m 1 #[.val (.int p1)] [(.int p1)])) t → Steps p.tables e below (s₁.setTop (entryFrame m #[(.int p1)] 1)) t := by
    intro t kt
    refine pre0 t ?_
    show Steps p.tables e below (s₁.setTop (mkF m 0 #[.val (.int p1)] [])) _
    refine XS.iloadN X0.here hx rfl (hb hby d2_0) rfl ?_
    show Steps p.tables e below (s₁.setTop (mkF m 1 #[.val (.int p1)] [(.int p1)])) _
    exact kt
  by_cases hc1_2 : p1 = (0 : Int32)
  · obtain ⟨T3, X3, e3, st3⟩ := getS2 X0 hx hZ hown (host := "") (Or.inl (hw _ (List.mem_of_getElem? (i := 78) rfl))) Via.refl e0 S_TWO (g := (mkF m 4 #[.val (.int p1)] [])) rfl (hb hby d2_4)
    obtain ⟨fs, hr, hrun, hended, hW, hsame⟩ := X3.leave (v := some (.ref w_TWO)) (fun h => by rw [Bd.returns] at h; cases h)
    refine ⟨_, _, pre1 _ ?_, hrun, hended, _, _, rfl, ?_, ⟨_, rfl⟩, hW, hsame.mono (by decide) (by decide)⟩
    · show Steps p.tables e below (s₁.setTop (mkF m 1 #[.val (.int p1)] [(.int p1)])) _
      refine XS.ifNo X0.here hx rfl (hb hby d2_1) rfl ((if0 _ _).trans (teq hc1_2).2) ?_
      show Steps p.tables e below (s₁.setTop (mkF m 4 #[.val (.int p1)] [])) _
      refine st3 _ ?_
      show Steps p.tables e below (T3.setTop (mkF m 7 #[.val (.int p1)] [(.ref w_TWO)])) _
      exact retOut X3 hx Bd.returns rfl (Or.inr (Or.inr (Or.inr (Or.inr ⟨rfl, rfl, rfl⟩)))) (hb hby d2_7) hr
    · show Q2 Z p1 w_TWO w_THREE w_FOUR w_FIVE w_SIX w_SEVEN w_EIGHT w_NINE w_TEN w_JACK w_QUEEN w_KING w_ACE h0 n0 _ T3.heap _
      rw [e3]
      refine ⟨?_, N0, rfl⟩
      show (some (.ref w_TWO) : Option Value) = some (.ref (rankF p1 w_TWO w_THREE w_FOUR w_FIVE w_SIX w_SEVEN w_EIGHT w_NINE w_TEN w_JACK w_QUEEN w_KING w_ACE))
      rw [show (rankF p1 w_TWO w_THREE w_FOUR w_FIVE w_SIX w_SEVEN w_EIGHT w_NINE w_TEN w_JACK w_QUEEN w_KING w_ACE) = w_TWO from by unfold rankF; rw [if_pos hc1_2]]
  · have pre5 : ∀ t, Steps p.tables e below (s₁.setTop (mkF m 10 #[.val (.int p1)] [(.int (1 : Int32)), (.int p1)])) t → Steps p.tables e below (s₁.setTop (entryFrame m #[(.int p1)] 1)) t := by
      intro t kt
      refine pre1 t ?_
      show Steps p.tables e below (s₁.setTop (mkF m 1 #[.val (.int p1)] [(.int p1)])) _
      refine XS.ifYes X0.here hx rfl (pc0 := 1) (pc' := 8) rfl (hb hby d2_1) rfl ((if0 _ _).trans (feq hc1_2).2) (by decide) (by decide) ?_
      show Steps p.tables e below (s₁.setTop (mkF m 8 #[.val (.int p1)] [])) _
      refine XS.iloadN X0.here hx rfl (hb hby d2_8) rfl ?_
      show Steps p.tables e below (s₁.setTop (mkF m 9 #[.val (.int p1)] [(.int p1)])) _
      refine XS.iconst X0.here hx rfl (hb hby d2_9) ?_
      show Steps p.tables e below (s₁.setTop (mkF m 10 #[.val (.int p1)] [(.int (1 : Int32)), (.int p1)])) _
      exact kt
    by_cases hc10_6 : p1 = (1 : Int32)
    · obtain ⟨T7, X7, e7, st7⟩ := getS2 X0 hx hZ hown (host := "") (Or.inl (hw _ (List.mem_of_getElem? (i := 51) rfl))) Via.refl e0 S_THREE (g := (mkF m 13 #[.val (.int p1)] [])) rfl (hb hby d2_13)
      obtain ⟨fs, hr, hrun, hended, hW, hsame⟩ := X7.leave (v := some (.ref w_THREE)) (fun h => by rw [Bd.returns] at h; cases h)
      refine ⟨_, _, pre5 _ ?_, hrun, hended, _, _, rfl, ?_, ⟨_, rfl⟩, hW, hsame.mono (by decide) (by decide)⟩
      · show Steps p.tables e below (s₁.setTop (mkF m 10 #[.val (.int p1)] [(.int (1 : Int32)), (.int p1)])) _
        refine XS.icmpNo X0.here hx rfl (hb hby d2_10) rfl (teq hc10_6).2 ?_
        show Steps p.tables e below (s₁.setTop (mkF m 13 #[.val (.int p1)] [])) _
        refine st7 _ ?_
        show Steps p.tables e below (T7.setTop (mkF m 16 #[.val (.int p1)] [(.ref w_THREE)])) _
        exact retOut X7 hx Bd.returns rfl (Or.inr (Or.inr (Or.inr (Or.inr ⟨rfl, rfl, rfl⟩)))) (hb hby d2_16) hr
      · show Q2 Z p1 w_TWO w_THREE w_FOUR w_FIVE w_SIX w_SEVEN w_EIGHT w_NINE w_TEN w_JACK w_QUEEN w_KING w_ACE h0 n0 _ T7.heap _
        rw [e7]
        refine ⟨?_, N0, rfl⟩
        show (some (.ref w_THREE) : Option Value) = some (.ref (rankF p1 w_TWO w_THREE w_FOUR w_FIVE w_SIX w_SEVEN w_EIGHT w_NINE w_TEN w_JACK w_QUEEN w_KING w_ACE))
        rw [show (rankF p1 w_TWO w_THREE w_FOUR w_FIVE w_SIX w_SEVEN w_EIGHT w_NINE w_TEN w_JACK w_QUEEN w_KING w_ACE) = w_THREE from by unfold rankF; rw [if_neg hc1_2, if_pos hc10_6]]
    · have pre9 : ∀ t, Steps p.tables e below (s₁.setTop (mkF m 19 #[.val (.int p1)] [(.int (2 : Int32)), (.int p1)])) t → Steps p.tables e below (s₁.setTop (entryFrame m #[(.int p1)] 1)) t := by
        intro t kt
        refine pre5 t ?_
        show Steps p.tables e below (s₁.setTop (mkF m 10 #[.val (.int p1)] [(.int (1 : Int32)), (.int p1)])) _
        refine XS.icmpYes X0.here hx rfl (pc0 := 10) (pc' := 17) rfl (hb hby d2_10) rfl (feq hc10_6).2 (by decide) (by decide) ?_
        show Steps p.tables e below (s₁.setTop (mkF m 17 #[.val (.int p1)] [])) _
        refine XS.iloadN X0.here hx rfl (hb hby d2_17) rfl ?_
        show Steps p.tables e below (s₁.setTop (mkF m 18 #[.val (.int p1)] [(.int p1)])) _
        refine XS.iconst X0.here hx rfl (hb hby d2_18) ?_
        show Steps p.tables e below (s₁.setTop (mkF m 19 #[.val (.int p1)] [(.int (2 : Int32)), (.int p1)])) _
        exact kt
      by_cases hc19_10 : p1 = (2 : Int32)
      · obtain ⟨T11, X11, e11, st11⟩ := getS2 X0 hx hZ hown (host := "") (Or.inl (hw _ (List.mem_of_getElem? (i := 72) rfl))) Via.refl e0 S_FOUR (g := (mkF m 22 #[.val (.int p1)] [])) rfl (hb hby d2_22)
        obtain ⟨fs, hr, hrun, hended, hW, hsame⟩ := X11.leave (v := some (.ref w_FOUR)) (fun h => by rw [Bd.returns] at h; cases h)
        refine ⟨_, _, pre9 _ ?_, hrun, hended, _, _, rfl, ?_, ⟨_, rfl⟩, hW, hsame.mono (by decide) (by decide)⟩
        · show Steps p.tables e below (s₁.setTop (mkF m 19 #[.val (.int p1)] [(.int (2 : Int32)), (.int p1)])) _
          refine XS.icmpNo X0.here hx rfl (hb hby d2_19) rfl (teq hc19_10).2 ?_
          show Steps p.tables e below (s₁.setTop (mkF m 22 #[.val (.int p1)] [])) _
          refine st11 _ ?_
          show Steps p.tables e below (T11.setTop (mkF m 25 #[.val (.int p1)] [(.ref w_FOUR)])) _
          exact retOut X11 hx Bd.returns rfl (Or.inr (Or.inr (Or.inr (Or.inr ⟨rfl, rfl, rfl⟩)))) (hb hby d2_25) hr
        · show Q2 Z p1 w_TWO w_THREE w_FOUR w_FIVE w_SIX w_SEVEN w_EIGHT w_NINE w_TEN w_JACK w_QUEEN w_KING w_ACE h0 n0 _ T11.heap _
          rw [e11]
          refine ⟨?_, N0, rfl⟩
          show (some (.ref w_FOUR) : Option Value) = some (.ref (rankF p1 w_TWO w_THREE w_FOUR w_FIVE w_SIX w_SEVEN w_EIGHT w_NINE w_TEN w_JACK w_QUEEN w_KING w_ACE))
          rw [show (rankF p1 w_TWO w_THREE w_FOUR w_FIVE w_SIX w_SEVEN w_EIGHT w_NINE w_TEN w_JACK w_QUEEN w_KING w_ACE) = w_FOUR from by unfold rankF; rw [if_neg hc1_2, if_neg hc10_6, if_pos hc19_10]]
      · have pre13 : ∀ t, Steps p.tables e below (s₁.setTop (mkF m 28 #[.val (.int p1)] [(.int (3 : Int32)), (.int p1)])) t → Steps p.tables e below (s₁.setTop (entryFrame m #[(.int p1)] 1)) t := by
          intro t kt
          refine pre9 t ?_
          show Steps p.tables e below (s₁.setTop (mkF m 19 #[.val (.int p1)] [(.int (2 : Int32)), (.int p1)])) _
          refine XS.icmpYes X0.here hx rfl (pc0 := 19) (pc' := 26) rfl (hb hby d2_19) rfl (feq hc19_10).2 (by decide) (by decide) ?_
          show Steps p.tables e below (s₁.setTop (mkF m 26 #[.val (.int p1)] [])) _
          refine XS.iloadN X0.here hx rfl (hb hby d2_26) rfl ?_
          show Steps p.tables e below (s₁.setTop (mkF m 27 #[.val (.int p1)] [(.int p1)])) _
          refine XS.iconst X0.here hx rfl (hb hby d2_27) ?_
          show Steps p.tables e below (s₁.setTop (mkF m 28 #[.val (.int p1)] [(.int (3 : Int32)), (.int p1)])) _
          exact kt
        by_cases hc28_14 : p1 = (3 : Int32)
        · obtain ⟨T15, X15, e15, st15⟩ := getS2 X0 hx hZ hown (host := "") (Or.inl (hw _ (List.mem_of_getElem? (i := 14) rfl))) Via.refl e0 S_FIVE (g := (mkF m 31 #[.val (.int p1)] [])) rfl (hb hby d2_31)
          obtain ⟨fs, hr, hrun, hended, hW, hsame⟩ := X15.leave (v := some (.ref w_FIVE)) (fun h => by rw [Bd.returns] at h; cases h)
          refine ⟨_, _, pre13 _ ?_, hrun, hended, _, _, rfl, ?_, ⟨_, rfl⟩, hW, hsame.mono (by decide) (by decide)⟩
          · show Steps p.tables e below (s₁.setTop (mkF m 28 #[.val (.int p1)] [(.int (3 : Int32)), (.int p1)])) _
            refine XS.icmpNo X0.here hx rfl (hb hby d2_28) rfl (teq hc28_14).2 ?_
            show Steps p.tables e below (s₁.setTop (mkF m 31 #[.val (.int p1)] [])) _
            refine st15 _ ?_
            show Steps p.tables e below (T15.setTop (mkF m 34 #[.val (.int p1)] [(.ref w_FIVE)])) _
            exact retOut X15 hx Bd.returns rfl (Or.inr (Or.inr (Or.inr (Or.inr ⟨rfl, rfl, rfl⟩)))) (hb hby d2_34) hr
          · show Q2 Z p1 w_TWO w_THREE w_FOUR w_FIVE w_SIX w_SEVEN w_EIGHT w_NINE w_TEN w_JACK w_QUEEN w_KING w_ACE h0 n0 _ T15.heap _
            rw [e15]
            refine ⟨?_, N0, rfl⟩
            show (some (.ref w_FIVE) : Option Value) = some (.ref (rankF p1 w_TWO w_THREE w_FOUR w_FIVE w_SIX w_SEVEN w_EIGHT w_NINE w_TEN w_JACK w_QUEEN w_KING w_ACE))
            rw [show (rankF p1 w_TWO w_THREE w_FOUR w_FIVE w_SIX w_SEVEN w_EIGHT w_NINE w_TEN w_JACK w_QUEEN w_KING w_ACE) = w_FIVE from by unfold rankF; rw [if_neg hc1_2, if_neg hc10_6, if_neg hc19_10, if_pos hc28_14]]
        · have pre17 : ∀ t, Steps p.tables e below (s₁.setTop (mkF m 37 #[.val (.int p1)] [(.int (4 : Int32)), (.int p1)])) t → Steps p.tables e below (s₁.setTop (entryFrame m #[(.int p1)] 1)) t := by
            intro t kt
            refine pre13 t ?_
            show Steps p.tables e below (s₁.setTop (mkF m 28 #[.val (.int p1)] [(.int (3 : Int32)), (.int p1)])) _
            refine XS.icmpYes X0.here hx rfl (pc0 := 28) (pc' := 35) rfl (hb hby d2_28) rfl (feq hc28_14).2 (by decide) (by decide) ?_
            show Steps p.tables e below (s₁.setTop (mkF m 35 #[.val (.int p1)] [])) _
            refine XS.iloadN X0.here hx rfl (hb hby d2_35) rfl ?_
            show Steps p.tables e below (s₁.setTop (mkF m 36 #[.val (.int p1)] [(.int p1)])) _
            refine XS.iconst X0.here hx rfl (hb hby d2_36) ?_
            show Steps p.tables e below (s₁.setTop (mkF m 37 #[.val (.int p1)] [(.int (4 : Int32)), (.int p1)])) _
            exact kt
          by_cases hc37_18 : p1 = (4 : Int32)
          · obtain ⟨T19, X19, e19, st19⟩ := getS2 X0 hx hZ hown (host := "") (Or.inl (hw _ (List.mem_of_getElem? (i := 74) rfl))) Via.refl e0 S_SIX (g := (mkF m 40 #[.val (.int p1)] [])) rfl (hb hby d2_40)
            obtain ⟨fs, hr, hrun, hended, hW, hsame⟩ := X19.leave (v := some (.ref w_SIX)) (fun h => by rw [Bd.returns] at h; cases h)
            refine ⟨_, _, pre17 _ ?_, hrun, hended, _, _, rfl, ?_, ⟨_, rfl⟩, hW, hsame.mono (by decide) (by decide)⟩
            · show Steps p.tables e below (s₁.setTop (mkF m 37 #[.val (.int p1)] [(.int (4 : Int32)), (.int p1)])) _
              refine XS.icmpNo X0.here hx rfl (hb hby d2_37) rfl (teq hc37_18).2 ?_
              show Steps p.tables e below (s₁.setTop (mkF m 40 #[.val (.int p1)] [])) _
              refine st19 _ ?_
              show Steps p.tables e below (T19.setTop (mkF m 43 #[.val (.int p1)] [(.ref w_SIX)])) _
              exact retOut X19 hx Bd.returns rfl (Or.inr (Or.inr (Or.inr (Or.inr ⟨rfl, rfl, rfl⟩)))) (hb hby d2_43) hr
            · show Q2 Z p1 w_TWO w_THREE w_FOUR w_FIVE w_SIX w_SEVEN w_EIGHT w_NINE w_TEN w_JACK w_QUEEN w_KING w_ACE h0 n0 _ T19.heap _
              rw [e19]
              refine ⟨?_, N0, rfl⟩
              show (some (.ref w_SIX) : Option Value) = some (.ref (rankF p1 w_TWO w_THREE w_FOUR w_FIVE w_SIX w_SEVEN w_EIGHT w_NINE w_TEN w_JACK w_QUEEN w_KING w_ACE))
              rw [show (rankF p1 w_TWO w_THREE w_FOUR w_FIVE w_SIX w_SEVEN w_EIGHT w_NINE w_TEN w_JACK w_QUEEN w_KING w_ACE) = w_SIX from by unfold rankF; rw [if_neg hc1_2, if_neg hc10_6, if_neg hc19_10, if_neg hc28_14, if_pos hc37_18]]
          · have pre21 : ∀ t, Steps p.tables e below (s₁.setTop (mkF m 46 #[.val (.int p1)] [(.int (5 : Int32)), (.int p1)])) t → Steps p.tables e below (s₁.setTop (entryFrame m #[(.int p1)] 1)) t := by
              intro t kt
              refine pre17 t ?_
              show Steps p.tables e below (s₁.setTop (mkF m 37 #[.val (.int p1)] [(.int (4 : Int32)), (.int p1)])) _
              refine XS.icmpYes X0.here hx rfl (pc0 := 37) (pc' := 44) rfl (hb hby d2_37) rfl (feq hc37_18).2 (by decide) (by decide) ?_
              show Steps p.tables e below (s₁.setTop (mkF m 44 #[.val (.int p1)] [])) _
              refine XS.iloadN X0.here hx rfl (hb hby d2_44) rfl ?_
              show Steps p.tables e below (s₁.setTop (mkF m 45 #[.val (.int p1)] [(.int p1)])) _
              refine XS.iconst X0.here hx rfl (hb hby d2_45) ?_
              show Steps p.tables e below (s₁.setTop (mkF m 46 #[.val (.int p1)] [(.int (5 : Int32)), (.int p1)])) _
              exact kt
            by_cases hc46_22 : p1 = (5 : Int32)
            · obtain ⟨T23, X23, e23, st23⟩ := getS2 X0 hx hZ hown (host := "") (Or.inl (hw _ (List.mem_of_getElem? (i := 80) rfl))) Via.refl e0 S_SEVEN (g := (mkF m 49 #[.val (.int p1)] [])) rfl (hb hby d2_49)
              obtain ⟨fs, hr, hrun, hended, hW, hsame⟩ := X23.leave (v := some (.ref w_SEVEN)) (fun h => by rw [Bd.returns] at h; cases h)
              refine ⟨_, _, pre21 _ ?_, hrun, hended, _, _, rfl, ?_, ⟨_, rfl⟩, hW, hsame.mono (by decide) (by decide)⟩
              · show Steps p.tables e below (s₁.setTop (mkF m 46 #[.val (.int p1)] [(.int (5 : Int32)), (.int p1)])) _
                refine XS.icmpNo X0.here hx rfl (hb hby d2_46) rfl (teq hc46_22).2 ?_
                show Steps p.tables e below (s₁.setTop (mkF m 49 #[.val (.int p1)] [])) _
                refine st23 _ ?_
                show Steps p.tables e below (T23.setTop (mkF m 52 #[.val (.int p1)] [(.ref w_SEVEN)])) _
                exact retOut X23 hx Bd.returns rfl (Or.inr (Or.inr (Or.inr (Or.inr ⟨rfl, rfl, rfl⟩)))) (hb hby d2_52) hr
              · show Q2 Z p1 w_TWO w_THREE w_FOUR w_FIVE w_SIX w_SEVEN w_EIGHT w_NINE w_TEN w_JACK w_QUEEN w_KING w_ACE h0 n0 _ T23.heap _
                rw [e23]
                refine ⟨?_, N0, rfl⟩
                show (some (.ref w_SEVEN) : Option Value) = some (.ref (rankF p1 w_TWO w_THREE w_FOUR w_FIVE w_SIX w_SEVEN w_EIGHT w_NINE w_TEN w_JACK w_QUEEN w_KING w_ACE))
                rw [show (rankF p1 w_TWO w_THREE w_FOUR w_FIVE w_SIX w_SEVEN w_EIGHT w_NINE w_TEN w_JACK w_QUEEN w_KING w_ACE) = w_SEVEN from by unfold rankF; rw [if_neg hc1_2, if_neg hc10_6, if_neg hc19_10, if_neg hc28_14, if_neg hc37_18, if_pos hc46_22]]
            · have pre25 : ∀ t, Steps p.tables e below (s₁.setTop (mkF m 56 #[.val (.int p1)] [(.int (6 : Int32)), (.int p1)])) t → Steps p.tables e below (s₁.setTop (entryFrame m #[(.int p1)] 1)) t := by
                intro t kt
                refine pre21 t ?_
                show Steps p.tables e below (s₁.setTop (mkF m 46 #[.val (.int p1)] [(.int (5 : Int32)), (.int p1)])) _
                refine XS.icmpYes X0.here hx rfl (pc0 := 46) (pc' := 53) rfl (hb hby d2_46) rfl (feq hc46_22).2 (by decide) (by decide) ?_
                show Steps p.tables e below (s₁.setTop (mkF m 53 #[.val (.int p1)] [])) _
                refine XS.iloadN X0.here hx rfl (hb hby d2_53) rfl ?_
                show Steps p.tables e below (s₁.setTop (mkF m 54 #[.val (.int p1)] [(.int p1)])) _
                refine XS.bipush X0.here hx rfl (hb hby d2_54) ?_
                show Steps p.tables e below (s₁.setTop (mkF m 56 #[.val (.int p1)] [(.int (6 : Int32)), (.int p1)])) _
                exact kt
              by_cases hc56_26 : p1 = (6 : Int32)
              · obtain ⟨T27, X27, e27, st27⟩ := getS2 X0 hx hZ hown (host := "") (Or.inl (hw _ (List.mem_of_getElem? (i := 105) rfl))) Via.refl e0 S_EIGHT (g := (mkF m 59 #[.val (.int p1)] [])) rfl (hb hby d2_59)
                obtain ⟨fs, hr, hrun, hended, hW, hsame⟩ := X27.leave (v := some (.ref w_EIGHT)) (fun h => by rw [Bd.returns] at h; cases h)
                refine ⟨_, _, pre25 _ ?_, hrun, hended, _, _, rfl, ?_, ⟨_, rfl⟩, hW, hsame.mono (by decide) (by decide)⟩
                · show Steps p.tables e below (s₁.setTop (mkF m 56 #[.val (.int p1)] [(.int (6 : Int32)), (.int p1)])) _
                  refine XS.icmpNo X0.here hx rfl (hb hby d2_56) rfl (teq hc56_26).2 ?_
                  show Steps p.tables e below (s₁.setTop (mkF m 59 #[.val (.int p1)] [])) _
                  refine st27 _ ?_
                  show Steps p.tables e below (T27.setTop (mkF m 62 #[.val (.int p1)] [(.ref w_EIGHT)])) _
                  exact retOut X27 hx Bd.returns rfl (Or.inr (Or.inr (Or.inr (Or.inr ⟨rfl, rfl, rfl⟩)))) (hb hby d2_62) hr
                · show Q2 Z p1 w_TWO w_THREE w_FOUR w_FIVE w_SIX w_SEVEN w_EIGHT w_NINE w_TEN w_JACK w_QUEEN w_KING w_ACE h0 n0 _ T27.heap _
                  rw [e27]
                  refine ⟨?_, N0, rfl⟩
                  show (some (.ref w_EIGHT) : Option Value) = some (.ref (rankF p1 w_TWO w_THREE w_FOUR w_FIVE w_SIX w_SEVEN w_EIGHT w_NINE w_TEN w_JACK w_QUEEN w_KING w_ACE))
                  rw [show (rankF p1 w_TWO w_THREE w_FOUR w_FIVE w_SIX w_SEVEN w_EIGHT w_NINE w_TEN w_JACK w_QUEEN w_KING w_ACE) = w_EIGHT from by unfold rankF; rw [if_neg hc1_2, if_neg hc10_6, if_neg hc19_10, if_neg hc28_14, if_neg hc37_18, if_neg hc46_22, if_pos hc56_26]]
              · have pre29 : ∀ t, Steps p.tables e below (s₁.setTop (mkF m 66 #[.val (.int p1)] [(.int (7 : Int32)), (.int p1)])) t → Steps p.tables e below (s₁.setTop (entryFrame m #[(.int p1)] 1)) t := by
                  intro t kt
                  refine pre25 t ?_
                  show Steps p.tables e below (s₁.setTop (mkF m 56 #[.val (.int p1)] [(.int (6 : Int32)), (.int p1)])) _
                  refine XS.icmpYes X0.here hx rfl (pc0 := 56) (pc' := 63) rfl (hb hby d2_56) rfl (feq hc56_26).2 (by decide) (by decide) ?_
                  show Steps p.tables e below (s₁.setTop (mkF m 63 #[.val (.int p1)] [])) _
                  refine XS.iloadN X0.here hx rfl (hb hby d2_63) rfl ?_
                  show Steps p.tables e below (s₁.setTop (mkF m 64 #[.val (.int p1)] [(.int p1)])) _
                  refine XS.bipush X0.here hx rfl (hb hby d2_64) ?_
                  show Steps p.tables e below (s₁.setTop (mkF m 66 #[.val (.int p1)] [(.int (7 : Int32)), (.int p1)])) _
                  exact kt
                by_cases hc66_30 : p1 = (7 : Int32)
                · obtain ⟨T31, X31, e31, st31⟩ := getS2 X0 hx hZ hown (host := "") (Or.inl (hw _ (List.mem_of_getElem? (i := 66) rfl))) Via.refl e0 S_NINE (g := (mkF m 69 #[.val (.int p1)] [])) rfl (hb hby d2_69)
                  obtain ⟨fs, hr, hrun, hended, hW, hsame⟩ := X31.leave (v := some (.ref w_NINE)) (fun h => by rw [Bd.returns] at h; cases h)
                  refine ⟨_, _, pre29 _ ?_, hrun, hended, _, _, rfl, ?_, ⟨_, rfl⟩, hW, hsame.mono (by decide) (by decide)⟩
                  · show Steps p.tables e below (s₁.setTop (mkF m 66 #[.val (.int p1)] [(.int (7 : Int32)), (.int p1)])) _
                    refine XS.icmpNo X0.here hx rfl (hb hby d2_66) rfl (teq hc66_30).2 ?_
                    show Steps p.tables e below (s₁.setTop (mkF m 69 #[.val (.int p1)] [])) _
                    refine st31 _ ?_
                    show Steps p.tables e below (T31.setTop (mkF m 72 #[.val (.int p1)] [(.ref w_NINE)])) _
                    exact retOut X31 hx Bd.returns rfl (Or.inr (Or.inr (Or.inr (Or.inr ⟨rfl, rfl, rfl⟩)))) (hb hby d2_72) hr
                  · show Q2 Z p1 w_TWO w_THREE w_FOUR w_FIVE w_SIX w_SEVEN w_EIGHT w_NINE w_TEN w_JACK w_QUEEN w_KING w_ACE h0 n0 _ T31.heap _
                    rw [e31]
                    refine ⟨?_, N0, rfl⟩
                    show (some (.ref w_NINE) : Option Value) = some (.ref (rankF p1 w_TWO w_THREE w_FOUR w_FIVE w_SIX w_SEVEN w_EIGHT w_NINE w_TEN w_JACK w_QUEEN w_KING w_ACE))
                    rw [show (rankF p1 w_TWO w_THREE w_FOUR w_FIVE w_SIX w_SEVEN w_EIGHT w_NINE w_TEN w_JACK w_QUEEN w_KING w_ACE) = w_NINE from by unfold rankF; rw [if_neg hc1_2, if_neg hc10_6, if_neg hc19_10, if_neg hc28_14, if_neg hc37_18, if_neg hc46_22, if_neg hc56_26, if_pos hc66_30]]
                · have pre33 : ∀ t, Steps p.tables e below (s₁.setTop (mkF m 76 #[.val (.int p1)] [(.int (8 : Int32)), (.int p1)])) t → Steps p.tables e below (s₁.setTop (entryFrame m #[(.int p1)] 1)) t := by
                    intro t kt
                    refine pre29 t ?_
                    show Steps p.tables e below (s₁.setTop (mkF m 66 #[.val (.int p1)] [(.int (7 : Int32)), (.int p1)])) _
                    refine XS.icmpYes X0.here hx rfl (pc0 := 66) (pc' := 73) rfl (hb hby d2_66) rfl (feq hc66_30).2 (by decide) (by decide) ?_
                    show Steps p.tables e below (s₁.setTop (mkF m 73 #[.val (.int p1)] [])) _
                    refine XS.iloadN X0.here hx rfl (hb hby d2_73) rfl ?_
                    show Steps p.tables e below (s₁.setTop (mkF m 74 #[.val (.int p1)] [(.int p1)])) _
                    refine XS.bipush X0.here hx rfl (hb hby d2_74) ?_
                    show Steps p.tables e below (s₁.setTop (mkF m 76 #[.val (.int p1)] [(.int (8 : Int32)), (.int p1)])) _
                    exact kt
                  by_cases hc76_34 : p1 = (8 : Int32)
                  · obtain ⟨T35, X35, e35, st35⟩ := getS2 X0 hx hZ hown (host := "") (Or.inl (hw _ (List.mem_of_getElem? (i := 70) rfl))) Via.refl e0 S_TEN (g := (mkF m 79 #[.val (.int p1)] [])) rfl (hb hby d2_79)
                    obtain ⟨fs, hr, hrun, hended, hW, hsame⟩ := X35.leave (v := some (.ref w_TEN)) (fun h => by rw [Bd.returns] at h; cases h)
                    refine ⟨_, _, pre33 _ ?_, hrun, hended, _, _, rfl, ?_, ⟨_, rfl⟩, hW, hsame.mono (by decide) (by decide)⟩
                    · show Steps p.tables e below (s₁.setTop (mkF m 76 #[.val (.int p1)] [(.int (8 : Int32)), (.int p1)])) _
                      refine XS.icmpNo X0.here hx rfl (hb hby d2_76) rfl (teq hc76_34).2 ?_
                      show Steps p.tables e below (s₁.setTop (mkF m 79 #[.val (.int p1)] [])) _
                      refine st35 _ ?_
                      show Steps p.tables e below (T35.setTop (mkF m 82 #[.val (.int p1)] [(.ref w_TEN)])) _
                      exact retOut X35 hx Bd.returns rfl (Or.inr (Or.inr (Or.inr (Or.inr ⟨rfl, rfl, rfl⟩)))) (hb hby d2_82) hr
                    · show Q2 Z p1 w_TWO w_THREE w_FOUR w_FIVE w_SIX w_SEVEN w_EIGHT w_NINE w_TEN w_JACK w_QUEEN w_KING w_ACE h0 n0 _ T35.heap _
                      rw [e35]
                      refine ⟨?_, N0, rfl⟩
                      show (some (.ref w_TEN) : Option Value) = some (.ref (rankF p1 w_TWO w_THREE w_FOUR w_FIVE w_SIX w_SEVEN w_EIGHT w_NINE w_TEN w_JACK w_QUEEN w_KING w_ACE))
                      rw [show (rankF p1 w_TWO w_THREE w_FOUR w_FIVE w_SIX w_SEVEN w_EIGHT w_NINE w_TEN w_JACK w_QUEEN w_KING w_ACE) = w_TEN from by unfold rankF; rw [if_neg hc1_2, if_neg hc10_6, if_neg hc19_10, if_neg hc28_14, if_neg hc37_18, if_neg hc46_22, if_neg hc56_26, if_neg hc66_30, if_pos hc76_34]]
                  · have pre37 : ∀ t, Steps p.tables e below (s₁.setTop (mkF m 86 #[.val (.int p1)] [(.int (9 : Int32)), (.int p1)])) t → Steps p.tables e below (s₁.setTop (entryFrame m #[(.int p1)] 1)) t := by
                      intro t kt
                      refine pre33 t ?_
                      show Steps p.tables e below (s₁.setTop (mkF m 76 #[.val (.int p1)] [(.int (8 : Int32)), (.int p1)])) _
                      refine XS.icmpYes X0.here hx rfl (pc0 := 76) (pc' := 83) rfl (hb hby d2_76) rfl (feq hc76_34).2 (by decide) (by decide) ?_
                      show Steps p.tables e below (s₁.setTop (mkF m 83 #[.val (.int p1)] [])) _
                      refine XS.iloadN X0.here hx rfl (hb hby d2_83) rfl ?_
                      show Steps p.tables e below (s₁.setTop (mkF m 84 #[.val (.int p1)] [(.int p1)])) _
                      refine XS.bipush X0.here hx rfl (hb hby d2_84) ?_
                      show Steps p.tables e below (s₁.setTop (mkF m 86 #[.val (.int p1)] [(.int (9 : Int32)), (.int p1)])) _
                      exact kt
                    by_cases hc86_38 : p1 = (9 : Int32)
                    · obtain ⟨T39, X39, e39, st39⟩ := getS2 X0 hx hZ hown (host := "") (Or.inl (hw _ (List.mem_of_getElem? (i := 68) rfl))) Via.refl e0 S_JACK (g := (mkF m 89 #[.val (.int p1)] [])) rfl (hb hby d2_89)
                      obtain ⟨fs, hr, hrun, hended, hW, hsame⟩ := X39.leave (v := some (.ref w_JACK)) (fun h => by rw [Bd.returns] at h; cases h)
                      refine ⟨_, _, pre37 _ ?_, hrun, hended, _, _, rfl, ?_, ⟨_, rfl⟩, hW, hsame.mono (by decide) (by decide)⟩
                      · show Steps p.tables e below (s₁.setTop (mkF m 86 #[.val (.int p1)] [(.int (9 : Int32)), (.int p1)])) _
                        refine XS.icmpNo X0.here hx rfl (hb hby d2_86) rfl (teq hc86_38).2 ?_
                        show Steps p.tables e below (s₁.setTop (mkF m 89 #[.val (.int p1)] [])) _
                        refine st39 _ ?_
                        show Steps p.tables e below (T39.setTop (mkF m 92 #[.val (.int p1)] [(.ref w_JACK)])) _
                        exact retOut X39 hx Bd.returns rfl (Or.inr (Or.inr (Or.inr (Or.inr ⟨rfl, rfl, rfl⟩)))) (hb hby d2_92) hr
                      · show Q2 Z p1 w_TWO w_THREE w_FOUR w_FIVE w_SIX w_SEVEN w_EIGHT w_NINE w_TEN w_JACK w_QUEEN w_KING w_ACE h0 n0 _ T39.heap _
                        rw [e39]
                        refine ⟨?_, N0, rfl⟩
                        show (some (.ref w_JACK) : Option Value) = some (.ref (rankF p1 w_TWO w_THREE w_FOUR w_FIVE w_SIX w_SEVEN w_EIGHT w_NINE w_TEN w_JACK w_QUEEN w_KING w_ACE))
                        rw [show (rankF p1 w_TWO w_THREE w_FOUR w_FIVE w_SIX w_SEVEN w_EIGHT w_NINE w_TEN w_JACK w_QUEEN w_KING w_ACE) = w_JACK from by unfold rankF; rw [if_neg hc1_2, if_neg hc10_6, if_neg hc19_10, if_neg hc28_14, if_neg hc37_18, if_neg hc46_22, if_neg hc56_26, if_neg hc66_30, if_neg hc76_34, if_pos hc86_38]]
                    · have pre41 : ∀ t, Steps p.tables e below (s₁.setTop (mkF m 96 #[.val (.int p1)] [(.int (10 : Int32)), (.int p1)])) t → Steps p.tables e below (s₁.setTop (entryFrame m #[(.int p1)] 1)) t := by
                        intro t kt
                        refine pre37 t ?_
                        show Steps p.tables e below (s₁.setTop (mkF m 86 #[.val (.int p1)] [(.int (9 : Int32)), (.int p1)])) _
                        refine XS.icmpYes X0.here hx rfl (pc0 := 86) (pc' := 93) rfl (hb hby d2_86) rfl (feq hc86_38).2 (by decide) (by decide) ?_
                        show Steps p.tables e below (s₁.setTop (mkF m 93 #[.val (.int p1)] [])) _
                        refine XS.iloadN X0.here hx rfl (hb hby d2_93) rfl ?_
                        show Steps p.tables e below (s₁.setTop (mkF m 94 #[.val (.int p1)] [(.int p1)])) _
                        refine XS.bipush X0.here hx rfl (hb hby d2_94) ?_
                        show Steps p.tables e below (s₁.setTop (mkF m 96 #[.val (.int p1)] [(.int (10 : Int32)), (.int p1)])) _
                        exact kt
                      by_cases hc96_42 : p1 = (10 : Int32)
                      · obtain ⟨T43, X43, e43, st43⟩ := getS2 X0 hx hZ hown (host := "") (Or.inl (hw _ (List.mem_of_getElem? (i := 60) rfl))) Via.refl e0 S_QUEEN (g := (mkF m 99 #[.val (.int p1)] [])) rfl (hb hby d2_99)
                        obtain ⟨fs, hr, hrun, hended, hW, hsame⟩ := X43.leave (v := some (.ref w_QUEEN)) (fun h => by rw [Bd.returns] at h; cases h)
                        refine ⟨_, _, pre41 _ ?_, hrun, hended, _, _, rfl, ?_, ⟨_, rfl⟩, hW, hsame.mono (by decide) (by decide)⟩
                        · show Steps p.tables e below (s₁.setTop (mkF m 96 #[.val (.int p1)] [(.int (10 : Int32)), (.int p1)])) _
                          refine XS.icmpNo X0.here hx rfl (hb hby d2_96) rfl (teq hc96_42).2 ?_
                          show Steps p.tables e below (s₁.setTop (mkF m 99 #[.val (.int p1)] [])) _
                          refine st43 _ ?_
                          show Steps p.tables e below (T43.setTop (mkF m 102 #[.val (.int p1)] [(.ref w_QUEEN)])) _
                          exact retOut X43 hx Bd.returns rfl (Or.inr (Or.inr (Or.inr (Or.inr ⟨rfl, rfl, rfl⟩)))) (hb hby d2_102) hr
                        · show Q2 Z p1 w_TWO w_THREE w_FOUR w_FIVE w_SIX w_SEVEN w_EIGHT w_NINE w_TEN w_JACK w_QUEEN w_KING w_ACE h0 n0 _ T43.heap _
                          rw [e43]
                          refine ⟨?_, N0, rfl⟩
                          show (some (.ref w_QUEEN) : Option Value) = some (.ref (rankF p1 w_TWO w_THREE w_FOUR w_FIVE w_SIX w_SEVEN w_EIGHT w_NINE w_TEN w_JACK w_QUEEN w_KING w_ACE))
                          rw [show (rankF p1 w_TWO w_THREE w_FOUR w_FIVE w_SIX w_SEVEN w_EIGHT w_NINE w_TEN w_JACK w_QUEEN w_KING w_ACE) = w_QUEEN from by unfold rankF; rw [if_neg hc1_2, if_neg hc10_6, if_neg hc19_10, if_neg hc28_14, if_neg hc37_18, if_neg hc46_22, if_neg hc56_26, if_neg hc66_30, if_neg hc76_34, if_neg hc86_38, if_pos hc96_42]]
                      · have pre45 : ∀ t, Steps p.tables e below (s₁.setTop (mkF m 106 #[.val (.int p1)] [(.int (11 : Int32)), (.int p1)])) t → Steps p.tables e below (s₁.setTop (entryFrame m #[(.int p1)] 1)) t := by
                          intro t kt
                          refine pre41 t ?_
                          show Steps p.tables e below (s₁.setTop (mkF m 96 #[.val (.int p1)] [(.int (10 : Int32)), (.int p1)])) _
                          refine XS.icmpYes X0.here hx rfl (pc0 := 96) (pc' := 103) rfl (hb hby d2_96) rfl (feq hc96_42).2 (by decide) (by decide) ?_
                          show Steps p.tables e below (s₁.setTop (mkF m 103 #[.val (.int p1)] [])) _
                          refine XS.iloadN X0.here hx rfl (hb hby d2_103) rfl ?_
                          show Steps p.tables e below (s₁.setTop (mkF m 104 #[.val (.int p1)] [(.int p1)])) _
                          refine XS.bipush X0.here hx rfl (hb hby d2_104) ?_
                          show Steps p.tables e below (s₁.setTop (mkF m 106 #[.val (.int p1)] [(.int (11 : Int32)), (.int p1)])) _
                          exact kt
                        by_cases hc106_46 : p1 = (11 : Int32)
                        · obtain ⟨T47, X47, e47, st47⟩ := getS2 X0 hx hZ hown (host := "") (Or.inl (hw _ (List.mem_of_getElem? (i := 103) rfl))) Via.refl e0 S_KING (g := (mkF m 109 #[.val (.int p1)] [])) rfl (hb hby d2_109)
                          obtain ⟨fs, hr, hrun, hended, hW, hsame⟩ := X47.leave (v := some (.ref w_KING)) (fun h => by rw [Bd.returns] at h; cases h)
                          refine ⟨_, _, pre45 _ ?_, hrun, hended, _, _, rfl, ?_, ⟨_, rfl⟩, hW, hsame.mono (by decide) (by decide)⟩
                          · show Steps p.tables e below (s₁.setTop (mkF m 106 #[.val (.int p1)] [(.int (11 : Int32)), (.int p1)])) _
                            refine XS.icmpNo X0.here hx rfl (hb hby d2_106) rfl (teq hc106_46).2 ?_
                            show Steps p.tables e below (s₁.setTop (mkF m 109 #[.val (.int p1)] [])) _
                            refine st47 _ ?_
                            show Steps p.tables e below (T47.setTop (mkF m 112 #[.val (.int p1)] [(.ref w_KING)])) _
                            exact retOut X47 hx Bd.returns rfl (Or.inr (Or.inr (Or.inr (Or.inr ⟨rfl, rfl, rfl⟩)))) (hb hby d2_112) hr
                          · show Q2 Z p1 w_TWO w_THREE w_FOUR w_FIVE w_SIX w_SEVEN w_EIGHT w_NINE w_TEN w_JACK w_QUEEN w_KING w_ACE h0 n0 _ T47.heap _
                            rw [e47]
                            refine ⟨?_, N0, rfl⟩
                            show (some (.ref w_KING) : Option Value) = some (.ref (rankF p1 w_TWO w_THREE w_FOUR w_FIVE w_SIX w_SEVEN w_EIGHT w_NINE w_TEN w_JACK w_QUEEN w_KING w_ACE))
                            rw [show (rankF p1 w_TWO w_THREE w_FOUR w_FIVE w_SIX w_SEVEN w_EIGHT w_NINE w_TEN w_JACK w_QUEEN w_KING w_ACE) = w_KING from by unfold rankF; rw [if_neg hc1_2, if_neg hc10_6, if_neg hc19_10, if_neg hc28_14, if_neg hc37_18, if_neg hc46_22, if_neg hc56_26, if_neg hc66_30, if_neg hc76_34, if_neg hc86_38, if_neg hc96_42, if_pos hc106_46]]
                        · obtain ⟨T49, X49, e49, st49⟩ := getS2 X0 hx hZ hown (host := "") (Or.inl (hw _ (List.mem_of_getElem? (i := 76) rfl))) Via.refl e0 S_ACE (g := (mkF m 113 #[.val (.int p1)] [])) rfl (hb hby d2_113)
                          obtain ⟨fs, hr, hrun, hended, hW, hsame⟩ := X49.leave (v := some (.ref w_ACE)) (fun h => by rw [Bd.returns] at h; cases h)
                          refine ⟨_, _, pre45 _ ?_, hrun, hended, _, _, rfl, ?_, ⟨_, rfl⟩, hW, hsame.mono (by decide) (by decide)⟩
                          · show Steps p.tables e below (s₁.setTop (mkF m 106 #[.val (.int p1)] [(.int (11 : Int32)), (.int p1)])) _
                            refine XS.icmpYes X0.here hx rfl (pc0 := 106) (pc' := 113) rfl (hb hby d2_106) rfl (feq hc106_46).2 (by decide) (by decide) ?_
                            show Steps p.tables e below (s₁.setTop (mkF m 113 #[.val (.int p1)] [])) _
                            refine st49 _ ?_
                            show Steps p.tables e below (T49.setTop (mkF m 116 #[.val (.int p1)] [(.ref w_ACE)])) _
                            exact retOut X49 hx Bd.returns rfl (Or.inr (Or.inr (Or.inr (Or.inr ⟨rfl, rfl, rfl⟩)))) (hb hby d2_116) hr
                          · show Q2 Z p1 w_TWO w_THREE w_FOUR w_FIVE w_SIX w_SEVEN w_EIGHT w_NINE w_TEN w_JACK w_QUEEN w_KING w_ACE h0 n0 _ T49.heap _
                            rw [e49]
                            refine ⟨?_, N0, rfl⟩
                            show (some (.ref w_ACE) : Option Value) = some (.ref (rankF p1 w_TWO w_THREE w_FOUR w_FIVE w_SIX w_SEVEN w_EIGHT w_NINE w_TEN w_JACK w_QUEEN w_KING w_ACE))
                            rw [show (rankF p1 w_TWO w_THREE w_FOUR w_FIVE w_SIX w_SEVEN w_EIGHT w_NINE w_TEN w_JACK w_QUEEN w_KING w_ACE) = w_ACE from by unfold rankF; rw [if_neg hc1_2, if_neg hc10_6, if_neg hc19_10, if_neg hc28_14, if_neg hc37_18, if_neg hc46_22, if_neg hc56_26, if_neg hc66_30, if_neg hc76_34, if_neg hc86_38, if_neg hc96_42, if_neg hc106_46]]
theorem own_suit {w_SPADES w_HEARTS w_DIAMONDS w_CLUBS : Addr} (P : Int32 → Addr → Prop) (q0 : P 0 w_SPADES) (q1 : P 1 w_HEARTS) (q2 : P 2 w_DIAMONDS) (q3 : P 3 w_CLUBS) (i : Int32) (h1 : ¬ i < 0) (h2 : i < 4) : P i (suitF i w_SPADES w_HEARTS w_DIAMONDS w_CLUBS) := by
  rw [Int32.lt_iff_toInt_lt] at h1 h2
  have z0 : (0 : Int32).toInt = 0 := rfl
  have zk : (4 : Int32).toInt = 4 := rfl
  rw [z0] at h1
  rw [zk] at h2
  have hi : i = (0 : Int32) ∨ i = (1 : Int32) ∨ i = (2 : Int32) ∨ i = (3 : Int32) := by
    have key : ∀ k : Int32, (i = k) ↔ i.toInt = k.toInt := fun k => Int32.toInt_inj.symm
    simp only [key]
    rw [show (0 : Int32).toInt = 0 from rfl]
    rw [show (1 : Int32).toInt = 1 from rfl]
    rw [show (2 : Int32).toInt = 2 from rfl]
    rw [show (3 : Int32).toInt = 3 from rfl]
    omega
  rcases hi with rfl | rfl | rfl | rfl
  · exact q0
  · exact q1
  · exact q2
  · exact q3
theorem own_rank {w_TWO w_THREE w_FOUR w_FIVE w_SIX w_SEVEN w_EIGHT w_NINE w_TEN w_JACK w_QUEEN w_KING w_ACE : Addr} (P : Int32 → Addr → Prop) (q0 : P 0 w_TWO) (q1 : P 1 w_THREE) (q2 : P 2 w_FOUR) (q3 : P 3 w_FIVE) (q4 : P 4 w_SIX) (q5 : P 5 w_SEVEN) (q6 : P 6 w_EIGHT) (q7 : P 7 w_NINE) (q8 : P 8 w_TEN) (q9 : P 9 w_JACK) (q10 : P 10 w_QUEEN) (q11 : P 11 w_KING) (q12 : P 12 w_ACE) (i : Int32) (h1 : ¬ i < 0) (h2 : i < 13) : P i (rankF i w_TWO w_THREE w_FOUR w_FIVE w_SIX w_SEVEN w_EIGHT w_NINE w_TEN w_JACK w_QUEEN w_KING w_ACE) := by
  rw [Int32.lt_iff_toInt_lt] at h1 h2
  have z0 : (0 : Int32).toInt = 0 := rfl
  have zk : (13 : Int32).toInt = 13 := rfl
  rw [z0] at h1
  rw [zk] at h2
  have hi : i = (0 : Int32) ∨ i = (1 : Int32) ∨ i = (2 : Int32) ∨ i = (3 : Int32) ∨ i = (4 : Int32) ∨ i = (5 : Int32) ∨ i = (6 : Int32) ∨ i = (7 : Int32) ∨ i = (8 : Int32) ∨ i = (9 : Int32) ∨ i = (10 : Int32) ∨ i = (11 : Int32) ∨ i = (12 : Int32) := by
    have key : ∀ k : Int32, (i = k) ↔ i.toInt = k.toInt := fun k => Int32.toInt_inj.symm
    simp only [key]
    rw [show (0 : Int32).toInt = 0 from rfl]
    rw [show (1 : Int32).toInt = 1 from rfl]
    rw [show (2 : Int32).toInt = 2 from rfl]
    rw [show (3 : Int32).toInt = 3 from rfl]
    rw [show (4 : Int32).toInt = 4 from rfl]
    rw [show (5 : Int32).toInt = 5 from rfl]
    rw [show (6 : Int32).toInt = 6 from rfl]
    rw [show (7 : Int32).toInt = 7 from rfl]
    rw [show (8 : Int32).toInt = 8 from rfl]
    rw [show (9 : Int32).toInt = 9 from rfl]
    rw [show (10 : Int32).toInt = 10 from rfl]
    rw [show (11 : Int32).toInt = 11 from rfl]
    rw [show (12 : Int32).toInt = 12 from rfl]
    omega
  rcases hi with rfl | rfl | rfl | rfl | rfl | rfl | rfl | rfl | rfl | rfl | rfl | rfl | rfl
  · exact q0
  · exact q1
  · exact q2
  · exact q3
  · exact q4
  · exact q5
  · exact q6
  · exact q7
  · exact q8
  · exact q9
  · exact q10
  · exact q11
  · exact q12
theorem d4_0 : decode jdk_31_method_11_code 0 = .ok (.aload_n 0, 1) := by decide +kernel
theorem d4_1 : decode jdk_31_method_11_code 1 = .ok (.ifnonnull 12, 3) := by decide +kernel
theorem d4_13 : decode jdk_31_method_11_code 13 = .ok (.aload_n 0, 1) := by decide +kernel
theorem d4_14 : decode jdk_31_method_11_code 14 = .ok (.areturn, 1) := by decide +kernel
theorem pn_1 : plainName "java/util/Objects" = true := by first | (simp [plainName, overriddenIn]; done) | decide +kernel
theorem ef_rm4 (m : MethodId) (x0 : Addr) (x1 : Addr) : entryFrame m #[(.ref x0), (.ref x1)] 2 = mkF m 0 #[.val (.ref x0), .val (.ref x1)] [] := by first | (simp [entryFrame, mkF, argsToLocals, Value.category]; done) | rfl
def Q4 (Z : State) (pa : Addr) (pb : Addr) (h0 : Heap) (n0 : Nat) (v : Option Value) (h : Heap) (L : List Loc) : Prop := v = some (.ref pa) ∧ Fr n0 L ∧ h = h0
set_option maxRecDepth 65536 in
set_option maxHeartbeats 40000000 in
theorem rm4 (l : Launch) (Z : State) (a0 : Array Value) (hw : ∀ d ∈ tables_1, d.before a0 Z = true) (ws : List Jvm.Cond) (pa : Addr) (pb : Addr) (h0 : Heap) (n0 : Nat) (Z0 : n0 ≤ h0.size) :
    MetFree l (⟨"java/util/Objects", "requireNonNull", "(Ljava/lang/Object;Ljava/lang/String;)Ljava/lang/Object;"⟩ : MethodName) (head1 (Jvm.Cond.code (⟨"java/util/Objects", "requireNonNull", "(Ljava/lang/Object;Ljava/lang/String;)Ljava/lang/Object;"⟩ : MethodName) jdk_31_method_11_code 2 (some (.object "java/lang/Object")) :: ws) ({ frames := 0, cells := 0, slots := 0, locals := 0 } : Room)) (fun a U => a = #[(.ref pa), (.ref pb)] ∧ Z.Warmed39 U.vm ∧ U.heap = h0) (fun _ _ _ _ _ => True) (fun _ U o U' => ∃ v L, o = .returned v ∧ Q4 Z pa pb h0 n0 v U'.heap L ∧ FrameEnd U o U' L ({ frames := 0, cells := 0, slots := 0, locals := 0 } : Room).cells ({ frames := 0, cells := 0, slots := 0, locals := 0 } : Room).slots) := by
  refine MetFree.of_bodySF (plainFor_of_name pn_1) hisR ?_
  intro p e s m args below meth c s₁ Bd hml0 hP hK
  obtain ⟨rfl, hZ, hh⟩ := hP
  have hx := Bd.exec
  have hby := Bd.bytes
  have hml : c.maxLocals = 2 := hml0
  have hown : s.vm.findClass "java/util/Objects" = some m.cls := findClass_of_methodNamed Bd.named
  have hnm := (name_of_methodNamed Bd.named Bd.method).1
  have X0 : Stand p l e ({ frames := 0, cells := 0, slots := 0, locals := 0 } : Room) s m #[(.ref pa), (.ref pb)] below meth c s₁ [] 0 0 := Stand.of_body Bd
  have e0 : s₁.heap = h0 := by rw [← hh, Bd.state]; rfl
  have N0 := Fr.nil n0
  have pre0 : ∀ t, Steps p.tables e below (s₁.setTop (mkF m 0 #[.val (.ref pa), .val (.ref pb)] [])) t → Steps p.tables e below (s₁.setTop (entryFrame m #[(.ref pa), (.ref pb)] 2)) t := fun t k => castTop (ef_rm4 m pa pb) k
  obtain ⟨fs, hr, hrun, hended, hW, hsame⟩ := X0.leave (v := some (.ref pa)) (fun h => by rw [Bd.returns] at h; cases h)
  refine ⟨_, _, pre0 _ ?_, hrun, hended, _, _, rfl, ?_, ⟨_, rfl⟩, hW, hsame.mono (by decide) (by decide)⟩
  · show Steps p.tables e below (s₁.setTop (mkF m 0 #[.val (.ref pa), .val (.ref pb)] [])) _
    refine XS.aloadN X0.here hx rfl (hb hby d4_0) rfl rfl ?_
    show Steps p.tables e below (s₁.setTop (mkF m 1 #[.val (.ref pa), .val (.ref pb)] [(.ref pa)])) _
    refine XS.ifnonnullYes X0.here hx rfl (pc0 := 1) (pc' := 13) rfl (hb hby d4_1) rfl (by decide) (by decide) ?_
    show Steps p.tables e below (s₁.setTop (mkF m 13 #[.val (.ref pa), .val (.ref pb)] [])) _
    refine XS.aloadN X0.here hx rfl (hb hby d4_13) rfl rfl ?_
    show Steps p.tables e below (s₁.setTop (mkF m 14 #[.val (.ref pa), .val (.ref pb)] [(.ref pa)])) _
    exact retOut X0 hx Bd.returns rfl (Or.inr (Or.inr (Or.inr (Or.inr ⟨rfl, rfl, rfl⟩)))) (hb hby d4_14) hr
  · show Q4 Z pa pb h0 n0 _ s₁.heap _
    rw [e0]
    exact ⟨rfl, N0, rfl⟩
theorem d5_0 : decode prog_23_method_2_code 0 = .ok (.aload_n 0, 1) := by decide +kernel
theorem d5_1 : decode prog_23_method_2_code 1 = .ok (.invokespecial 21, 3) := by decide +kernel
theorem d5_4 : decode prog_23_method_2_code 4 = .ok (.aload_n 0, 1) := by decide +kernel
theorem d5_5 : decode prog_23_method_2_code 5 = .ok (.aload_n 1, 1) := by decide +kernel
theorem d5_6 : decode prog_23_method_2_code 6 = .ok (.putfield 26, 3) := by decide +kernel
theorem d5_9 : decode prog_23_method_2_code 9 = .ok (.aload_n 0, 1) := by decide +kernel
theorem d5_10 : decode prog_23_method_2_code 10 = .ok (.aload_n 2, 1) := by decide +kernel
theorem d5_11 : decode prog_23_method_2_code 11 = .ok (.putfield 29, 3) := by decide +kernel
theorem d5_14 : decode prog_23_method_2_code 14 = .ok (.aload_n 0, 1) := by decide +kernel
theorem d5_15 : decode prog_23_method_2_code 15 = .ok (.aload_n 3, 1) := by decide +kernel
theorem d5_16 : decode prog_23_method_2_code 16 = .ok (.putfield 32, 3) := by decide +kernel
theorem d5_19 : decode prog_23_method_2_code 19 = .ok (.return_, 1) := by decide +kernel
theorem pn_2 : plainName "com/example/ruffwork/ruffwork/Card" = true := by first | (simp [plainName, overriddenIn]; done) | decide +kernel
theorem ef_rm5 (m : MethodId) (x0 : Addr) (x1 : Addr) (x2 : Addr) : entryFrame m #[(.ref x0), (.ref x1), (.ref x2), .null] 4 = mkF m 0 #[.val (.ref x0), .val (.ref x1), .val (.ref x2), .val .null] [] := by first | (simp [entryFrame, mkF, argsToLocals, Value.category]; done) | rfl
def Q5 (Z : State) (ob : Addr) (ps : Addr) (pr : Addr) (h0 : Heap) (n0 : Nat) (v : Option Value) (h : Heap) (L : List Loc) : Prop := v = none ∧ Fr n0 L ∧ Keep h0 h [ob] ∧ Exa Z h ob "com/example/ruffwork/ruffwork/Card" ∧ Fld Z h ob "com/example/ruffwork/ruffwork/Card" "suit" "Lcom/example/ruffwork/ruffwork/Suit;" (.ref ps) ∧ Fld Z h ob "com/example/ruffwork/ruffwork/Card" "rank" "Lcom/example/ruffwork/ruffwork/Rank;" (.ref pr) ∧ Fld Z h ob "com/example/ruffwork/ruffwork/Card" "joker" "Lcom/example/ruffwork/ruffwork/Joker;" .null
set_option maxRecDepth 65536 in
set_option maxHeartbeats 40000000 in
theorem rm5 (l : Launch) (Z : State) (a0 : Array Value) (hw : ∀ d ∈ tables_1, d.before a0 Z = true) (ws : List Jvm.Cond) (ob : Addr) (ps : Addr) (pr : Addr) (h0 : Heap) (n0 : Nat) (Z0 : n0 ≤ h0.size) (E_ob : Exa Z h0 ob "com/example/ruffwork/ruffwork/Card") (g_ob : n0 ≤ ob) (F_suit : Fld Z h0 ob "com/example/ruffwork/ruffwork/Card" "suit" "Lcom/example/ruffwork/ruffwork/Suit;" .null) (F_rank : Fld Z h0 ob "com/example/ruffwork/ruffwork/Card" "rank" "Lcom/example/ruffwork/ruffwork/Rank;" .null) (F_joker : Fld Z h0 ob "com/example/ruffwork/ruffwork/Card" "joker" "Lcom/example/ruffwork/ruffwork/Joker;" .null) :
    MetFree l (⟨"com/example/ruffwork/ruffwork/Card", "<init>", "(Lcom/example/ruffwork/ruffwork/Suit;Lcom/example/ruffwork/ruffwork/Rank;Lcom/example/ruffwork/ruffwork/Joker;)V"⟩ : MethodName) (head1 (Jvm.Cond.code (⟨"com/example/ruffwork/ruffwork/Card", "<init>", "(Lcom/example/ruffwork/ruffwork/Suit;Lcom/example/ruffwork/ruffwork/Rank;Lcom/example/ruffwork/ruffwork/Joker;)V"⟩ : MethodName) prog_23_method_2_code 4 none :: ws) ({ frames := 1, cells := 0, slots := 0, locals := 12 } : Room)) (fun a U => a = #[(.ref ob), (.ref ps), (.ref pr), .null] ∧ Z.Warmed39 U.vm ∧ U.heap = h0) (fun _ _ _ _ _ => True) (fun _ U o U' => ∃ v L, o = .returned v ∧ Q5 Z ob ps pr h0 n0 v U'.heap L ∧ FrameEnd U o U' L ({ frames := 1, cells := 0, slots := 0, locals := 12 } : Room).cells ({ frames := 1, cells := 0, slots := 0, locals := 12 } : Room).slots) := by
  refine MetFree.of_bodySF (plainFor_of_name pn_2) hisR ?_
  intro p e s m args below meth c s₁ Bd hml0 hP hK
  obtain ⟨rfl, hZ, hh⟩ := hP
  have hx := Bd.exec
  have hby := Bd.bytes
  have hml : c.maxLocals = 4 := hml0
  have hown : s.vm.findClass "com/example/ruffwork/ruffwork/Card" = some m.cls := findClass_of_methodNamed Bd.named
  have hnm := (name_of_methodNamed Bd.named Bd.method).1
  have X0 : Stand p l e ({ frames := 1, cells := 0, slots := 0, locals := 12 } : Room) s m #[(.ref ob), (.ref ps), (.ref pr), .null] below meth c s₁ [] 0 0 := Stand.of_body Bd
  have e0 : s₁.heap = h0 := by rw [← hh, Bd.state]; rfl
  have N0 := Fr.nil n0
  have pre0 : ∀ t, Steps p.tables e below (s₁.setTop (mkF m 0 #[.val (.ref ob), .val (.ref ps), .val (.ref pr), .val .null] [])) t → Steps p.tables e below (s₁.setTop (entryFrame m #[(.ref ob), (.ref ps), (.ref pr), .null] 4)) t := fun t k => castTop (ef_rm5 m ob ps pr) k
  obtain ⟨T1, X1, e1, st1⟩ := initO X0 hx hZ hown (hw _ (List.mem_of_getElem? (i := 40) rfl)) (hw _ (List.mem_of_getElem? (i := 41) rfl)) (hw _ (List.mem_of_getElem? (i := 42) rfl)) e0 (g := (mkF m 1 #[.val (.ref ob), .val (.ref ps), .val (.ref pr), .val .null] [(.ref ob)])) rfl (by rw [hml]; rfl) rfl (hb hby d5_1) (by decide) (W := 0) (by show 2 * 0 + _ ≤ _; exact Nat.le_of_eq rfl) (by decide)
  obtain ⟨T2, h2, X2, e2, W2, st2⟩ := putF X1 hx hZ hown (host := "") (Or.inl (hw _ (List.mem_of_getElem? (i := 43) rfl))) Via.refl e1 F_suit E_ob (Or.inr ⟨(hw _ (List.mem_of_getElem? (i := 44) rfl)), rfl, hnm⟩) (hw _ (List.mem_of_getElem? (i := 2) rfl)) (ty := (.object "com/example/ruffwork/ruffwork/Suit")) (by decide) rfl rfl (g := (mkF m 6 #[.val (.ref ob), .val (.ref ps), .val (.ref pr), .val .null] [(.ref ps), (.ref ob)])) rfl rfl (hb hby d5_6)
  have Kc2 : Keep h0 h2 [ob] := (Keep.refl h0 [ob]).wr W2 (Or.inl (List.mem_of_getElem? (i := 0) rfl))
  have N2 := Fr.snoc X2 N0 g_ob
  have Fw2 : Fld Z h2 ob "com/example/ruffwork/ruffwork/Card" "suit" "Lcom/example/ruffwork/ruffwork/Suit;" (.ref ps) := F_suit.same W2
  obtain ⟨T3, h3, X3, e3, W3, st3⟩ := putF X2 hx hZ hown (host := "") (Or.inl (hw _ (List.mem_of_getElem? (i := 45) rfl))) Via.refl e2 (F_rank.other W2 (Or.inr (slot_ne (Or.inr (hw _ (List.mem_of_getElem? (i := 46) rfl))) (Or.inr (hw _ (List.mem_of_getElem? (i := 44) rfl))) (by decide) (t := (.object "com/example/ruffwork/ruffwork/Rank")) (t' := (.object "com/example/ruffwork/ruffwork/Suit")) (by decide) (by decide)))) (E_ob.wr W2) (Or.inr ⟨(hw _ (List.mem_of_getElem? (i := 46) rfl)), rfl, hnm⟩) (hw _ (List.mem_of_getElem? (i := 2) rfl)) (ty := (.object "com/example/ruffwork/ruffwork/Rank")) (by decide) rfl rfl (g := (mkF m 11 #[.val (.ref ob), .val (.ref ps), .val (.ref pr), .val .null] [(.ref pr), (.ref ob)])) rfl rfl (hb hby d5_11)
  have Kc3 : Keep h0 h3 [ob] := Kc2.wr W3 (Or.inl (List.mem_of_getElem? (i := 0) rfl))
  have N3 := Fr.snoc X3 N2 g_ob
  have Fw3 : Fld Z h3 ob "com/example/ruffwork/ruffwork/Card" "rank" "Lcom/example/ruffwork/ruffwork/Rank;" (.ref pr) := (F_rank.other W2 (Or.inr (slot_ne (Or.inr (hw _ (List.mem_of_getElem? (i := 46) rfl))) (Or.inr (hw _ (List.mem_of_getElem? (i := 44) rfl))) (by decide) (t := (.object "com/example/ruffwork/ruffwork/Rank")) (t' := (.object "com/example/ruffwork/ruffwork/Suit")) (by decide) (by decide)))).same W3
  obtain ⟨T4, h4, X4, e4, W4, st4⟩ := putF X3 hx hZ hown (host := "") (Or.inl (hw _ (List.mem_of_getElem? (i := 47) rfl))) Via.refl e3 ((F_joker.other W2 (Or.inr (slot_ne (Or.inr (hw _ (List.mem_of_getElem? (i := 48) rfl))) (Or.inr (hw _ (List.mem_of_getElem? (i := 44) rfl))) (by decide) (t := (.object "com/example/ruffwork/ruffwork/Joker")) (t' := (.object "com/example/ruffwork/ruffwork/Suit")) (by decide) (by decide)))).other W3 (Or.inr (slot_ne (Or.inr (hw _ (List.mem_of_getElem? (i := 48) rfl))) (Or.inr (hw _ (List.mem_of_getElem? (i := 46) rfl))) (by decide) (t := (.object "com/example/ruffwork/ruffwork/Joker")) (t' := (.object "com/example/ruffwork/ruffwork/Rank")) (by decide) (by decide)))) ((E_ob.wr W2).wr W3) (Or.inr ⟨(hw _ (List.mem_of_getElem? (i := 48) rfl)), rfl, hnm⟩) (hw _ (List.mem_of_getElem? (i := 2) rfl)) (ty := (.object "com/example/ruffwork/ruffwork/Joker")) (by decide) rfl rfl (g := (mkF m 16 #[.val (.ref ob), .val (.ref ps), .val (.ref pr), .val .null] [.null, (.ref ob)])) rfl rfl (hb hby d5_16)
  have Kc4 : Keep h0 h4 [ob] := Kc3.wr W4 (Or.inl (List.mem_of_getElem? (i := 0) rfl))
  have N4 := Fr.snoc X4 N3 g_ob
  have Fw4 : Fld Z h4 ob "com/example/ruffwork/ruffwork/Card" "joker" "Lcom/example/ruffwork/ruffwork/Joker;" .null := ((F_joker.other W2 (Or.inr (slot_ne (Or.inr (hw _ (List.mem_of_getElem? (i := 48) rfl))) (Or.inr (hw _ (List.mem_of_getElem? (i := 44) rfl))) (by decide) (t := (.object "com/example/ruffwork/ruffwork/Joker")) (t' := (.object "com/example/ruffwork/ruffwork/Suit")) (by decide) (by decide)))).other W3 (Or.inr (slot_ne (Or.inr (hw _ (List.mem_of_getElem? (i := 48) rfl))) (Or.inr (hw _ (List.mem_of_getElem? (i := 46) rfl))) (by decide) (t := (.object "com/example/ruffwork/ruffwork/Joker")) (t' := (.object "com/example/ruffwork/ruffwork/Rank")) (by decide) (by decide)))).same W4
  obtain ⟨fs, hr, hrun, hended, hW, hsame⟩ := X4.leave (v := none) (fun _ => rfl)
  refine ⟨_, _, pre0 _ ?_, hrun, hended, _, _, rfl, ?_, ⟨_, rfl⟩, hW, hsame.mono (by decide) (by decide)⟩
  · show Steps p.tables e below (s₁.setTop (mkF m 0 #[.val (.ref ob), .val (.ref ps), .val (.ref pr), .val .null] [])) _
    refine XS.aloadN X0.here hx rfl (hb hby d5_0) rfl rfl ?_
    show Steps p.tables e below (s₁.setTop (mkF m 1 #[.val (.ref ob), .val (.ref ps), .val (.ref pr), .val .null] [(.ref ob)])) _
    refine st1 _ ?_
    show Steps p.tables e below (T1.setTop (mkF m 4 #[.val (.ref ob), .val (.ref ps), .val (.ref pr), .val .null] [])) _
    refine XS.aloadN X1.here hx rfl (hb hby d5_4) rfl rfl ?_
    show Steps p.tables e below (T1.setTop (mkF m 5 #[.val (.ref ob), .val (.ref ps), .val (.ref pr), .val .null] [(.ref ob)])) _
    refine XS.aloadN X1.here hx rfl (hb hby d5_5) rfl rfl ?_
    show Steps p.tables e below (T1.setTop (mkF m 6 #[.val (.ref ob), .val (.ref ps), .val (.ref pr), .val .null] [(.ref ps), (.ref ob)])) _
    refine st2 _ ?_
    show Steps p.tables e below (T2.setTop (mkF m 9 #[.val (.ref ob), .val (.ref ps), .val (.ref pr), .val .null] [])) _
    refine XS.aloadN X2.here hx rfl (hb hby d5_9) rfl rfl ?_
    show Steps p.tables e below (T2.setTop (mkF m 10 #[.val (.ref ob), .val (.ref ps), .val (.ref pr), .val .null] [(.ref ob)])) _
    refine XS.aloadN X2.here hx rfl (hb hby d5_10) rfl rfl ?_
    show Steps p.tables e below (T2.setTop (mkF m 11 #[.val (.ref ob), .val (.ref ps), .val (.ref pr), .val .null] [(.ref pr), (.ref ob)])) _
    refine st3 _ ?_
    show Steps p.tables e below (T3.setTop (mkF m 14 #[.val (.ref ob), .val (.ref ps), .val (.ref pr), .val .null] [])) _
    refine XS.aloadN X3.here hx rfl (hb hby d5_14) rfl rfl ?_
    show Steps p.tables e below (T3.setTop (mkF m 15 #[.val (.ref ob), .val (.ref ps), .val (.ref pr), .val .null] [(.ref ob)])) _
    refine XS.aloadN X3.here hx rfl (hb hby d5_15) rfl rfl ?_
    show Steps p.tables e below (T3.setTop (mkF m 16 #[.val (.ref ob), .val (.ref ps), .val (.ref pr), .val .null] [.null, (.ref ob)])) _
    refine st4 _ ?_
    show Steps p.tables e below (T4.setTop (mkF m 19 #[.val (.ref ob), .val (.ref ps), .val (.ref pr), .val .null] [])) _
    exact X4.returnOut hx Bd.returns (hb hby d5_19) hr
  · show Q5 Z ob ps pr h0 n0 _ T4.heap _
    rw [e4]
    exact ⟨rfl, N4, Kc4, (((E_ob.wr W2).wr W3).wr W4), ((Fw2.other W3 (Or.inr (slot_ne (Or.inr (hw _ (List.mem_of_getElem? (i := 44) rfl))) (Or.inr (hw _ (List.mem_of_getElem? (i := 46) rfl))) (by decide) (t := (.object "com/example/ruffwork/ruffwork/Suit")) (t' := (.object "com/example/ruffwork/ruffwork/Rank")) (by decide) (by decide)))).other W4 (Or.inr (slot_ne (Or.inr (hw _ (List.mem_of_getElem? (i := 44) rfl))) (Or.inr (hw _ (List.mem_of_getElem? (i := 48) rfl))) (by decide) (t := (.object "com/example/ruffwork/ruffwork/Suit")) (t' := (.object "com/example/ruffwork/ruffwork/Joker")) (by decide) (by decide)))), (Fw3.other W4 (Or.inr (slot_ne (Or.inr (hw _ (List.mem_of_getElem? (i := 46) rfl))) (Or.inr (hw _ (List.mem_of_getElem? (i := 48) rfl))) (by decide) (t := (.object "com/example/ruffwork/ruffwork/Rank")) (t' := (.object "com/example/ruffwork/ruffwork/Joker")) (by decide) (by decide)))), Fw4⟩
theorem d3_0 : decode prog_23_method_1_code 0 = .ok (.aload_n 0, 1) := by decide +kernel
theorem d3_1 : decode prog_23_method_1_code 1 = .ok (.aload_n 1, 1) := by decide +kernel
theorem d3_2 : decode prog_23_method_1_code 2 = .ok (.ldc 1, 2) := by decide +kernel
theorem d3_4 : decode prog_23_method_1_code 4 = .ok (.invokestatic 3, 3) := by decide +kernel
theorem pd_0 : parseMethodDescriptor "(Ljava/lang/Object;Ljava/lang/String;)Ljava/lang/Object;" = some ⟨[(.object "java/lang/Object"), (.object "java/lang/String")], some (.object "java/lang/Object")⟩ := by decide +kernel
theorem d3_7 : decode prog_23_method_1_code 7 = .ok (.checkcast 9, 3) := by decide +kernel
theorem d3_10 : decode prog_23_method_1_code 10 = .ok (.aload_n 2, 1) := by decide +kernel
theorem d3_11 : decode prog_23_method_1_code 11 = .ok (.ldc 11, 2) := by decide +kernel
theorem d3_13 : decode prog_23_method_1_code 13 = .ok (.invokestatic 3, 3) := by decide +kernel
theorem d3_16 : decode prog_23_method_1_code 16 = .ok (.checkcast 13, 3) := by decide +kernel
theorem d3_19 : decode prog_23_method_1_code 19 = .ok (.aconst_null, 1) := by decide +kernel
theorem d3_20 : decode prog_23_method_1_code 20 = .ok (.invokespecial 15, 3) := by decide +kernel
theorem pd_1 : parseMethodDescriptor "(Lcom/example/ruffwork/ruffwork/Suit;Lcom/example/ruffwork/ruffwork/Rank;Lcom/example/ruffwork/ruffwork/Joker;)V" = some ⟨[(.object "com/example/ruffwork/ruffwork/Suit"), (.object "com/example/ruffwork/ruffwork/Rank"), (.object "com/example/ruffwork/ruffwork/Joker")], none⟩ := by decide +kernel
theorem d3_23 : decode prog_23_method_1_code 23 = .ok (.return_, 1) := by decide +kernel
theorem ef_rm3 (m : MethodId) (x0 : Addr) (x1 : Addr) (x2 : Addr) : entryFrame m #[(.ref x0), (.ref x1), (.ref x2)] 3 = mkF m 0 #[.val (.ref x0), .val (.ref x1), .val (.ref x2)] [] := by first | (simp [entryFrame, mkF, argsToLocals, Value.category]; done) | rfl
def Q3 (Z : State) (ob : Addr) (ps : Addr) (pr : Addr) (h0 : Heap) (n0 : Nat) (v : Option Value) (h : Heap) (L : List Loc) : Prop := v = none ∧ Fr n0 L ∧ Keep h0 h [ob] ∧ Exa Z h ob "com/example/ruffwork/ruffwork/Card" ∧ Fld Z h ob "com/example/ruffwork/ruffwork/Card" "suit" "Lcom/example/ruffwork/ruffwork/Suit;" (.ref ps) ∧ Fld Z h ob "com/example/ruffwork/ruffwork/Card" "rank" "Lcom/example/ruffwork/ruffwork/Rank;" (.ref pr) ∧ Fld Z h ob "com/example/ruffwork/ruffwork/Card" "joker" "Lcom/example/ruffwork/ruffwork/Joker;" .null
set_option maxRecDepth 65536 in
set_option maxHeartbeats 40000000 in
theorem rm3 (l : Launch) (Z : State) (a0 : Array Value) (hw : ∀ d ∈ tables_1, d.before a0 Z = true) (ws : List Jvm.Cond) (ob : Addr) (ps : Addr) (pr : Addr) (h0 : Heap) (n0 : Nat) (Z0 : n0 ≤ h0.size) (E_ob : Exa Z h0 ob "com/example/ruffwork/ruffwork/Card") (g_ob : n0 ≤ ob) (F_suit : Fld Z h0 ob "com/example/ruffwork/ruffwork/Card" "suit" "Lcom/example/ruffwork/ruffwork/Suit;" .null) (F_rank : Fld Z h0 ob "com/example/ruffwork/ruffwork/Card" "rank" "Lcom/example/ruffwork/ruffwork/Rank;" .null) (F_joker : Fld Z h0 ob "com/example/ruffwork/ruffwork/Card" "joker" "Lcom/example/ruffwork/ruffwork/Joker;" .null) (E_ps : Exa Z h0 ps "com/example/ruffwork/ruffwork/Suit") (E_pr : Exa Z h0 pr "com/example/ruffwork/ruffwork/Rank") :
    MetFree l (⟨"com/example/ruffwork/ruffwork/Card", "<init>", "(Lcom/example/ruffwork/ruffwork/Suit;Lcom/example/ruffwork/ruffwork/Rank;)V"⟩ : MethodName) (head1 (Jvm.Cond.code (⟨"com/example/ruffwork/ruffwork/Card", "<init>", "(Lcom/example/ruffwork/ruffwork/Suit;Lcom/example/ruffwork/ruffwork/Rank;)V"⟩ : MethodName) prog_23_method_1_code 3 none :: ws) ({ frames := 2, cells := 4, slots := 40, locals := 27 } : Room)) (fun a U => a = #[(.ref ob), (.ref ps), (.ref pr)] ∧ Z.Warmed39 U.vm ∧ U.heap = h0) (fun _ _ _ _ _ => True) (fun _ U o U' => ∃ v L, o = .returned v ∧ Q3 Z ob ps pr h0 n0 v U'.heap L ∧ ReturnedEndW U o U' L ({ frames := 2, cells := 4, slots := 40, locals := 27 } : Room).cells ({ frames := 2, cells := 4, slots := 40, locals := 27 } : Room).slots) := by
  refine MetFree.of_bodySF (plainFor_of_name pn_2) hisR ?_
  intro p e s m args below meth c s₁ Bd hml0 hP hK
  obtain ⟨rfl, hZ, hh⟩ := hP
  have hx := Bd.exec
  have hby := Bd.bytes
  have hml : c.maxLocals = 3 := hml0
  have hown : s.vm.findClass "com/example/ruffwork/ruffwork/Card" = some m.cls := findClass_of_methodNamed Bd.named
  have hnm := (name_of_methodNamed Bd.named Bd.method).1
  have X0 : Stand p l e ({ frames := 2, cells := 4, slots := 40, locals := 27 } : Room) (s.setVm s.vm) m #[(.ref ob), (.ref ps), (.ref pr)] below meth c s₁ [] 0 0 := Stand.of_body Bd
  have e0 : s₁.heap = h0 := by rw [← hh, Bd.state]; rfl
  have N0 := Fr.nil n0
  have pre0 : ∀ t, Steps p.tables e below (s₁.setTop (mkF m 0 #[.val (.ref ob), .val (.ref ps), .val (.ref pr)] [])) t → Steps p.tables e below (s₁.setTop (entryFrame m #[(.ref ob), (.ref ps), (.ref pr)] 3)) t := fun t k => castTop (ef_rm3 m ob ps pr) k
  have hS0 : s.Since s.vm 0 := (State.WarmedH.refl s).since 0
  have hwS : ∀ a ∈ Bundle.stringAtoms, a.before a0 Z = true := fun d hd => hw d ((by decide +kernel : ∀ d ∈ Bundle.stringAtoms, d ∈ tables_1) d hd)
  obtain ⟨b1, T1, h1, k1, X1, e1, E1, hS1, hk1, hZ1, hown1, st1⟩ := ldcS (s := s) (vm0 := s.vm) X0 hx hZ hown (hw _ (List.mem_of_getElem? (i := 20) rfl)) hwS e0 hS0 (Nat.zero_le _) (g := (mkF m 2 #[.val (.ref ob), .val (.ref ps), .val (.ref pr)] [(.ref ps), (.ref ob)])) rfl (hb hby d3_2) (n := 16) (by decide) (by decide) (by decide) (by decide)
  have Kc1 : Keep h0 h1 [ob] := (Keep.refl h0 [ob]).ext E1
  obtain ⟨_, _, ⟨T2, L2, k2, n2⟩, -, X2, ⟨Lc2, hQ2, l2, y2, z2⟩, st2⟩ := Jvm.LawKit.callS X1 hx (y := (⟨"java/util/Objects", "requireNonNull", "(Ljava/lang/Object;Ljava/lang/String;)Ljava/lang/Object;"⟩ : MethodName)) hown1 (mvT hZ1 (hw _ (List.mem_of_getElem? (i := 28) rfl))) (mvT hZ1 (hw _ (List.mem_of_getElem? (i := 29) rfl))) (mvT hZ1 (hw _ (List.mem_of_getElem? (i := 30) rfl))) (mvT hZ1 (hw _ (List.mem_of_getElem? (i := 31) rfl))) (by decide) (backOf (W := 1) (rm4 l Z a0 hw [] ps b1 h1 n0 (Nat.le_trans Z0 Kc1.1) ) hZ1 (hw _ (List.mem_of_getElem? (i := 31) rfl)) (hw _ (List.mem_of_getElem? (i := 30) rfl)) (by decide) (by decide)) (g := (mkF m 4 #[.val (.ref ob), .val (.ref ps), .val (.ref pr)] [(.ref b1), (.ref ps), (.ref ob)])) rfl (by rw [hml]; rfl) (argsL := [(.ref ps), (.ref b1)]) (rest := [(.ref ob)]) (lenOf pd_0 rfl) rfl (by show 2 * 0 + _ ≤ _; exact Nat.le_of_eq rfl) (hb hby d3_4) (fun _ _ => ⟨rfl, e1, (by decide : 2 + 0 ≤ _), (by decide : 20 + 0 ≤ _)⟩)
  dsimp only [Pt.U, Pt.locs, Pt.cells, Pt.slots] at X2 l2 y2 z2 st2 hQ2
  subst l2 y2 z2
  obtain ⟨rfl, N2q, e2⟩ := hQ2
  have N2 := Fr.app N0 N2q
  obtain ⟨T3, X3, e3, st3⟩ := castY X2 hx hZ1 hown1 (hw _ (List.mem_of_getElem? (i := 32) rfl)) e2 (Ins.self (E_ps.ext E1)) (g := (mkF m 7 #[.val (.ref ob), .val (.ref ps), .val (.ref pr)] [(.ref ps), (.ref ob)])) rfl rfl (hb hby d3_7)
  obtain ⟨b4, T4, h4, k4, X4, e4, E4, hS4, hk4, hZ4, hown4, st4⟩ := ldcS (s := s) (vm0 := T1.vm) X3 hx hZ1 hown1 (hw _ (List.mem_of_getElem? (i := 34) rfl)) hwS e3 hS1 hk1 (g := (mkF m 11 #[.val (.ref ob), .val (.ref ps), .val (.ref pr)] [(.ref pr), (.ref ps), (.ref ob)])) rfl (hb hby d3_11) (n := 16) (by decide) (by decide) (by decide) (by decide)
  have Kc4 : Keep h0 h4 [ob] := Kc1.ext E4
  obtain ⟨_, _, ⟨T5, L5, k5, n5⟩, -, X5, ⟨Lc5, hQ5, l5, y5, z5⟩, st5⟩ := Jvm.LawKit.callS X4 hx (y := (⟨"java/util/Objects", "requireNonNull", "(Ljava/lang/Object;Ljava/lang/String;)Ljava/lang/Object;"⟩ : MethodName)) hown4 (mvT hZ4 (hw _ (List.mem_of_getElem? (i := 28) rfl))) (mvT hZ4 (hw _ (List.mem_of_getElem? (i := 29) rfl))) (mvT hZ4 (hw _ (List.mem_of_getElem? (i := 30) rfl))) (mvT hZ4 (hw _ (List.mem_of_getElem? (i := 31) rfl))) (by decide) (backOf (W := 2) (rm4 l Z a0 hw [] pr b4 h4 n0 (Nat.le_trans Z0 Kc4.1) ) hZ4 (hw _ (List.mem_of_getElem? (i := 31) rfl)) (hw _ (List.mem_of_getElem? (i := 30) rfl)) (by decide) (by decide)) (g := (mkF m 13 #[.val (.ref ob), .val (.ref ps), .val (.ref pr)] [(.ref b4), (.ref pr), (.ref ps), (.ref ob)])) rfl (by rw [hml]; rfl) (argsL := [(.ref pr), (.ref b4)]) (rest := [(.ref ps), (.ref ob)]) (lenOf pd_0 rfl) rfl (by show 2 * 0 + _ ≤ _; exact Nat.le_of_eq rfl) (hb hby d3_13) (fun _ _ => ⟨rfl, e4, (by decide : 4 + 0 ≤ _), (by decide : 40 + 0 ≤ _)⟩)
  dsimp only [Pt.U, Pt.locs, Pt.cells, Pt.slots] at X5 l5 y5 z5 st5 hQ5
  subst l5 y5 z5
  obtain ⟨rfl, N5q, e5⟩ := hQ5
  have N5 := Fr.app N2 N5q
  obtain ⟨T6, X6, e6, st6⟩ := castY X5 hx hZ4 hown4 (hw _ (List.mem_of_getElem? (i := 35) rfl)) e5 (Ins.self ((E_pr.ext E1).ext E4)) (g := (mkF m 16 #[.val (.ref ob), .val (.ref ps), .val (.ref pr)] [(.ref pr), (.ref ps), (.ref ob)])) rfl rfl (hb hby d3_16)
  obtain ⟨_, _, ⟨T7, L7, k7, n7⟩, -, X7, ⟨Lc7, hQ7, l7, y7, z7⟩, st7⟩ := X6.specialBack hx (y := (⟨"com/example/ruffwork/ruffwork/Card", "<init>", "(Lcom/example/ruffwork/ruffwork/Suit;Lcom/example/ruffwork/ruffwork/Rank;Lcom/example/ruffwork/ruffwork/Joker;)V"⟩ : MethodName)) rfl hown4 (mvT hZ4 (hw _ (List.mem_of_getElem? (i := 37) rfl))) (mvT hZ4 (hw _ (List.mem_of_getElem? (i := 38) rfl))) (mvT hZ4 (hw _ (List.mem_of_getElem? (i := 39) rfl))) (by decide) (backOf (W := 0) (rm5 l Z a0 hw [] ob ps pr h4 n0 (Nat.le_trans Z0 Kc4.1) ((E_ob.ext E1).ext E4) g_ob ((F_suit.ext E1).ext E4) ((F_rank.ext E1).ext E4) ((F_joker.ext E1).ext E4)) hZ4 (hw _ (List.mem_of_getElem? (i := 39) rfl)) (hw _ (List.mem_of_getElem? (i := 3) rfl)) (by decide) (by decide)) (g := (mkF m 20 #[.val (.ref ob), .val (.ref ps), .val (.ref pr)] [.null, (.ref pr), (.ref ps), (.ref ob)])) rfl (by rw [hml]; rfl) (Steps.refl _) (a := ob) (argsL := [(.ref ps), (.ref pr), .null]) (rest := []) (lenOf pd_1 rfl) rfl (by show 2 * 0 + _ ≤ _; exact Nat.le_of_eq rfl) (hb hby d3_20) (fun _ _ => ⟨rfl, e6, (by decide : 4 + 0 ≤ _), (by decide : 40 + 0 ≤ _)⟩)
  dsimp only [Pt.U, Pt.locs, Pt.cells, Pt.slots] at X7 l7 y7 z7 st7 hQ7
  subst l7 y7 z7
  obtain ⟨rfl, N7q, K7, A7c, Fc0_7, Fc1_7, Fc2_7⟩ := hQ7
  have N7 := Fr.app N5 N7q
  have Kc7 : Keep h0 T7.heap [ob] := Kc4.trans K7 (allS (Or.inl (List.mem_of_getElem? (i := 0) rfl)) all0)
  obtain ⟨fs, hr, hrun, hended, hend⟩ := Stand.leaveW (s := s) (vm₁ := T4.vm) X7 hS4 (Nat.le_trans hk4 K7.1) (v := none) (fun _ => rfl)
  refine ⟨_, _, pre0 _ ?_, hrun, hended, _, _, rfl, ?_, hend.1, hend.2.1, hend.2.2.1, hend.2.2.2.mono (by decide) (by decide)⟩
  · show Steps p.tables e below (s₁.setTop (mkF m 0 #[.val (.ref ob), .val (.ref ps), .val (.ref pr)] [])) _
    refine XS.aloadN X0.here hx rfl (hb hby d3_0) rfl rfl ?_
    show Steps p.tables e below (s₁.setTop (mkF m 1 #[.val (.ref ob), .val (.ref ps), .val (.ref pr)] [(.ref ob)])) _
    refine XS.aloadN X0.here hx rfl (hb hby d3_1) rfl rfl ?_
    show Steps p.tables e below (s₁.setTop (mkF m 2 #[.val (.ref ob), .val (.ref ps), .val (.ref pr)] [(.ref ps), (.ref ob)])) _
    refine st1 _ ?_
    show Steps p.tables e below (T1.setTop (mkF m 4 #[.val (.ref ob), .val (.ref ps), .val (.ref pr)] [(.ref b1), (.ref ps), (.ref ob)])) _
    refine st2 _ ?_
    show Steps p.tables e below (T2.setTop (mkF m 7 #[.val (.ref ob), .val (.ref ps), .val (.ref pr)] [(.ref ps), (.ref ob)])) _
    refine st3 _ ?_
    show Steps p.tables e below (T3.setTop (mkF m 10 #[.val (.ref ob), .val (.ref ps), .val (.ref pr)] [(.ref ps), (.ref ob)])) _
    refine XS.aloadN X3.here hx rfl (hb hby d3_10) rfl rfl ?_
    show Steps p.tables e below (T3.setTop (mkF m 11 #[.val (.ref ob), .val (.ref ps), .val (.ref pr)] [(.ref pr), (.ref ps), (.ref ob)])) _
    refine st4 _ ?_
    show Steps p.tables e below (T4.setTop (mkF m 13 #[.val (.ref ob), .val (.ref ps), .val (.ref pr)] [(.ref b4), (.ref pr), (.ref ps), (.ref ob)])) _
    refine st5 _ ?_
    show Steps p.tables e below (T5.setTop (mkF m 16 #[.val (.ref ob), .val (.ref ps), .val (.ref pr)] [(.ref pr), (.ref ps), (.ref ob)])) _
    refine st6 _ ?_
    show Steps p.tables e below (T6.setTop (mkF m 19 #[.val (.ref ob), .val (.ref ps), .val (.ref pr)] [(.ref pr), (.ref ps), (.ref ob)])) _
    refine XS.aconstNull X6.here hx rfl (hb hby d3_19) ?_
    show Steps p.tables e below (T6.setTop (mkF m 20 #[.val (.ref ob), .val (.ref ps), .val (.ref pr)] [.null, (.ref pr), (.ref ps), (.ref ob)])) _
    refine st7.trans ?_
    show Steps p.tables e below (T7.setTop (mkF m 23 #[.val (.ref ob), .val (.ref ps), .val (.ref pr)] [])) _
    exact X7.returnOut hx Bd.returns (hb hby d3_23) hr
  · show Q3 Z ob ps pr h0 n0 _ T7.heap _
    exact ⟨rfl, N7, Kc7, A7c, Fc0_7, Fc1_7, Fc2_7⟩
theorem d7_0 : decode prog_23_method_10_code 0 = .ok (.aload_n 1, 1) := by decide +kernel
theorem d7_1 : decode prog_23_method_10_code 1 = .ok (.instanceof 16, 3) := by decide +kernel
theorem d7_4 : decode prog_23_method_10_code 4 = .ok (.ifCond .eq 45, 3) := by decide +kernel
theorem d7_7 : decode prog_23_method_10_code 7 = .ok (.aload_n 1, 1) := by decide +kernel
theorem d7_8 : decode prog_23_method_10_code 8 = .ok (.checkcast 16, 3) := by decide +kernel
theorem d7_11 : decode prog_23_method_10_code 11 = .ok (.astore_n 2, 1) := by decide +kernel
theorem d7_12 : decode prog_23_method_10_code 12 = .ok (.aload_n 2, 1) := by decide +kernel
theorem d7_13 : decode prog_23_method_10_code 13 = .ok (.getfield 26, 3) := by decide +kernel
theorem d7_16 : decode prog_23_method_10_code 16 = .ok (.aload_n 0, 1) := by decide +kernel
theorem d7_17 : decode prog_23_method_10_code 17 = .ok (.getfield 26, 3) := by decide +kernel
theorem d7_20 : decode prog_23_method_10_code 20 = .ok (.if_acmp .ne 29, 3) := by decide +kernel
theorem d7_23 : decode prog_23_method_10_code 23 = .ok (.aload_n 2, 1) := by decide +kernel
theorem d7_24 : decode prog_23_method_10_code 24 = .ok (.getfield 29, 3) := by decide +kernel
theorem d7_27 : decode prog_23_method_10_code 27 = .ok (.aload_n 0, 1) := by decide +kernel
theorem d7_28 : decode prog_23_method_10_code 28 = .ok (.getfield 29, 3) := by decide +kernel
theorem d7_31 : decode prog_23_method_10_code 31 = .ok (.if_acmp .ne 18, 3) := by decide +kernel
theorem d7_34 : decode prog_23_method_10_code 34 = .ok (.aload_n 2, 1) := by decide +kernel
theorem d7_35 : decode prog_23_method_10_code 35 = .ok (.getfield 32, 3) := by decide +kernel
theorem d7_38 : decode prog_23_method_10_code 38 = .ok (.aload_n 0, 1) := by decide +kernel
theorem d7_39 : decode prog_23_method_10_code 39 = .ok (.getfield 32, 3) := by decide +kernel
theorem d7_42 : decode prog_23_method_10_code 42 = .ok (.if_acmp .ne 7, 3) := by decide +kernel
theorem d7_45 : decode prog_23_method_10_code 45 = .ok (.iconst 1, 1) := by decide +kernel
theorem d7_46 : decode prog_23_method_10_code 46 = .ok (.goto 4, 3) := by decide +kernel
theorem d7_50 : decode prog_23_method_10_code 50 = .ok (.ireturn, 1) := by decide +kernel
theorem d7_49 : decode prog_23_method_10_code 49 = .ok (.iconst 0, 1) := by decide +kernel
theorem ef_rm7 (m : MethodId) (x0 : Addr) (x1 : Addr) : entryFrame m #[(.ref x0), (.ref x1)] 3 = mkF m 0 #[.val (.ref x0), .val (.ref x1), .unset] [] := by first | (simp [entryFrame, mkF, argsToLocals, Value.category]; done) | rfl
def cardEq (sx : Addr) (rx : Addr) (sy : Addr) (ry : Addr) : Int32 :=
  if sy = sx then (if ry = rx then (1 : Int32)
    else (0 : Int32))
  else (0 : Int32)
def Q7 (Z : State) (px : Addr) (py : Addr) (sx : Addr) (rx : Addr) (sy : Addr) (ry : Addr) (h0 : Heap) (n0 : Nat) (v : Option Value) (h : Heap) (L : List Loc) : Prop := v = some (.int (cardEq sx rx sy ry)) ∧ Fr n0 L ∧ h = h0
set_option maxRecDepth 65536 in
set_option maxHeartbeats 40000000 in
theorem rm7 (l : Launch) (Z : State) (a0 : Array Value) (hw : ∀ d ∈ tables_1, d.before a0 Z = true) (ws : List Jvm.Cond) (px : Addr) (py : Addr) (sx : Addr) (rx : Addr) (sy : Addr) (ry : Addr) (h0 : Heap) (n0 : Nat) (Z0 : n0 ≤ h0.size) (E_x : Exa Z h0 px "com/example/ruffwork/ruffwork/Card") (E_y : Exa Z h0 py "com/example/ruffwork/ruffwork/Card") (Fx_suit : Fld Z h0 px "com/example/ruffwork/ruffwork/Card" "suit" "Lcom/example/ruffwork/ruffwork/Suit;" (.ref sx)) (Fx_rank : Fld Z h0 px "com/example/ruffwork/ruffwork/Card" "rank" "Lcom/example/ruffwork/ruffwork/Rank;" (.ref rx)) (Fx_joker : Fld Z h0 px "com/example/ruffwork/ruffwork/Card" "joker" "Lcom/example/ruffwork/ruffwork/Joker;" .null) (Fy_suit : Fld Z h0 py "com/example/ruffwork/ruffwork/Card" "suit" "Lcom/example/ruffwork/ruffwork/Suit;" (.ref sy)) (Fy_rank : Fld Z h0 py "com/example/ruffwork/ruffwork/Card" "rank" "Lcom/example/ruffwork/ruffwork/Rank;" (.ref ry)) (Fy_joker : Fld Z h0 py "com/example/ruffwork/ruffwork/Card" "joker" "Lcom/example/ruffwork/ruffwork/Joker;" .null) :
    MetFree l (⟨"com/example/ruffwork/ruffwork/Card", "equals", "(Ljava/lang/Object;)Z"⟩ : MethodName) (head1 (Jvm.Cond.code (⟨"com/example/ruffwork/ruffwork/Card", "equals", "(Ljava/lang/Object;)Z"⟩ : MethodName) prog_23_method_10_code 3 (some .boolean) :: ws) ({ frames := 0, cells := 0, slots := 0, locals := 0 } : Room)) (fun a U => a = #[(.ref px), (.ref py)] ∧ Z.Warmed39 U.vm ∧ U.heap = h0) (fun _ _ _ _ _ => True) (fun _ U o U' => ∃ v L, o = .returned v ∧ Q7 Z px py sx rx sy ry h0 n0 v U'.heap L ∧ FrameEnd U o U' L ({ frames := 0, cells := 0, slots := 0, locals := 0 } : Room).cells ({ frames := 0, cells := 0, slots := 0, locals := 0 } : Room).slots) := by
  refine MetFree.of_bodySF (plainFor_of_name pn_2) hisR ?_
  intro p e s m args below meth c s₁ Bd hml0 hP hK
  obtain ⟨rfl, hZ, hh⟩ := hP
  have hx := Bd.exec
  have hby := Bd.bytes
  have hml : c.maxLocals = 3 := hml0
  have hown : s.vm.findClass "com/example/ruffwork/ruffwork/Card" = some m.cls := findClass_of_methodNamed Bd.named
  have hnm := (name_of_methodNamed Bd.named Bd.method).1
  have X0 : Stand p l e ({ frames := 0, cells := 0, slots := 0, locals := 0 } : Room) s m #[(.ref px), (.ref py)] below meth c s₁ [] 0 0 := Stand.of_body Bd
  have e0 : s₁.heap = h0 := by rw [← hh, Bd.state]; rfl
  have N0 := Fr.nil n0
  have pre0 : ∀ t, Steps p.tables e below (s₁.setTop (mkF m 0 #[.val (.ref px), .val (.ref py), .unset] [])) t → Steps p.tables e below (s₁.setTop (entryFrame m #[(.ref px), (.ref py)] 3)) t := fun t k => castTop (ef_rm7 m px py) k
  obtain ⟨T1, X1, e1, st1⟩ := instY X0 hx hZ hown (hw _ (List.mem_of_getElem? (i := 58) rfl)) e0 (Ins.self E_y) (g := (mkF m 1 #[.val (.ref px), .val (.ref py), .unset] [(.ref py)])) rfl rfl (hb hby d7_1)
  obtain ⟨T2, X2, e2, st2⟩ := castY X1 hx hZ hown (hw _ (List.mem_of_getElem? (i := 58) rfl)) e1 (Ins.self E_y) (g := (mkF m 8 #[.val (.ref px), .val (.ref py), .unset] [(.ref py)])) rfl rfl (hb hby d7_8)
  obtain ⟨T3, X3, e3, st3⟩ := getF X2 hx hZ hown (host := "") (Or.inl (hw _ (List.mem_of_getElem? (i := 43) rfl))) Via.refl e2 Fy_suit (g := (mkF m 13 #[.val (.ref px), .val (.ref py), .val (.ref py)] [(.ref py)])) rfl rfl (hb hby d7_13)
  obtain ⟨T4, X4, e4, st4⟩ := getF X3 hx hZ hown (host := "") (Or.inl (hw _ (List.mem_of_getElem? (i := 43) rfl))) Via.refl e3 Fx_suit (g := (mkF m 17 #[.val (.ref px), .val (.ref py), .val (.ref py)] [(.ref px), (.ref sy)])) rfl rfl (hb hby d7_17)
  have pre5 : ∀ t, Steps p.tables e below (T4.setTop (mkF m 20 #[.val (.ref px), .val (.ref py), .val (.ref py)] [(.ref sx), (.ref sy)])) t → Steps p.tables e below (s₁.setTop (entryFrame m #[(.ref px), (.ref py)] 3)) t := by
    intro t kt
    refine pre0 t ?_
    show Steps p.tables e below (s₁.setTop (mkF m 0 #[.val (.ref px), .val (.ref py), .unset] [])) _
    refine XS.aloadN X0.here hx rfl (hb hby d7_0) rfl rfl ?_
    show Steps p.tables e below (s₁.setTop (mkF m 1 #[.val (.ref px), .val (.ref py), .unset] [(.ref py)])) _
    refine st1 _ ?_
    show Steps p.tables e below (T1.setTop (mkF m 4 #[.val (.ref px), .val (.ref py), .unset] [(.int (1 : Int32))])) _
    refine XS.ifNo X1.here hx rfl (hb hby d7_4) rfl ((if0 _ _).trans (feq (by decide : ¬ ((1 : Int32) = (0 : Int32)))).1) ?_
    show Steps p.tables e below (T1.setTop (mkF m 7 #[.val (.ref px), .val (.ref py), .unset] [])) _
    refine XS.aloadN X1.here hx rfl (hb hby d7_7) rfl rfl ?_
    show Steps p.tables e below (T1.setTop (mkF m 8 #[.val (.ref px), .val (.ref py), .unset] [(.ref py)])) _
    refine st2 _ ?_
    show Steps p.tables e below (T2.setTop (mkF m 11 #[.val (.ref px), .val (.ref py), .unset] [(.ref py)])) _
    refine XS.astoreN X2.here hx rfl (hb hby d7_11) rfl rfl (l' := #[.val (.ref px), .val (.ref py), .val (.ref py)]) rfl ?_
    show Steps p.tables e below (T2.setTop (mkF m 12 #[.val (.ref px), .val (.ref py), .val (.ref py)] [])) _
    refine XS.aloadN X2.here hx rfl (hb hby d7_12) rfl rfl ?_
    show Steps p.tables e below (T2.setTop (mkF m 13 #[.val (.ref px), .val (.ref py), .val (.ref py)] [(.ref py)])) _
    refine st3 _ ?_
    show Steps p.tables e below (T3.setTop (mkF m 16 #[.val (.ref px), .val (.ref py), .val (.ref py)] [(.ref sy)])) _
    refine XS.aloadN X3.here hx rfl (hb hby d7_16) rfl rfl ?_
    show Steps p.tables e below (T3.setTop (mkF m 17 #[.val (.ref px), .val (.ref py), .val (.ref py)] [(.ref px), (.ref sy)])) _
    refine st4 _ ?_
    show Steps p.tables e below (T4.setTop (mkF m 20 #[.val (.ref px), .val (.ref py), .val (.ref py)] [(.ref sx), (.ref sy)])) _
    exact kt
  by_cases ha20_6 : sy = sx
  · obtain ⟨T7, X7, e7, st7⟩ := getF X4 hx hZ hown (host := "") (Or.inl (hw _ (List.mem_of_getElem? (i := 45) rfl))) Via.refl e4 Fy_rank (g := (mkF m 24 #[.val (.ref px), .val (.ref py), .val (.ref py)] [(.ref py)])) rfl rfl (hb hby d7_24)
    obtain ⟨T8, X8, e8, st8⟩ := getF X7 hx hZ hown (host := "") (Or.inl (hw _ (List.mem_of_getElem? (i := 45) rfl))) Via.refl e7 Fx_rank (g := (mkF m 28 #[.val (.ref px), .val (.ref py), .val (.ref py)] [(.ref px), (.ref ry)])) rfl rfl (hb hby d7_28)
    have pre9 : ∀ t, Steps p.tables e below (T8.setTop (mkF m 31 #[.val (.ref px), .val (.ref py), .val (.ref py)] [(.ref rx), (.ref ry)])) t → Steps p.tables e below (s₁.setTop (entryFrame m #[(.ref px), (.ref py)] 3)) t := by
      intro t kt
      refine pre5 t ?_
      show Steps p.tables e below (T4.setTop (mkF m 20 #[.val (.ref px), .val (.ref py), .val (.ref py)] [(.ref sx), (.ref sy)])) _
      refine Jvm.RoadKit.acmp (g := (mkF m 20 #[.val (.ref px), .val (.ref py), .val (.ref py)] [(.ref sx), (.ref sy)])) X4 hx rfl rfl rfl (pc0 := 20) (pc' := 23) (same := true) rfl (hb hby d7_20) rfl (decide_eq_true (congrArg Value.ref ha20_6)) (by decide) (by decide) ?_
      show Steps p.tables e below (T4.setTop (mkF m 23 #[.val (.ref px), .val (.ref py), .val (.ref py)] [])) _
      refine XS.aloadN X4.here hx rfl (hb hby d7_23) rfl rfl ?_
      show Steps p.tables e below (T4.setTop (mkF m 24 #[.val (.ref px), .val (.ref py), .val (.ref py)] [(.ref py)])) _
      refine st7 _ ?_
      show Steps p.tables e below (T7.setTop (mkF m 27 #[.val (.ref px), .val (.ref py), .val (.ref py)] [(.ref ry)])) _
      refine XS.aloadN X7.here hx rfl (hb hby d7_27) rfl rfl ?_
      show Steps p.tables e below (T7.setTop (mkF m 28 #[.val (.ref px), .val (.ref py), .val (.ref py)] [(.ref px), (.ref ry)])) _
      refine st8 _ ?_
      show Steps p.tables e below (T8.setTop (mkF m 31 #[.val (.ref px), .val (.ref py), .val (.ref py)] [(.ref rx), (.ref ry)])) _
      exact kt
    by_cases ha31_10 : ry = rx
    · obtain ⟨T11, X11, e11, st11⟩ := getF X8 hx hZ hown (host := "") (Or.inl (hw _ (List.mem_of_getElem? (i := 47) rfl))) Via.refl e8 Fy_joker (g := (mkF m 35 #[.val (.ref px), .val (.ref py), .val (.ref py)] [(.ref py)])) rfl rfl (hb hby d7_35)
      obtain ⟨T12, X12, e12, st12⟩ := getF X11 hx hZ hown (host := "") (Or.inl (hw _ (List.mem_of_getElem? (i := 47) rfl))) Via.refl e11 Fx_joker (g := (mkF m 39 #[.val (.ref px), .val (.ref py), .val (.ref py)] [(.ref px), .null])) rfl rfl (hb hby d7_39)
      obtain ⟨fs, hr, hrun, hended, hW, hsame⟩ := X12.leave (v := some (.int (1 : Int32))) (fun h => by rw [Bd.returns] at h; cases h)
      refine ⟨_, _, pre9 _ ?_, hrun, hended, _, _, rfl, ?_, ⟨_, rfl⟩, hW, hsame.mono (by decide) (by decide)⟩
      · show Steps p.tables e below (T8.setTop (mkF m 31 #[.val (.ref px), .val (.ref py), .val (.ref py)] [(.ref rx), (.ref ry)])) _
        refine Jvm.RoadKit.acmp (g := (mkF m 31 #[.val (.ref px), .val (.ref py), .val (.ref py)] [(.ref rx), (.ref ry)])) X8 hx rfl rfl rfl (pc0 := 31) (pc' := 34) (same := true) rfl (hb hby d7_31) rfl (decide_eq_true (congrArg Value.ref ha31_10)) (by decide) (by decide) ?_
        show Steps p.tables e below (T8.setTop (mkF m 34 #[.val (.ref px), .val (.ref py), .val (.ref py)] [])) _
        refine XS.aloadN X8.here hx rfl (hb hby d7_34) rfl rfl ?_
        show Steps p.tables e below (T8.setTop (mkF m 35 #[.val (.ref px), .val (.ref py), .val (.ref py)] [(.ref py)])) _
        refine st11 _ ?_
        show Steps p.tables e below (T11.setTop (mkF m 38 #[.val (.ref px), .val (.ref py), .val (.ref py)] [.null])) _
        refine XS.aloadN X11.here hx rfl (hb hby d7_38) rfl rfl ?_
        show Steps p.tables e below (T11.setTop (mkF m 39 #[.val (.ref px), .val (.ref py), .val (.ref py)] [(.ref px), .null])) _
        refine st12 _ ?_
        show Steps p.tables e below (T12.setTop (mkF m 42 #[.val (.ref px), .val (.ref py), .val (.ref py)] [.null, .null])) _
        refine Jvm.RoadKit.acmp (g := (mkF m 42 #[.val (.ref px), .val (.ref py), .val (.ref py)] [.null, .null])) X12 hx rfl rfl rfl (pc0 := 42) (pc' := 45) (same := true) rfl (hb hby d7_42) rfl (decide_eq_true rfl) (by decide) (by decide) ?_
        show Steps p.tables e below (T12.setTop (mkF m 45 #[.val (.ref px), .val (.ref py), .val (.ref py)] [])) _
        refine XS.iconst X12.here hx rfl (hb hby d7_45) ?_
        show Steps p.tables e below (T12.setTop (mkF m 46 #[.val (.ref px), .val (.ref py), .val (.ref py)] [(.int (1 : Int32))])) _
        refine XS.goto X12.here hx rfl (pc0 := 46) (pc' := 50) rfl (hb hby d7_46) (by decide) (by decide) ?_
        show Steps p.tables e below (T12.setTop (mkF m 50 #[.val (.ref px), .val (.ref py), .val (.ref py)] [(.int (1 : Int32))])) _
        exact retN X12 hx (t := .boolean) Bd.returns (by simp) (hb hby d7_50) hr
      · show Q7 Z px py sx rx sy ry h0 n0 _ T12.heap _
        rw [e12]
        refine ⟨?_, N0, rfl⟩
        show (some (.int (1 : Int32)) : Option Value) = some (.int (cardEq sx rx sy ry))
        rw [show (cardEq sx rx sy ry) = (1 : Int32) from by unfold cardEq; rw [if_pos ha20_6, if_pos ha31_10]]
    · obtain ⟨fs, hr, hrun, hended, hW, hsame⟩ := X8.leave (v := some (.int (0 : Int32))) (fun h => by rw [Bd.returns] at h; cases h)
      refine ⟨_, _, pre9 _ ?_, hrun, hended, _, _, rfl, ?_, ⟨_, rfl⟩, hW, hsame.mono (by decide) (by decide)⟩
      · show Steps p.tables e below (T8.setTop (mkF m 31 #[.val (.ref px), .val (.ref py), .val (.ref py)] [(.ref rx), (.ref ry)])) _
        refine Jvm.RoadKit.acmp (g := (mkF m 31 #[.val (.ref px), .val (.ref py), .val (.ref py)] [(.ref rx), (.ref ry)])) X8 hx rfl rfl rfl (pc0 := 31) (pc' := 49) (same := false) rfl (hb hby d7_31) rfl (decide_eq_false fun q => ha31_10 (Value.ref.inj q)) (by decide) (by decide) ?_
        show Steps p.tables e below (T8.setTop (mkF m 49 #[.val (.ref px), .val (.ref py), .val (.ref py)] [])) _
        refine XS.iconst X8.here hx rfl (hb hby d7_49) ?_
        show Steps p.tables e below (T8.setTop (mkF m 50 #[.val (.ref px), .val (.ref py), .val (.ref py)] [(.int (0 : Int32))])) _
        exact retN X8 hx (t := .boolean) Bd.returns (by simp) (hb hby d7_50) hr
      · show Q7 Z px py sx rx sy ry h0 n0 _ T8.heap _
        rw [e8]
        refine ⟨?_, N0, rfl⟩
        show (some (.int (0 : Int32)) : Option Value) = some (.int (cardEq sx rx sy ry))
        rw [show (cardEq sx rx sy ry) = (0 : Int32) from by unfold cardEq; rw [if_pos ha20_6, if_neg ha31_10]]
  · obtain ⟨fs, hr, hrun, hended, hW, hsame⟩ := X4.leave (v := some (.int (0 : Int32))) (fun h => by rw [Bd.returns] at h; cases h)
    refine ⟨_, _, pre5 _ ?_, hrun, hended, _, _, rfl, ?_, ⟨_, rfl⟩, hW, hsame.mono (by decide) (by decide)⟩
    · show Steps p.tables e below (T4.setTop (mkF m 20 #[.val (.ref px), .val (.ref py), .val (.ref py)] [(.ref sx), (.ref sy)])) _
      refine Jvm.RoadKit.acmp (g := (mkF m 20 #[.val (.ref px), .val (.ref py), .val (.ref py)] [(.ref sx), (.ref sy)])) X4 hx rfl rfl rfl (pc0 := 20) (pc' := 49) (same := false) rfl (hb hby d7_20) rfl (decide_eq_false fun q => ha20_6 (Value.ref.inj q)) (by decide) (by decide) ?_
      show Steps p.tables e below (T4.setTop (mkF m 49 #[.val (.ref px), .val (.ref py), .val (.ref py)] [])) _
      refine XS.iconst X4.here hx rfl (hb hby d7_49) ?_
      show Steps p.tables e below (T4.setTop (mkF m 50 #[.val (.ref px), .val (.ref py), .val (.ref py)] [(.int (0 : Int32))])) _
      exact retN X4 hx (t := .boolean) Bd.returns (by simp) (hb hby d7_50) hr
    · show Q7 Z px py sx rx sy ry h0 n0 _ T4.heap _
      rw [e4]
      refine ⟨?_, N0, rfl⟩
      show (some (.int (0 : Int32)) : Option Value) = some (.int (cardEq sx rx sy ry))
      rw [show (cardEq sx rx sy ry) = (0 : Int32) from by unfold cardEq; rw [if_neg ha20_6]]
theorem ef_rm7n (m : MethodId) (x0 : Addr) : entryFrame m #[(.ref x0), .null] 3 = mkF m 0 #[.val (.ref x0), .val .null, .unset] [] := by first | (simp [entryFrame, mkF, argsToLocals, Value.category]; done) | rfl
def Q7n (Z : State) (px : Addr) (h0 : Heap) (n0 : Nat) (v : Option Value) (h : Heap) (L : List Loc) : Prop := v = some (.int (0 : Int32)) ∧ Fr n0 L ∧ h = h0
set_option maxRecDepth 65536 in
set_option maxHeartbeats 40000000 in
theorem rm7n (l : Launch) (Z : State) (a0 : Array Value) (hw : ∀ d ∈ tables_1, d.before a0 Z = true) (ws : List Jvm.Cond) (px : Addr) (h0 : Heap) (n0 : Nat) (Z0 : n0 ≤ h0.size) :
    MetFree l (⟨"com/example/ruffwork/ruffwork/Card", "equals", "(Ljava/lang/Object;)Z"⟩ : MethodName) (head1 (Jvm.Cond.code (⟨"com/example/ruffwork/ruffwork/Card", "equals", "(Ljava/lang/Object;)Z"⟩ : MethodName) prog_23_method_10_code 3 (some .boolean) :: ws) ({ frames := 0, cells := 0, slots := 0, locals := 0 } : Room)) (fun a U => a = #[(.ref px), .null] ∧ Z.Warmed39 U.vm ∧ U.heap = h0) (fun _ _ _ _ _ => True) (fun _ U o U' => ∃ v L, o = .returned v ∧ Q7n Z px h0 n0 v U'.heap L ∧ FrameEnd U o U' L ({ frames := 0, cells := 0, slots := 0, locals := 0 } : Room).cells ({ frames := 0, cells := 0, slots := 0, locals := 0 } : Room).slots) := by
  refine MetFree.of_bodySF (plainFor_of_name pn_2) hisR ?_
  intro p e s m args below meth c s₁ Bd hml0 hP hK
  obtain ⟨rfl, hZ, hh⟩ := hP
  have hx := Bd.exec
  have hby := Bd.bytes
  have hml : c.maxLocals = 3 := hml0
  have hown : s.vm.findClass "com/example/ruffwork/ruffwork/Card" = some m.cls := findClass_of_methodNamed Bd.named
  have hnm := (name_of_methodNamed Bd.named Bd.method).1
  have X0 : Stand p l e ({ frames := 0, cells := 0, slots := 0, locals := 0 } : Room) s m #[(.ref px), .null] below meth c s₁ [] 0 0 := Stand.of_body Bd
  have e0 : s₁.heap = h0 := by rw [← hh, Bd.state]; rfl
  have N0 := Fr.nil n0
  have pre0 : ∀ t, Steps p.tables e below (s₁.setTop (mkF m 0 #[.val (.ref px), .val .null, .unset] [])) t → Steps p.tables e below (s₁.setTop (entryFrame m #[(.ref px), .null] 3)) t := fun t k => castTop (ef_rm7n m px) k
  obtain ⟨fs, hr, hrun, hended, hW, hsame⟩ := X0.leave (v := some (.int (0 : Int32))) (fun h => by rw [Bd.returns] at h; cases h)
  refine ⟨_, _, pre0 _ ?_, hrun, hended, _, _, rfl, ?_, ⟨_, rfl⟩, hW, hsame.mono (by decide) (by decide)⟩
  · show Steps p.tables e below (s₁.setTop (mkF m 0 #[.val (.ref px), .val .null, .unset] [])) _
    refine XS.aloadN X0.here hx rfl (hb hby d7_0) rfl rfl ?_
    show Steps p.tables e below (s₁.setTop (mkF m 1 #[.val (.ref px), .val .null, .unset] [.null])) _
    refine X0.instanceofNull hx (g := (mkF m 1 #[.val (.ref px), .val .null, .unset] [.null])) rfl rfl (hb hby d7_1) _ ?_
    show Steps p.tables e below (s₁.setTop (mkF m 4 #[.val (.ref px), .val .null, .unset] [(.int (0 : Int32))])) _
    refine XS.ifYes X0.here hx rfl (pc0 := 4) (pc' := 49) rfl (hb hby d7_4) rfl ((if0 _ _).trans (teq (rfl : (0 : Int32) = (0 : Int32))).1) (by decide) (by decide) ?_
    show Steps p.tables e below (s₁.setTop (mkF m 49 #[.val (.ref px), .val .null, .unset] [])) _
    refine XS.iconst X0.here hx rfl (hb hby d7_49) ?_
    show Steps p.tables e below (s₁.setTop (mkF m 50 #[.val (.ref px), .val .null, .unset] [(.int (0 : Int32))])) _
    exact retN X0 hx (t := .boolean) Bd.returns (by simp) (hb hby d7_50) hr
  · show Q7n Z px h0 n0 _ s₁.heap _
    rw [e0]
    exact ⟨rfl, N0, rfl⟩
theorem own_no {Z : State} {a0 : Array Value} (w1 : (Cond.superclass "java/lang/String" "java/lang/Object").before a0 Z = true) (w2 : (Cond.noSuperclass "java/lang/Object").before a0 Z = true) (w3 : (Cond.instantiable "com/example/ruffwork/ruffwork/Card" 3).before a0 Z = true) :
    ∃ c t, Z.vm.findClass "java/lang/String" = some c ∧ Z.vm.findClass "com/example/ruffwork/ruffwork/Card" = some t ∧ Z.vm.assignable c t = false := by
  obtain ⟨cO, kO, o1, o2, o3, -, -⟩ := Cond.noSuperclass_spec w2
  obtain ⟨t, kt, t1, t2, t3, t4, -⟩ := Cond.instantiable_spec w3
  obtain ⟨c, c0⟩ := found_sup w1
  obtain ⟨q, k, kq, q1, q2, q3, q4, q5, -, q7⟩ := Cond.superclass_spec c0 w1
  cases o1.symm.trans q1
  have n1 := ids_ne c0 t1 (by decide)
  have n2 := ids_ne o1 t1 (by decide)
  have sub : ∀ fuel, Z.vm.isSubclassAux fuel c t = false := by
    intro fuel
    cases fuel with
    | zero => rfl
    | succ f =>
      cases f with
      | zero => simp [Vm.isSubclassAux, n1, q2, q4]
      | succ g => simp [Vm.isSubclassAux, n1, n2, q2, q4, o2, o3]
  have ti : kt.isInterface = false := by cases hb : kt.isInterface <;> simp [hb] at t4 ⊢
  refine ⟨c, t, c0, t1, ?_⟩
  show Z.vm.assignableAux (255 + 1) c t = false
  simp [Vm.assignableAux, n1, q2, t2, q5, t3, ti, Vm.isSubclass, sub]
theorem ef_rm7s (m : MethodId) (x0 : Addr) (x1 : Addr) : entryFrame m #[(.ref x0), (.ref x1)] 3 = mkF m 0 #[.val (.ref x0), .val (.ref x1), .unset] [] := by first | (simp [entryFrame, mkF, argsToLocals, Value.category]; done) | rfl
def Q7s (Z : State) (px : Addr) (py : Addr) (h0 : Heap) (n0 : Nat) (v : Option Value) (h : Heap) (L : List Loc) : Prop := v = some (.int (0 : Int32)) ∧ Fr n0 L ∧ h = h0
set_option maxRecDepth 65536 in
set_option maxHeartbeats 40000000 in
theorem rm7s (l : Launch) (Z : State) (a0 : Array Value) (hw : ∀ d ∈ tables_1, d.before a0 Z = true) (ws : List Jvm.Cond) (px : Addr) (py : Addr) (h0 : Heap) (n0 : Nat) (Z0 : n0 ≤ h0.size) (E_y : Exa Z h0 py "java/lang/String") :
    MetFree l (⟨"com/example/ruffwork/ruffwork/Card", "equals", "(Ljava/lang/Object;)Z"⟩ : MethodName) (head1 (Jvm.Cond.code (⟨"com/example/ruffwork/ruffwork/Card", "equals", "(Ljava/lang/Object;)Z"⟩ : MethodName) prog_23_method_10_code 3 (some .boolean) :: ws) ({ frames := 0, cells := 0, slots := 0, locals := 0 } : Room)) (fun a U => a = #[(.ref px), (.ref py)] ∧ Z.Warmed39 U.vm ∧ U.heap = h0) (fun _ _ _ _ _ => True) (fun _ U o U' => ∃ v L, o = .returned v ∧ Q7s Z px py h0 n0 v U'.heap L ∧ FrameEnd U o U' L ({ frames := 0, cells := 0, slots := 0, locals := 0 } : Room).cells ({ frames := 0, cells := 0, slots := 0, locals := 0 } : Room).slots) := by
  refine MetFree.of_bodySF (plainFor_of_name pn_2) hisR ?_
  intro p e s m args below meth c s₁ Bd hml0 hP hK
  obtain ⟨rfl, hZ, hh⟩ := hP
  have hx := Bd.exec
  have hby := Bd.bytes
  have hml : c.maxLocals = 3 := hml0
  have hown : s.vm.findClass "com/example/ruffwork/ruffwork/Card" = some m.cls := findClass_of_methodNamed Bd.named
  have hnm := (name_of_methodNamed Bd.named Bd.method).1
  have X0 : Stand p l e ({ frames := 0, cells := 0, slots := 0, locals := 0 } : Room) s m #[(.ref px), (.ref py)] below meth c s₁ [] 0 0 := Stand.of_body Bd
  have e0 : s₁.heap = h0 := by rw [← hh, Bd.state]; rfl
  have N0 := Fr.nil n0
  have pre0 : ∀ t, Steps p.tables e below (s₁.setTop (mkF m 0 #[.val (.ref px), .val (.ref py), .unset] [])) t → Steps p.tables e below (s₁.setTop (entryFrame m #[(.ref px), (.ref py)] 3)) t := fun t k => castTop (ef_rm7s m px py) k
  obtain ⟨T1, X1, e1, st1⟩ := instNo X0 hx hZ hown (hw _ (List.mem_of_getElem? (i := 58) rfl)) e0 E_y (own_no (hw _ (List.mem_of_getElem? (i := 101) rfl)) (hw _ (List.mem_of_getElem? (i := 102) rfl)) (hw _ (List.mem_of_getElem? (i := 2) rfl))) (g := (mkF m 1 #[.val (.ref px), .val (.ref py), .unset] [(.ref py)])) rfl rfl (hb hby d7_1)
  obtain ⟨fs, hr, hrun, hended, hW, hsame⟩ := X1.leave (v := some (.int (0 : Int32))) (fun h => by rw [Bd.returns] at h; cases h)
  refine ⟨_, _, pre0 _ ?_, hrun, hended, _, _, rfl, ?_, ⟨_, rfl⟩, hW, hsame.mono (by decide) (by decide)⟩
  · show Steps p.tables e below (s₁.setTop (mkF m 0 #[.val (.ref px), .val (.ref py), .unset] [])) _
    refine XS.aloadN X0.here hx rfl (hb hby d7_0) rfl rfl ?_
    show Steps p.tables e below (s₁.setTop (mkF m 1 #[.val (.ref px), .val (.ref py), .unset] [(.ref py)])) _
    refine st1 _ ?_
    show Steps p.tables e below (T1.setTop (mkF m 4 #[.val (.ref px), .val (.ref py), .unset] [(.int (0 : Int32))])) _
    refine XS.ifYes X1.here hx rfl (pc0 := 4) (pc' := 49) rfl (hb hby d7_4) rfl ((if0 _ _).trans (teq (rfl : (0 : Int32) = (0 : Int32))).1) (by decide) (by decide) ?_
    show Steps p.tables e below (T1.setTop (mkF m 49 #[.val (.ref px), .val (.ref py), .unset] [])) _
    refine XS.iconst X1.here hx rfl (hb hby d7_49) ?_
    show Steps p.tables e below (T1.setTop (mkF m 50 #[.val (.ref px), .val (.ref py), .unset] [(.int (0 : Int32))])) _
    exact retN X1 hx (t := .boolean) Bd.returns (by simp) (hb hby d7_50) hr
  · show Q7s Z px py h0 n0 _ T1.heap _
    rw [e1]
    exact ⟨rfl, N0, rfl⟩
theorem d9_0 : decode jdk_43_method_3_code 0 = .ok (.iload_n 0, 1) := by decide +kernel
theorem d9_1 : decode jdk_43_method_3_code 1 = .ok (.sipush 255, 3) := by decide +kernel
theorem d9_4 : decode jdk_43_method_3_code 4 = .ok (.if_icmp .gt 7, 3) := by decide +kernel
theorem d9_11 : decode jdk_43_method_3_code 11 = .ok (.iconst 0, 1) := by decide +kernel
theorem d9_12 : decode jdk_43_method_3_code 12 = .ok (.ireturn, 1) := by decide +kernel
theorem d9_7 : decode jdk_43_method_3_code 7 = .ok (.iconst 1, 1) := by decide +kernel
theorem d9_8 : decode jdk_43_method_3_code 8 = .ok (.goto 4, 3) := by decide +kernel
theorem pn_3 : plainName "java/lang/StringLatin1" = true := by first | (simp [plainName, overriddenIn]; done) | decide +kernel
theorem ef_rm9 (m : MethodId) (x0 : Int32) : entryFrame m #[(.int x0)] 1 = mkF m 0 #[.val (.int x0)] [] := by first | (simp [entryFrame, mkF, argsToLocals, Value.category]; done) | rfl
def canF (p1 : Int32) : Int32 :=
  if (255 : Int32) < p1 then (0 : Int32)
  else (1 : Int32)
def Q9 (Z : State) (p1 : Int32) (h0 : Heap) (n0 : Nat) (v : Option Value) (h : Heap) (L : List Loc) : Prop := v = some (.int (canF p1)) ∧ Fr n0 L ∧ h = h0
set_option maxRecDepth 65536 in
set_option maxHeartbeats 40000000 in
theorem rm9 (l : Launch) (Z : State) (a0 : Array Value) (hw : ∀ d ∈ tables_1, d.before a0 Z = true) (ws : List Jvm.Cond) (p1 : Int32) (h0 : Heap) (n0 : Nat) (Z0 : n0 ≤ h0.size) :
    MetFree l (⟨"java/lang/StringLatin1", "canEncode", "(C)Z"⟩ : MethodName) (head1 (Jvm.Cond.code (⟨"java/lang/StringLatin1", "canEncode", "(C)Z"⟩ : MethodName) jdk_43_method_3_code 1 (some .boolean) :: ws) ({ frames := 0, cells := 0, slots := 0, locals := 0 } : Room)) (fun a U => a = #[(.int p1)] ∧ Z.Warmed39 U.vm ∧ U.heap = h0) (fun _ _ _ _ _ => True) (fun _ U o U' => ∃ v L, o = .returned v ∧ Q9 Z p1 h0 n0 v U'.heap L ∧ FrameEnd U o U' L ({ frames := 0, cells := 0, slots := 0, locals := 0 } : Room).cells ({ frames := 0, cells := 0, slots := 0, locals := 0 } : Room).slots) := by
  refine MetFree.of_bodySF (plainFor_of_name pn_3) hisR ?_
  intro p e s m args below meth c s₁ Bd hml0 hP hK
  obtain ⟨rfl, hZ, hh⟩ := hP
  have hx := Bd.exec
  have hby := Bd.bytes
  have hml : c.maxLocals = 1 := hml0
  have hown : s.vm.findClass "java/lang/StringLatin1" = some m.cls := findClass_of_methodNamed Bd.named
  have hnm := (name_of_methodNamed Bd.named Bd.method).1
  have X0 : Stand p l e ({ frames := 0, cells := 0, slots := 0, locals := 0 } : Room) s m #[(.int p1)] below meth c s₁ [] 0 0 := Stand.of_body Bd
  have e0 : s₁.heap = h0 := by rw [← hh, Bd.state]; rfl
  have N0 := Fr.nil n0
  have pre0 : ∀ t, Steps p.tables e below (s₁.setTop (mkF m 0 #[.val (.int p1)] [])) t → Steps p.tables e below (s₁.setTop (entryFrame m #[(.int p1)] 1)) t := fun t k => castTop (ef_rm9 m p1) k
  have pre1 : ∀ t, Steps p.tables e below (s₁.setTop (mkF m 4 #[.val (.int p1)] [(.int (255 : Int32)), (.int p1)])) t → Steps p.tables e below (s₁.setTop (entryFrame m #[(.int p1)] 1)) t := by
    intro t kt
    refine pre0 t ?_
    show Steps p.tables e below (s₁.setTop (mkF m 0 #[.val (.int p1)] [])) _
    refine XS.iloadN X0.here hx rfl (hb hby d9_0) rfl ?_
    show Steps p.tables e below (s₁.setTop (mkF m 1 #[.val (.int p1)] [(.int p1)])) _
    refine XS.sipush X0.here hx rfl (hb hby d9_1) ?_
    show Steps p.tables e below (s₁.setTop (mkF m 4 #[.val (.int p1)] [(.int (255 : Int32)), (.int p1)])) _
    exact kt
  by_cases hc4_2 : (255 : Int32) < p1
  · obtain ⟨fs, hr, hrun, hended, hW, hsame⟩ := X0.leave (v := some (.int (0 : Int32))) (fun h => by rw [Bd.returns] at h; cases h)
    refine ⟨_, _, pre1 _ ?_, hrun, hended, _, _, rfl, ?_, ⟨_, rfl⟩, hW, hsame.mono (by decide) (by decide)⟩
    · show Steps p.tables e below (s₁.setTop (mkF m 4 #[.val (.int p1)] [(.int (255 : Int32)), (.int p1)])) _
      refine XS.icmpYes X0.here hx rfl (pc0 := 4) (pc' := 11) rfl (hb hby d9_4) rfl (tlt hc4_2).2.2.1 (by decide) (by decide) ?_
      show Steps p.tables e below (s₁.setTop (mkF m 11 #[.val (.int p1)] [])) _
      refine XS.iconst X0.here hx rfl (hb hby d9_11) ?_
      show Steps p.tables e below (s₁.setTop (mkF m 12 #[.val (.int p1)] [(.int (0 : Int32))])) _
      exact retN X0 hx (t := .boolean) Bd.returns (by simp) (hb hby d9_12) hr
    · show Q9 Z p1 h0 n0 _ s₁.heap _
      rw [e0]
      refine ⟨?_, N0, rfl⟩
      show (some (.int (0 : Int32)) : Option Value) = some (.int (canF p1))
      rw [show (canF p1) = (0 : Int32) from by unfold canF; rw [if_pos hc4_2]]
  · obtain ⟨fs, hr, hrun, hended, hW, hsame⟩ := X0.leave (v := some (.int (1 : Int32))) (fun h => by rw [Bd.returns] at h; cases h)
    refine ⟨_, _, pre1 _ ?_, hrun, hended, _, _, rfl, ?_, ⟨_, rfl⟩, hW, hsame.mono (by decide) (by decide)⟩
    · show Steps p.tables e below (s₁.setTop (mkF m 4 #[.val (.int p1)] [(.int (255 : Int32)), (.int p1)])) _
      refine XS.icmpNo X0.here hx rfl (hb hby d9_4) rfl (flt hc4_2).2.2.1 ?_
      show Steps p.tables e below (s₁.setTop (mkF m 7 #[.val (.int p1)] [])) _
      refine XS.iconst X0.here hx rfl (hb hby d9_7) ?_
      show Steps p.tables e below (s₁.setTop (mkF m 8 #[.val (.int p1)] [(.int (1 : Int32))])) _
      refine XS.goto X0.here hx rfl (pc0 := 8) (pc' := 12) rfl (hb hby d9_8) (by decide) (by decide) ?_
      show Steps p.tables e below (s₁.setTop (mkF m 12 #[.val (.int p1)] [(.int (1 : Int32))])) _
      exact retN X0 hx (t := .boolean) Bd.returns (by simp) (hb hby d9_12) hr
    · show Q9 Z p1 h0 n0 _ s₁.heap _
      rw [e0]
      refine ⟨?_, N0, rfl⟩
      show (some (.int (1 : Int32)) : Option Value) = some (.int (canF p1))
      rw [show (canF p1) = (1 : Int32) from by unfold canF; rw [if_neg hc4_2]]
theorem d10_0 : decode jdk_43_method_46_code 0 = .ok (.iconst 1, 1) := by decide +kernel
theorem d10_1 : decode jdk_43_method_46_code 1 = .ok (.newarray .byte, 2) := by decide +kernel
theorem d10_3 : decode jdk_43_method_46_code 3 = .ok (.dup, 1) := by decide +kernel
theorem d10_4 : decode jdk_43_method_46_code 4 = .ok (.iconst 0, 1) := by decide +kernel
theorem d10_5 : decode jdk_43_method_46_code 5 = .ok (.iload_n 0, 1) := by decide +kernel
theorem d10_6 : decode jdk_43_method_46_code 6 = .ok (.i2b, 1) := by decide +kernel
theorem d10_7 : decode jdk_43_method_46_code 7 = .ok (.bastore, 1) := by decide +kernel
theorem d10_8 : decode jdk_43_method_46_code 8 = .ok (.areturn, 1) := by decide +kernel
theorem ef_rm10 (m : MethodId) (x0 : Int32) : entryFrame m #[(.int x0)] 1 = mkF m 0 #[.val (.int x0)] [] := by first | (simp [entryFrame, mkF, argsToLocals, Value.category]; done) | rfl
def Q10 (Z : State) (pc : Int32) (h0 : Heap) (n0 : Nat) (v : Option Value) (h : Heap) (L : List Loc) : Prop := ∃ b : Addr, v = some (.ref b) ∧ Fr n0 L ∧ n0 ≤ b ∧ h0.size ≤ b ∧ b < h.size ∧ Keep h0 h []
set_option maxRecDepth 65536 in
set_option maxHeartbeats 40000000 in
theorem rm10 (l : Launch) (Z : State) (a0 : Array Value) (hw : ∀ d ∈ tables_1, d.before a0 Z = true) (ws : List Jvm.Cond) (pc : Int32) (h0 : Heap) (n0 : Nat) (Z0 : n0 ≤ h0.size) :
    MetFree l (⟨"java/lang/StringLatin1", "toBytes", "(C)[B"⟩ : MethodName) (head1 (Jvm.Cond.code (⟨"java/lang/StringLatin1", "toBytes", "(C)[B"⟩ : MethodName) jdk_43_method_46_code 1 (some (.array .byte)) :: ws) ({ frames := 0, cells := 1, slots := 1, locals := 0 } : Room)) (fun a U => a = #[(.int pc)] ∧ Z.Warmed39 U.vm ∧ U.heap = h0) (fun _ _ _ _ _ => True) (fun _ U o U' => ∃ v L, o = .returned v ∧ Q10 Z pc h0 n0 v U'.heap L ∧ FrameEnd U o U' L ({ frames := 0, cells := 1, slots := 1, locals := 0 } : Room).cells ({ frames := 0, cells := 1, slots := 1, locals := 0 } : Room).slots) := by
  refine MetFree.of_bodySF (plainFor_of_name pn_3) hisR ?_
  intro p e s m args below meth c s₁ Bd hml0 hP hK
  obtain ⟨rfl, hZ, hh⟩ := hP
  have hx := Bd.exec
  have hby := Bd.bytes
  have hml : c.maxLocals = 1 := hml0
  have hown : s.vm.findClass "java/lang/StringLatin1" = some m.cls := findClass_of_methodNamed Bd.named
  have hnm := (name_of_methodNamed Bd.named Bd.method).1
  have X0 : Stand p l e ({ frames := 0, cells := 1, slots := 1, locals := 0 } : Room) s m #[(.int pc)] below meth c s₁ [] 0 0 := Stand.of_body Bd
  have e0 : s₁.heap = h0 := by rw [← hh, Bd.state]; rfl
  have N0 := Fr.nil n0
  have pre0 : ∀ t, Steps p.tables e below (s₁.setTop (mkF m 0 #[.val (.int pc)] [])) t → Steps p.tables e below (s₁.setTop (entryFrame m #[(.int pc)] 1)) t := fun t k => castTop (ef_rm10 m pc) k
  obtain ⟨T1, h1, k1, X1, e1, E1, A1, st1⟩ := newP X0 hx hZ (hw _ (List.mem_of_getElem? (i := 23) rfl)) e0 (g := (mkF m 1 #[.val (.int pc)] [(.int (1 : Int32))])) rfl (hb hby d10_1) rfl (by decide) (cap := 1) (by decide) (by decide) (by decide) (by decide)
  obtain ⟨b1, g1⟩ : ∃ z, z = h0.size := ⟨_, rfl⟩
  rw [← g1] at A1 st1
  have g_b1 : n0 ≤ b1 := Nat.le_trans Z0 (Nat.le_of_eq g1.symm)
  have sz_b1 : h0.size ≤ b1 := Nat.le_trans (Keep.refl h0 []).1 (Nat.le_of_eq g1.symm)
  have Kc1 : Keep h0 h1 [] := (Keep.refl h0 []).ext E1
  have V_b1 : Arv Z h1 b1 k1 .byte (1 : Int32) [(.int (0 : Int32))] (.int (0 : Int32)) := (Arv.new A1 (by decide)).pad (pad_rep [] (.int (0 : Int32)) 1)
  obtain ⟨cl2, Ar2, qc2, Sz2, Ng2, Hs2, Gs2⟩ := (id V_b1)
  have hin2 : ¬ ((0 : Int32) < 0 ∨ cl2.slots.size ≤ ((0 : Int32)).toNatClampNeg) := inb_of Sz2 ⟨by decide, by decide⟩
  obtain ⟨T3, h3, X3, e3, W3, st3⟩ := stB X1 hx hZ e1 Ar2 (j := (0 : Int32)) hin2 (g := (mkF m 7 #[.val (.int pc)] [(.int (pc.toInt8.toInt32)), (.int (0 : Int32)), (.ref b1), (.ref b1)])) rfl rfl (hb hby d10_7)
  have Kc3 : Keep h0 h3 [] := Kc1.wr W3 (Or.inr sz_b1)
  have N3 := Fr.snoc X3 N0 g_b1
  have V3 : Arv Z h3 b1 k1 .byte (1 : Int32) [(.int (nar .byte (pc.toInt8.toInt32)))] (.int (0 : Int32)) := Arv.set Ar2 qc2 Sz2 Ng2 Hs2 Gs2 (fits_nar_byte _) W3 0 rfl (Nat.le_of_ble_eq_true rfl)
  obtain ⟨fs, hr, hrun, hended, hW, hsame⟩ := X3.leave (v := some (.ref b1)) (fun h => by rw [Bd.returns] at h; cases h)
  refine ⟨_, _, pre0 _ ?_, hrun, hended, _, _, rfl, ?_, ⟨_, rfl⟩, hW, hsame.mono (by decide) (by decide)⟩
  · show Steps p.tables e below (s₁.setTop (mkF m 0 #[.val (.int pc)] [])) _
    refine XS.iconst X0.here hx rfl (hb hby d10_0) ?_
    show Steps p.tables e below (s₁.setTop (mkF m 1 #[.val (.int pc)] [(.int (1 : Int32))])) _
    refine st1 _ ?_
    show Steps p.tables e below (T1.setTop (mkF m 3 #[.val (.int pc)] [(.ref b1)])) _
    refine XS.dup X1.here hx rfl (hb hby d10_3) rfl rfl ?_
    show Steps p.tables e below (T1.setTop (mkF m 4 #[.val (.int pc)] [(.ref b1), (.ref b1)])) _
    refine XS.iconst X1.here hx rfl (hb hby d10_4) ?_
    show Steps p.tables e below (T1.setTop (mkF m 5 #[.val (.int pc)] [(.int (0 : Int32)), (.ref b1), (.ref b1)])) _
    refine XS.iloadN X1.here hx rfl (hb hby d10_5) rfl ?_
    show Steps p.tables e below (T1.setTop (mkF m 6 #[.val (.int pc)] [(.int pc), (.int (0 : Int32)), (.ref b1), (.ref b1)])) _
    refine XS.i2b X1.here hx rfl (hb hby d10_6) rfl ?_
    show Steps p.tables e below (T1.setTop (mkF m 7 #[.val (.int pc)] [(.int (pc.toInt8.toInt32)), (.int (0 : Int32)), (.ref b1), (.ref b1)])) _
    refine st3 _ ?_
    show Steps p.tables e below (T3.setTop (mkF m 8 #[.val (.int pc)] [(.ref b1)])) _
    exact retOut X3 hx Bd.returns rfl (Or.inr (Or.inr (Or.inr (Or.inr ⟨rfl, rfl, rfl⟩)))) (hb hby d10_8) hr
  · show Q10 Z pc h0 n0 _ T3.heap _
    rw [e3]
    exact ⟨_, rfl, N3, g_b1, sz_b1, V3.lt, Kc3⟩
theorem d11_0 : decode jdk_42_method_151_code 0 = .ok (.aload_n 0, 1) := by decide +kernel
theorem d11_1 : decode jdk_42_method_151_code 1 = .ok (.invokespecial 1, 3) := by decide +kernel
theorem d11_4 : decode jdk_42_method_151_code 4 = .ok (.aload_n 0, 1) := by decide +kernel
theorem d11_5 : decode jdk_42_method_151_code 5 = .ok (.aload_n 1, 1) := by decide +kernel
theorem d11_6 : decode jdk_42_method_151_code 6 = .ok (.putfield 9, 3) := by decide +kernel
theorem d11_9 : decode jdk_42_method_151_code 9 = .ok (.aload_n 0, 1) := by decide +kernel
theorem d11_10 : decode jdk_42_method_151_code 10 = .ok (.iload_n 2, 1) := by decide +kernel
theorem d11_11 : decode jdk_42_method_151_code 11 = .ok (.putfield 15, 3) := by decide +kernel
theorem d11_14 : decode jdk_42_method_151_code 14 = .ok (.return_, 1) := by decide +kernel
theorem pn_4 : plainName "java/lang/String" = true := by first | (simp [plainName, overriddenIn]; done) | decide +kernel
theorem ef_rm11 (m : MethodId) (x0 : Addr) (x1 : Addr) (x2 : Int32) : entryFrame m #[(.ref x0), (.ref x1), (.int x2)] 3 = mkF m 0 #[.val (.ref x0), .val (.ref x1), .val (.int x2)] [] := by first | (simp [entryFrame, mkF, argsToLocals, Value.category]; done) | rfl
def Q11 (Z : State) (ob : Addr) (pv : Addr) (pk : Int32) (h0 : Heap) (n0 : Nat) (v : Option Value) (h : Heap) (L : List Loc) : Prop := v = none ∧ Fr n0 L ∧ Keep h0 h [ob] ∧ Exa Z h ob "java/lang/String"
set_option maxRecDepth 65536 in
set_option maxHeartbeats 40000000 in
theorem rm11 (l : Launch) (Z : State) (a0 : Array Value) (hw : ∀ d ∈ tables_1, d.before a0 Z = true) (ws : List Jvm.Cond) (ob : Addr) (pv : Addr) (pk : Int32) (h0 : Heap) (n0 : Nat) (Z0 : n0 ≤ h0.size) (E_ob : Exa Z h0 ob "java/lang/String") (g_ob : n0 ≤ ob) (F_value : Fld Z h0 ob "java/lang/String" "value" "[B" .null) (F_coder : Fld Z h0 ob "java/lang/String" "coder" "B" (.int (0 : Int32))) :
    MetFree l (⟨"java/lang/String", "<init>", "([BB)V"⟩ : MethodName) (head1 (Jvm.Cond.code (⟨"java/lang/String", "<init>", "([BB)V"⟩ : MethodName) jdk_42_method_151_code 3 none :: ws) ({ frames := 1, cells := 0, slots := 0, locals := 12 } : Room)) (fun a U => a = #[(.ref ob), (.ref pv), (.int pk)] ∧ Z.Warmed39 U.vm ∧ U.heap = h0) (fun _ _ _ _ _ => True) (fun _ U o U' => ∃ v L, o = .returned v ∧ Q11 Z ob pv pk h0 n0 v U'.heap L ∧ FrameEnd U o U' L ({ frames := 1, cells := 0, slots := 0, locals := 12 } : Room).cells ({ frames := 1, cells := 0, slots := 0, locals := 12 } : Room).slots) := by
  refine MetFree.of_bodySF (plainFor_of_name pn_4) hisR ?_
  intro p e s m args below meth c s₁ Bd hml0 hP hK
  obtain ⟨rfl, hZ, hh⟩ := hP
  have hx := Bd.exec
  have hby := Bd.bytes
  have hml : c.maxLocals = 3 := hml0
  have hown : s.vm.findClass "java/lang/String" = some m.cls := findClass_of_methodNamed Bd.named
  have hnm := (name_of_methodNamed Bd.named Bd.method).1
  have X0 : Stand p l e ({ frames := 1, cells := 0, slots := 0, locals := 12 } : Room) s m #[(.ref ob), (.ref pv), (.int pk)] below meth c s₁ [] 0 0 := Stand.of_body Bd
  have e0 : s₁.heap = h0 := by rw [← hh, Bd.state]; rfl
  have N0 := Fr.nil n0
  have pre0 : ∀ t, Steps p.tables e below (s₁.setTop (mkF m 0 #[.val (.ref ob), .val (.ref pv), .val (.int pk)] [])) t → Steps p.tables e below (s₁.setTop (entryFrame m #[(.ref ob), (.ref pv), (.int pk)] 3)) t := fun t k => castTop (ef_rm11 m ob pv pk) k
  obtain ⟨T1, X1, e1, st1⟩ := initO X0 hx hZ hown (hw _ (List.mem_of_getElem? (i := 98) rfl)) (hw _ (List.mem_of_getElem? (i := 41) rfl)) (hw _ (List.mem_of_getElem? (i := 42) rfl)) e0 (g := (mkF m 1 #[.val (.ref ob), .val (.ref pv), .val (.int pk)] [(.ref ob)])) rfl (by rw [hml]; rfl) rfl (hb hby d11_1) (by decide) (W := 0) (by show 2 * 0 + _ ≤ _; exact Nat.le_of_eq rfl) (by decide)
  obtain ⟨T2, h2, X2, e2, W2, st2⟩ := putF X1 hx hZ hown (host := "") (Or.inl (hw _ (List.mem_of_getElem? (i := 99) rfl))) Via.refl e1 F_value E_ob (Or.inr ⟨(hw _ (List.mem_of_getElem? (i := 24) rfl)), rfl, hnm⟩) (hw _ (List.mem_of_getElem? (i := 22) rfl)) (ty := (.array .byte)) (by decide) rfl rfl (g := (mkF m 6 #[.val (.ref ob), .val (.ref pv), .val (.int pk)] [(.ref pv), (.ref ob)])) rfl rfl (hb hby d11_6)
  have Kc2 : Keep h0 h2 [ob] := (Keep.refl h0 [ob]).wr W2 (Or.inl (List.mem_of_getElem? (i := 0) rfl))
  have N2 := Fr.snoc X2 N0 g_ob
  have Fw2 : Fld Z h2 ob "java/lang/String" "value" "[B" (.ref pv) := F_value.same W2
  obtain ⟨T3, h3, X3, e3, W3, st3⟩ := putFN X2 hx hZ hown (hw _ (List.mem_of_getElem? (i := 100) rfl)) Via.refl e2 (F_coder.other W2 (Or.inr (slot_ne (Or.inr (hw _ (List.mem_of_getElem? (i := 25) rfl))) (Or.inr (hw _ (List.mem_of_getElem? (i := 24) rfl))) (by decide) (t := .byte) (t' := (.array .byte)) (by decide) (by decide)))) (E_ob.wr W2) (Or.inr ⟨(hw _ (List.mem_of_getElem? (i := 25) rfl)), rfl, hnm⟩) (hw _ (List.mem_of_getElem? (i := 22) rfl)) (ty := .byte) (v' := (.int (nar .byte pk))) (by decide) rfl (fits_nar_byte _) (g := (mkF m 11 #[.val (.ref ob), .val (.ref pv), .val (.int pk)] [(.int pk), (.ref ob)])) rfl rfl (hb hby d11_11)
  have Kc3 : Keep h0 h3 [ob] := Kc2.wr W3 (Or.inl (List.mem_of_getElem? (i := 0) rfl))
  have N3 := Fr.snoc X3 N2 g_ob
  have Fw3 : Fld Z h3 ob "java/lang/String" "coder" "B" (.int (nar .byte pk)) := (F_coder.other W2 (Or.inr (slot_ne (Or.inr (hw _ (List.mem_of_getElem? (i := 25) rfl))) (Or.inr (hw _ (List.mem_of_getElem? (i := 24) rfl))) (by decide) (t := .byte) (t' := (.array .byte)) (by decide) (by decide)))).same W3
  obtain ⟨fs, hr, hrun, hended, hW, hsame⟩ := X3.leave (v := none) (fun _ => rfl)
  refine ⟨_, _, pre0 _ ?_, hrun, hended, _, _, rfl, ?_, ⟨_, rfl⟩, hW, hsame.mono (by decide) (by decide)⟩
  · show Steps p.tables e below (s₁.setTop (mkF m 0 #[.val (.ref ob), .val (.ref pv), .val (.int pk)] [])) _
    refine XS.aloadN X0.here hx rfl (hb hby d11_0) rfl rfl ?_
    show Steps p.tables e below (s₁.setTop (mkF m 1 #[.val (.ref ob), .val (.ref pv), .val (.int pk)] [(.ref ob)])) _
    refine st1 _ ?_
    show Steps p.tables e below (T1.setTop (mkF m 4 #[.val (.ref ob), .val (.ref pv), .val (.int pk)] [])) _
    refine XS.aloadN X1.here hx rfl (hb hby d11_4) rfl rfl ?_
    show Steps p.tables e below (T1.setTop (mkF m 5 #[.val (.ref ob), .val (.ref pv), .val (.int pk)] [(.ref ob)])) _
    refine XS.aloadN X1.here hx rfl (hb hby d11_5) rfl rfl ?_
    show Steps p.tables e below (T1.setTop (mkF m 6 #[.val (.ref ob), .val (.ref pv), .val (.int pk)] [(.ref pv), (.ref ob)])) _
    refine st2 _ ?_
    show Steps p.tables e below (T2.setTop (mkF m 9 #[.val (.ref ob), .val (.ref pv), .val (.int pk)] [])) _
    refine XS.aloadN X2.here hx rfl (hb hby d11_9) rfl rfl ?_
    show Steps p.tables e below (T2.setTop (mkF m 10 #[.val (.ref ob), .val (.ref pv), .val (.int pk)] [(.ref ob)])) _
    refine XS.iloadN X2.here hx rfl (hb hby d11_10) rfl ?_
    show Steps p.tables e below (T2.setTop (mkF m 11 #[.val (.ref ob), .val (.ref pv), .val (.int pk)] [(.int pk), (.ref ob)])) _
    refine st3 _ ?_
    show Steps p.tables e below (T3.setTop (mkF m 14 #[.val (.ref ob), .val (.ref pv), .val (.int pk)] [])) _
    exact X3.returnOut hx Bd.returns (hb hby d11_14) hr
  · show Q11 Z ob pv pk h0 n0 _ T3.heap _
    rw [e3]
    exact ⟨rfl, N3, Kc3, ((E_ob.wr W2).wr W3)⟩
theorem d8_0 : decode jdk_42_method_139_code 0 = .ok (.getstatic 38, 3) := by decide +kernel
theorem d8_3 : decode jdk_42_method_139_code 3 = .ok (.ifCond .eq 23, 3) := by decide +kernel
theorem d8_6 : decode jdk_42_method_139_code 6 = .ok (.iload_n 0, 1) := by decide +kernel
theorem d8_7 : decode jdk_42_method_139_code 7 = .ok (.invokestatic 1015, 3) := by decide +kernel
theorem pd_2 : parseMethodDescriptor "(C)Z" = some ⟨[.char], some .boolean⟩ := by decide +kernel
theorem d8_10 : decode jdk_42_method_139_code 10 = .ok (.ifCond .eq 16, 3) := by decide +kernel
theorem d8_13 : decode jdk_42_method_139_code 13 = .ok (.new 10, 3) := by decide +kernel
theorem d8_16 : decode jdk_42_method_139_code 16 = .ok (.dup, 1) := by decide +kernel
theorem d8_17 : decode jdk_42_method_139_code 17 = .ok (.iload_n 0, 1) := by decide +kernel
theorem d8_18 : decode jdk_42_method_139_code 18 = .ok (.invokestatic 1018, 3) := by decide +kernel
theorem pd_3 : parseMethodDescriptor "(C)[B" = some ⟨[.char], some (.array .byte)⟩ := by decide +kernel
theorem d8_21 : decode jdk_42_method_139_code 21 = .ok (.iconst 0, 1) := by decide +kernel
theorem d8_22 : decode jdk_42_method_139_code 22 = .ok (.invokespecial 209, 3) := by decide +kernel
theorem pd_4 : parseMethodDescriptor "([BB)V" = some ⟨[(.array .byte), .byte], none⟩ := by decide +kernel
theorem d8_25 : decode jdk_42_method_139_code 25 = .ok (.areturn, 1) := by decide +kernel
theorem ef_rm8 (m : MethodId) (x0 : Int32) : entryFrame m #[(.int x0)] 1 = mkF m 0 #[.val (.int x0)] [] := by first | (simp [entryFrame, mkF, argsToLocals, Value.category]; done) | rfl
def Q8 (Z : State) (pc : Int32) (zc : Int32) (h0 : Heap) (n0 : Nat) (v : Option Value) (h : Heap) (L : List Loc) : Prop := ∃ b : Addr, v = some (.ref b) ∧ Fr n0 L ∧ n0 ≤ b ∧ Keep h0 h [] ∧ Exa Z h b "java/lang/String"
set_option maxRecDepth 65536 in
set_option maxHeartbeats 40000000 in
theorem rm8 (l : Launch) (Z : State) (a0 : Array Value) (hw : ∀ d ∈ tables_1, d.before a0 Z = true) (ws : List Jvm.Cond) (pc : Int32) (zc : Int32) (h0 : Heap) (n0 : Nat) (Z0 : n0 ≤ h0.size) (S_c : Sta Z h0 "java/lang/String" "COMPACT_STRINGS" "Z" (.int zc)) (hzc : ¬ zc = (0 : Int32)) (hpc : ¬ (255 : Int32) < pc) :
    MetFree l (⟨"java/lang/String", "valueOf", "(C)Ljava/lang/String;"⟩ : MethodName) (head1 (Jvm.Cond.code (⟨"java/lang/String", "valueOf", "(C)Ljava/lang/String;"⟩ : MethodName) jdk_42_method_139_code 1 (some (.object "java/lang/String")) :: ws) ({ frames := 2, cells := 2, slots := 5, locals := 27 } : Room)) (fun a U => a = #[(.int pc)] ∧ Z.Warmed39 U.vm ∧ U.heap = h0) (fun _ _ _ _ _ => True) (fun _ U o U' => ∃ v L, o = .returned v ∧ Q8 Z pc zc h0 n0 v U'.heap L ∧ FrameEnd U o U' L ({ frames := 2, cells := 2, slots := 5, locals := 27 } : Room).cells ({ frames := 2, cells := 2, slots := 5, locals := 27 } : Room).slots) := by
  refine MetFree.of_bodySF (plainFor_of_name pn_4) hisR ?_
  intro p e s m args below meth c s₁ Bd hml0 hP hK
  obtain ⟨rfl, hZ, hh⟩ := hP
  have hx := Bd.exec
  have hby := Bd.bytes
  have hml : c.maxLocals = 1 := hml0
  have hown : s.vm.findClass "java/lang/String" = some m.cls := findClass_of_methodNamed Bd.named
  have hnm := (name_of_methodNamed Bd.named Bd.method).1
  have X0 : Stand p l e ({ frames := 2, cells := 2, slots := 5, locals := 27 } : Room) s m #[(.int pc)] below meth c s₁ [] 0 0 := Stand.of_body Bd
  have e0 : s₁.heap = h0 := by rw [← hh, Bd.state]; rfl
  have N0 := Fr.nil n0
  have pre0 : ∀ t, Steps p.tables e below (s₁.setTop (mkF m 0 #[.val (.int pc)] [])) t → Steps p.tables e below (s₁.setTop (entryFrame m #[(.int pc)] 1)) t := fun t k => castTop (ef_rm8 m pc) k
  obtain ⟨T1, X1, e1, st1⟩ := getS2 X0 hx hZ hown (host := "") (Or.inl (hw _ (List.mem_of_getElem? (i := 85) rfl))) Via.refl e0 S_c (g := (mkF m 0 #[.val (.int pc)] [])) rfl (hb hby d8_0)
  obtain ⟨_, _, ⟨T2, L2, k2, n2⟩, -, X2, ⟨Lc2, hQ2, l2, y2, z2⟩, st2⟩ := Jvm.LawKit.callS X1 hx (y := (⟨"java/lang/StringLatin1", "canEncode", "(C)Z"⟩ : MethodName)) hown (mvT hZ (hw _ (List.mem_of_getElem? (i := 86) rfl))) (mvT hZ (hw _ (List.mem_of_getElem? (i := 87) rfl))) (mvT hZ (hw _ (List.mem_of_getElem? (i := 88) rfl))) (mvT hZ (hw _ (List.mem_of_getElem? (i := 89) rfl))) (by decide) (backOf (W := 0) (rm9 l Z a0 hw [] pc h0 n0 Z0 ) hZ (hw _ (List.mem_of_getElem? (i := 89) rfl)) (hw _ (List.mem_of_getElem? (i := 88) rfl)) (by decide) (by decide)) (g := (mkF m 7 #[.val (.int pc)] [(.int pc)])) rfl (by rw [hml]; rfl) (argsL := [(.int pc)]) (rest := []) (lenOf pd_2 rfl) rfl (by show 2 * 0 + _ ≤ _; exact Nat.le_of_eq rfl) (hb hby d8_7) (fun _ _ => ⟨rfl, e1, (by decide : 0 + 0 ≤ _), (by decide : 0 + 0 ≤ _)⟩)
  dsimp only [Pt.U, Pt.locs, Pt.cells, Pt.slots] at X2 l2 y2 z2 st2 hQ2
  subst l2 y2 z2
  obtain ⟨rfl, N2q, e2⟩ := hQ2
  have N2 := Fr.app N0 N2q
  obtain ⟨T3, h3, X3, e3, E3, A3, D3, -, st3⟩ := newO X2 hx hZ hown (hw _ (List.mem_of_getElem? (i := 90) rfl)) (hw _ (List.mem_of_getElem? (i := 22) rfl)) (hw _ (List.mem_of_getElem? (i := 21) rfl)) e2 (g := (mkF m 13 #[.val (.int pc)] [])) rfl (hb hby d8_13) (by decide) (by decide)
  obtain ⟨b3, g3⟩ : ∃ z, z = h0.size := ⟨_, rfl⟩
  rw [← g3] at A3 D3 st3
  have g_b3 : n0 ≤ b3 := Nat.le_trans Z0 (Nat.le_of_eq g3.symm)
  have sz_b3 : h0.size ≤ b3 := Nat.le_trans (Keep.refl h0 []).1 (Nat.le_of_eq g3.symm)
  have Kc3 : Keep h0 h3 [] := (Keep.refl h0 []).ext E3
  have F_value_b3 : Fld Z h3 b3 "java/lang/String" "value" "[B" .null := D3 (Or.inr (hw _ (List.mem_of_getElem? (i := 24) rfl))) (ty := (.array .byte)) (by decide)
  have F_coder_b3 : Fld Z h3 b3 "java/lang/String" "coder" "B" (.int (0 : Int32)) := D3 (Or.inr (hw _ (List.mem_of_getElem? (i := 25) rfl))) (ty := .byte) (by decide)
  obtain ⟨_, _, ⟨T4, L4, k4, n4⟩, -, X4, ⟨Lc4, hQ4, l4, y4, z4⟩, st4⟩ := Jvm.LawKit.callS X3 hx (y := (⟨"java/lang/StringLatin1", "toBytes", "(C)[B"⟩ : MethodName)) hown (mvT hZ (hw _ (List.mem_of_getElem? (i := 91) rfl))) (mvT hZ (hw _ (List.mem_of_getElem? (i := 92) rfl))) (mvT hZ (hw _ (List.mem_of_getElem? (i := 88) rfl))) (mvT hZ (hw _ (List.mem_of_getElem? (i := 93) rfl))) (by decide) (backOf (W := 2) (rm10 l Z a0 hw [] pc h3 n0 (Nat.le_trans Z0 Kc3.1) ) hZ (hw _ (List.mem_of_getElem? (i := 93) rfl)) (hw _ (List.mem_of_getElem? (i := 88) rfl)) (by decide) (by decide)) (g := (mkF m 18 #[.val (.int pc)] [(.int pc), (.ref b3), (.ref b3)])) rfl (by rw [hml]; rfl) (argsL := [(.int pc)]) (rest := [(.ref b3), (.ref b3)]) (lenOf pd_3 rfl) rfl (by show 2 * 0 + _ ≤ _; exact Nat.le_of_eq rfl) (hb hby d8_18) (fun _ _ => ⟨rfl, e3, (by decide : 1 + 1 ≤ _), (by decide : 4 + 1 ≤ _)⟩)
  dsimp only [Pt.U, Pt.locs, Pt.cells, Pt.slots] at X4 l4 y4 z4 st4 hQ4
  subst l4 y4 z4
  obtain ⟨b4, rfl, N4q, g_b4, szz_4, lt_4, K4⟩ := hQ4
  have N4 := Fr.app N2 N4q
  have Kc4 : Keep h0 T4.heap [] := Kc3.trans K4 all0
  obtain ⟨_, _, ⟨T5, L5, k5, n5⟩, -, X5, ⟨Lc5, hQ5, l5, y5, z5⟩, st5⟩ := X4.specialBack hx (y := (⟨"java/lang/String", "<init>", "([BB)V"⟩ : MethodName)) rfl hown (mvT hZ (hw _ (List.mem_of_getElem? (i := 94) rfl))) (mvT hZ (hw _ (List.mem_of_getElem? (i := 95) rfl))) (mvT hZ (hw _ (List.mem_of_getElem? (i := 97) rfl))) (by decide) (backOf (W := 1) (rm11 l Z a0 hw [] b3 b4 (0 : Int32) T4.heap n0 (Nat.le_trans Z0 Kc4.1) (A3.keep K4) g_b3 (F_value_b3.keep K4 nin0) (F_coder_b3.keep K4 nin0)) hZ (hw _ (List.mem_of_getElem? (i := 97) rfl)) (hw _ (List.mem_of_getElem? (i := 21) rfl)) (by decide) (by decide)) (g := (mkF m 22 #[.val (.int pc)] [(.int (0 : Int32)), (.ref b4), (.ref b3), (.ref b3)])) rfl (by rw [hml]; rfl) (Steps.refl _) (a := b3) (argsL := [(.ref b4), (.int (0 : Int32))]) (rest := [(.ref b3)]) (lenOf pd_4 rfl) rfl (by show 2 * 0 + _ ≤ _; exact Nat.le_of_eq rfl) (hb hby d8_22) (fun _ _ => ⟨rfl, rfl, (by decide : 2 + 0 ≤ _), (by decide : 5 + 0 ≤ _)⟩)
  dsimp only [Pt.U, Pt.locs, Pt.cells, Pt.slots] at X5 l5 y5 z5 st5 hQ5
  subst l5 y5 z5
  obtain ⟨rfl, N5q, K5, A5c⟩ := hQ5
  have N5 := Fr.app N4 N5q
  have Kc5 : Keep h0 T5.heap [] := Kc4.trans K5 (allS (Or.inr sz_b3) all0)
  obtain ⟨fs, hr, hrun, hended, hW, hsame⟩ := X5.leave (v := some (.ref b3)) (fun h => by rw [Bd.returns] at h; cases h)
  refine ⟨_, _, pre0 _ ?_, hrun, hended, _, _, rfl, ?_, ⟨_, rfl⟩, hW, hsame.mono (by decide) (by decide)⟩
  · show Steps p.tables e below (s₁.setTop (mkF m 0 #[.val (.int pc)] [])) _
    refine st1 _ ?_
    show Steps p.tables e below (T1.setTop (mkF m 3 #[.val (.int pc)] [(.int zc)])) _
    refine XS.ifNo X1.here hx rfl (hb hby d8_3) rfl ((if0 _ _).trans (feq hzc).1) ?_
    show Steps p.tables e below (T1.setTop (mkF m 6 #[.val (.int pc)] [])) _
    refine XS.iloadN X1.here hx rfl (hb hby d8_6) rfl ?_
    show Steps p.tables e below (T1.setTop (mkF m 7 #[.val (.int pc)] [(.int pc)])) _
    refine st2 _ ?_
    show Steps p.tables e below (T2.setTop (mkF m 10 #[.val (.int pc)] [(.int (canF pc))])) _
    refine XS.ifNo X2.here hx rfl (hb hby d8_10) rfl ((if0 _ _).trans (feq (by unfold canF; rw [if_neg hpc]; decide : ¬ ((canF pc) = (0 : Int32)))).1) ?_
    show Steps p.tables e below (T2.setTop (mkF m 13 #[.val (.int pc)] [])) _
    refine st3 _ ?_
    show Steps p.tables e below (T3.setTop (mkF m 16 #[.val (.int pc)] [(.ref b3)])) _
    refine XS.dup X3.here hx rfl (hb hby d8_16) rfl rfl ?_
    show Steps p.tables e below (T3.setTop (mkF m 17 #[.val (.int pc)] [(.ref b3), (.ref b3)])) _
    refine XS.iloadN X3.here hx rfl (hb hby d8_17) rfl ?_
    show Steps p.tables e below (T3.setTop (mkF m 18 #[.val (.int pc)] [(.int pc), (.ref b3), (.ref b3)])) _
    refine st4 _ ?_
    show Steps p.tables e below (T4.setTop (mkF m 21 #[.val (.int pc)] [(.ref b4), (.ref b3), (.ref b3)])) _
    refine XS.iconst X4.here hx rfl (hb hby d8_21) ?_
    show Steps p.tables e below (T4.setTop (mkF m 22 #[.val (.int pc)] [(.int (0 : Int32)), (.ref b4), (.ref b3), (.ref b3)])) _
    refine st5.trans ?_
    show Steps p.tables e below (T5.setTop (mkF m 25 #[.val (.int pc)] [(.ref b3)])) _
    exact retOut X5 hx Bd.returns rfl (Or.inr (Or.inr (Or.inr (Or.inr ⟨rfl, rfl, rfl⟩)))) (hb hby d8_25) hr
  · show Q8 Z pc zc h0 n0 _ T5.heap _
    exact ⟨_, rfl, N5, g_b3, Kc5, A5c⟩
theorem own_255 (z : Int32) : ¬ (255 : Int32) < ((z &&& (255 : Int32)).toUInt32.toUInt16.toUInt32.toInt32) := by
  have h := c_and z 255 (by decide)
  have q := c_i2c (z &&& (255 : Int32))
  have e : (255 : Int32).toInt = 255 := rfl
  rw [Int32.lt_iff_toInt_lt, e]
  rw [e] at h
  omega
theorem own_3 (z : Int32) : ¬ (z &&& (3 : Int32)) < 0 ∧ (z &&& (3 : Int32)) < 4 := by
  have h := c_and z 3 (by decide)
  have e3 : (3 : Int32).toInt = 3 := rfl
  have e4 : (4 : Int32).toInt = 4 := rfl
  have e0 : (0 : Int32).toInt = 0 := rfl
  rw [Int32.lt_iff_toInt_lt, Int32.lt_iff_toInt_lt, e0, e4]
  rw [e3] at h
  omega
theorem own_13 (z : Int32) : ¬ ((z &&& (2147483647 : Int32)) % (13 : Int32)) < 0 ∧ ((z &&& (2147483647 : Int32)) % (13 : Int32)) < 13 := by
  have h := c_and z 2147483647 (by decide)
  have r := (c_irem (z &&& (2147483647 : Int32)) 13 13 rfl).1 h.1
  rw [Int32.lt_iff_toInt_lt, Int32.lt_iff_toInt_lt, r]
  have e0 : (0 : Int32).toInt = 0 := rfl
  have e13 : (13 : Int32).toInt = 13 := rfl
  rw [e0, e13]
  omega
theorem own_pick {P : Int32 → Prop} {c : Prop} [Decidable c] {x y v : Int32} (hv : v = (if c then x else y)) (hx : P x) (hy : P y) : P v := by
  subst hv
  split
  · exact hx
  · exact hy
theorem own_eq1 (s r : Addr) : cardEq s r s r = 1 := by unfold cardEq; rw [if_pos rfl, if_pos rfl]
theorem pd_5 : parseMethodDescriptor "(I)Lcom/example/ruffwork/ruffwork/Suit;" = some ⟨[.int], some (.object "com/example/ruffwork/ruffwork/Suit")⟩ := by decide +kernel
theorem pd_6 : parseMethodDescriptor "(I)Lcom/example/ruffwork/ruffwork/Rank;" = some ⟨[.int], some (.object "com/example/ruffwork/ruffwork/Rank")⟩ := by decide +kernel
theorem pd_7 : parseMethodDescriptor "(Lcom/example/ruffwork/ruffwork/Suit;Lcom/example/ruffwork/ruffwork/Rank;)V" = some ⟨[(.object "com/example/ruffwork/ruffwork/Suit"), (.object "com/example/ruffwork/ruffwork/Rank")], none⟩ := by decide +kernel
theorem pd_8 : parseMethodDescriptor "(Ljava/lang/Object;)Z" = some ⟨[(.object "java/lang/Object")], some .boolean⟩ := by decide +kernel
theorem pd_9 : parseMethodDescriptor "(C)Ljava/lang/String;" = some ⟨[.char], some (.object "java/lang/String")⟩ := by decide +kernel
theorem ef_rm0 (m : MethodId) (x0 : Int32) (x1 : Int32) (x2 : Int32) (x3 : Int32) (x4 : Int32) (x5 : Int32) : entryFrame m #[(.int x0), (.int x1), (.int x2), (.int x3), (.int x4), (.int x5)] maxLocals = mkF m 0 #[.val (.int x0), .val (.int x1), .val (.int x2), .val (.int x3), .val (.int x4), .val (.int x5), .unset, .unset, .unset, .unset, .unset, .unset, .unset, .unset] [] := by first | (simp [entryFrame, mkF, argsToLocals, Value.category, maxLocals]; done) | rfl
def Q0 (Z : State) (ps1 : Int32) (pr1 : Int32) (ps2 : Int32) (pr2 : Int32) (pmo : Int32) (pch : Int32) (w_SPADES : Addr) (w_HEARTS : Addr) (w_DIAMONDS : Addr) (w_CLUBS : Addr) (w_TWO : Addr) (w_THREE : Addr) (w_FOUR : Addr) (w_FIVE : Addr) (w_SIX : Addr) (w_SEVEN : Addr) (w_EIGHT : Addr) (w_NINE : Addr) (w_TEN : Addr) (w_JACK : Addr) (w_QUEEN : Addr) (w_KING : Addr) (w_ACE : Addr) (zc : Int32) (h0 : Heap) (n0 : Nat) (v : Option Value) (h : Heap) (L : List Loc) : Prop := v = some (.int 1) ∧ Fr n0 L
set_option maxRecDepth 65536 in
set_option maxHeartbeats 40000000 in
theorem rm0 (l : Launch) (Z : State) (a0 : Array Value) (hw : ∀ d ∈ tables_1, d.before a0 Z = true) (ws : List Jvm.Cond) (ps1 : Int32) (pr1 : Int32) (ps2 : Int32) (pr2 : Int32) (pmo : Int32) (pch : Int32) (w_SPADES : Addr) (w_HEARTS : Addr) (w_DIAMONDS : Addr) (w_CLUBS : Addr) (w_TWO : Addr) (w_THREE : Addr) (w_FOUR : Addr) (w_FIVE : Addr) (w_SIX : Addr) (w_SEVEN : Addr) (w_EIGHT : Addr) (w_NINE : Addr) (w_TEN : Addr) (w_JACK : Addr) (w_QUEEN : Addr) (w_KING : Addr) (w_ACE : Addr) (zc : Int32) (h0 : Heap) (n0 : Nat) (Z0 : n0 ≤ h0.size) (O : Old Z n0 h0) (S_c : Sta Z Z.heap "java/lang/String" "COMPACT_STRINGS" "Z" (.int zc)) (hzc : ¬ zc = (0 : Int32)) (S_SPADES : Sta Z Z.heap "com/example/ruffwork/ruffwork/Suit" "SPADES" "Lcom/example/ruffwork/ruffwork/Suit;" (.ref w_SPADES)) (S_HEARTS : Sta Z Z.heap "com/example/ruffwork/ruffwork/Suit" "HEARTS" "Lcom/example/ruffwork/ruffwork/Suit;" (.ref w_HEARTS)) (S_DIAMONDS : Sta Z Z.heap "com/example/ruffwork/ruffwork/Suit" "DIAMONDS" "Lcom/example/ruffwork/ruffwork/Suit;" (.ref w_DIAMONDS)) (S_CLUBS : Sta Z Z.heap "com/example/ruffwork/ruffwork/Suit" "CLUBS" "Lcom/example/ruffwork/ruffwork/Suit;" (.ref w_CLUBS)) (S_TWO : Sta Z Z.heap "com/example/ruffwork/ruffwork/Rank" "TWO" "Lcom/example/ruffwork/ruffwork/Rank;" (.ref w_TWO)) (S_THREE : Sta Z Z.heap "com/example/ruffwork/ruffwork/Rank" "THREE" "Lcom/example/ruffwork/ruffwork/Rank;" (.ref w_THREE)) (S_FOUR : Sta Z Z.heap "com/example/ruffwork/ruffwork/Rank" "FOUR" "Lcom/example/ruffwork/ruffwork/Rank;" (.ref w_FOUR)) (S_FIVE : Sta Z Z.heap "com/example/ruffwork/ruffwork/Rank" "FIVE" "Lcom/example/ruffwork/ruffwork/Rank;" (.ref w_FIVE)) (S_SIX : Sta Z Z.heap "com/example/ruffwork/ruffwork/Rank" "SIX" "Lcom/example/ruffwork/ruffwork/Rank;" (.ref w_SIX)) (S_SEVEN : Sta Z Z.heap "com/example/ruffwork/ruffwork/Rank" "SEVEN" "Lcom/example/ruffwork/ruffwork/Rank;" (.ref w_SEVEN)) (S_EIGHT : Sta Z Z.heap "com/example/ruffwork/ruffwork/Rank" "EIGHT" "Lcom/example/ruffwork/ruffwork/Rank;" (.ref w_EIGHT)) (S_NINE : Sta Z Z.heap "com/example/ruffwork/ruffwork/Rank" "NINE" "Lcom/example/ruffwork/ruffwork/Rank;" (.ref w_NINE)) (S_TEN : Sta Z Z.heap "com/example/ruffwork/ruffwork/Rank" "TEN" "Lcom/example/ruffwork/ruffwork/Rank;" (.ref w_TEN)) (S_JACK : Sta Z Z.heap "com/example/ruffwork/ruffwork/Rank" "JACK" "Lcom/example/ruffwork/ruffwork/Rank;" (.ref w_JACK)) (S_QUEEN : Sta Z Z.heap "com/example/ruffwork/ruffwork/Rank" "QUEEN" "Lcom/example/ruffwork/ruffwork/Rank;" (.ref w_QUEEN)) (S_KING : Sta Z Z.heap "com/example/ruffwork/ruffwork/Rank" "KING" "Lcom/example/ruffwork/ruffwork/Rank;" (.ref w_KING)) (S_ACE : Sta Z Z.heap "com/example/ruffwork/ruffwork/Rank" "ACE" "Lcom/example/ruffwork/ruffwork/Rank;" (.ref w_ACE)) (E_SPADES : Exa Z Z.heap w_SPADES "com/example/ruffwork/ruffwork/Suit") (F_SPADES : Fld Z Z.heap w_SPADES "java/lang/Enum" "ordinal" "I" (.int (0 : Int32))) (E_HEARTS : Exa Z Z.heap w_HEARTS "com/example/ruffwork/ruffwork/Suit") (F_HEARTS : Fld Z Z.heap w_HEARTS "java/lang/Enum" "ordinal" "I" (.int (1 : Int32))) (E_DIAMONDS : Exa Z Z.heap w_DIAMONDS "com/example/ruffwork/ruffwork/Suit") (F_DIAMONDS : Fld Z Z.heap w_DIAMONDS "java/lang/Enum" "ordinal" "I" (.int (2 : Int32))) (E_CLUBS : Exa Z Z.heap w_CLUBS "com/example/ruffwork/ruffwork/Suit") (F_CLUBS : Fld Z Z.heap w_CLUBS "java/lang/Enum" "ordinal" "I" (.int (3 : Int32))) (E_TWO : Exa Z Z.heap w_TWO "com/example/ruffwork/ruffwork/Rank") (F_TWO : Fld Z Z.heap w_TWO "java/lang/Enum" "ordinal" "I" (.int (0 : Int32))) (E_THREE : Exa Z Z.heap w_THREE "com/example/ruffwork/ruffwork/Rank") (F_THREE : Fld Z Z.heap w_THREE "java/lang/Enum" "ordinal" "I" (.int (1 : Int32))) (E_FOUR : Exa Z Z.heap w_FOUR "com/example/ruffwork/ruffwork/Rank") (F_FOUR : Fld Z Z.heap w_FOUR "java/lang/Enum" "ordinal" "I" (.int (2 : Int32))) (E_FIVE : Exa Z Z.heap w_FIVE "com/example/ruffwork/ruffwork/Rank") (F_FIVE : Fld Z Z.heap w_FIVE "java/lang/Enum" "ordinal" "I" (.int (3 : Int32))) (E_SIX : Exa Z Z.heap w_SIX "com/example/ruffwork/ruffwork/Rank") (F_SIX : Fld Z Z.heap w_SIX "java/lang/Enum" "ordinal" "I" (.int (4 : Int32))) (E_SEVEN : Exa Z Z.heap w_SEVEN "com/example/ruffwork/ruffwork/Rank") (F_SEVEN : Fld Z Z.heap w_SEVEN "java/lang/Enum" "ordinal" "I" (.int (5 : Int32))) (E_EIGHT : Exa Z Z.heap w_EIGHT "com/example/ruffwork/ruffwork/Rank") (F_EIGHT : Fld Z Z.heap w_EIGHT "java/lang/Enum" "ordinal" "I" (.int (6 : Int32))) (E_NINE : Exa Z Z.heap w_NINE "com/example/ruffwork/ruffwork/Rank") (F_NINE : Fld Z Z.heap w_NINE "java/lang/Enum" "ordinal" "I" (.int (7 : Int32))) (E_TEN : Exa Z Z.heap w_TEN "com/example/ruffwork/ruffwork/Rank") (F_TEN : Fld Z Z.heap w_TEN "java/lang/Enum" "ordinal" "I" (.int (8 : Int32))) (E_JACK : Exa Z Z.heap w_JACK "com/example/ruffwork/ruffwork/Rank") (F_JACK : Fld Z Z.heap w_JACK "java/lang/Enum" "ordinal" "I" (.int (9 : Int32))) (E_QUEEN : Exa Z Z.heap w_QUEEN "com/example/ruffwork/ruffwork/Rank") (F_QUEEN : Fld Z Z.heap w_QUEEN "java/lang/Enum" "ordinal" "I" (.int (10 : Int32))) (E_KING : Exa Z Z.heap w_KING "com/example/ruffwork/ruffwork/Rank") (F_KING : Fld Z Z.heap w_KING "java/lang/Enum" "ordinal" "I" (.int (11 : Int32))) (E_ACE : Exa Z Z.heap w_ACE "com/example/ruffwork/ruffwork/Rank") (F_ACE : Fld Z Z.heap w_ACE "java/lang/Enum" "ordinal" "I" (.int (12 : Int32))) :
    MetFree l x (head1 (Jvm.Cond.code x code maxLocals ret :: ws) room_1) (fun a U => a = #[(.int ps1), (.int pr1), (.int ps2), (.int pr2), (.int pmo), (.int pch)] ∧ Z.Warmed39 U.vm ∧ U.heap = h0) (fun _ _ _ _ _ => True) (fun _ U o U' => ∃ v L, o = .returned v ∧ Q0 Z ps1 pr1 ps2 pr2 pmo pch w_SPADES w_HEARTS w_DIAMONDS w_CLUBS w_TWO w_THREE w_FOUR w_FIVE w_SIX w_SEVEN w_EIGHT w_NINE w_TEN w_JACK w_QUEEN w_KING w_ACE zc h0 n0 v U'.heap L ∧ ReturnedEndW U o U' L room_1.cells room_1.slots) := by
  refine MetFree.of_bodySF (plainFor_of_name pn_0) hisR ?_
  intro p e s m args below meth c s₁ Bd hml0 hP hK
  obtain ⟨rfl, hZ, hh⟩ := hP
  have hx := Bd.exec
  have hby := Bd.bytes
  have hml : c.maxLocals = 14 := hml0
  have hown : s.vm.findClass "com/example/ruffwork/ruffwork/CardEqualsPinLaw" = some m.cls := findClass_of_methodNamed Bd.named
  have hnm := (name_of_methodNamed Bd.named Bd.method).1
  have X0 : Stand p l e room_1 (s.setVm s.vm) m #[(.int ps1), (.int pr1), (.int ps2), (.int pr2), (.int pmo), (.int pch)] below meth c s₁ [] 0 0 := Stand.of_body Bd
  have e0 : s₁.heap = h0 := by rw [← hh, Bd.state]; rfl
  have N0 := Fr.nil n0
  have pre0 : ∀ t, Steps p.tables e below (s₁.setTop (mkF m 0 #[.val (.int ps1), .val (.int pr1), .val (.int ps2), .val (.int pr2), .val (.int pmo), .val (.int pch), .unset, .unset, .unset, .unset, .unset, .unset, .unset, .unset] [])) t → Steps p.tables e below (s₁.setTop (entryFrame m #[(.int ps1), (.int pr1), (.int ps2), (.int pr2), (.int pmo), (.int pch)] maxLocals)) t := fun t k => castTop (ef_rm0 m ps1 pr1 ps2 pr2 pmo pch) k
  have hS0 : s.Since s.vm 0 := (State.WarmedH.refl s).since 0
  have hwS : ∀ a ∈ Bundle.stringAtoms, a.before a0 Z = true := fun d hd => hw d ((by decide +kernel : ∀ d ∈ Bundle.stringAtoms, d ∈ tables_1) d hd)
  have pre1 : ∀ t, Steps p.tables e below (s₁.setTop (mkF m 18 #[.val (.int ps1), .val (.int pr1), .val (.int ps2), .val (.int pr2), .val (.int pmo), .val (.int pch), .val (.int (ps1 &&& (3 : Int32))), .val (.int ((pr1 &&& (2147483647 : Int32)) % (13 : Int32))), .unset, .unset, .unset, .unset, .unset, .unset] [(.int (pmo &&& (4 : Int32)))])) t → Steps p.tables e below (s₁.setTop (entryFrame m #[(.int ps1), (.int pr1), (.int ps2), (.int pr2), (.int pmo), (.int pch)] maxLocals)) t := by
    intro t kt
    refine pre0 t ?_
    show Steps p.tables e below (s₁.setTop (mkF m 0 #[.val (.int ps1), .val (.int pr1), .val (.int ps2), .val (.int pr2), .val (.int pmo), .val (.int pch), .unset, .unset, .unset, .unset, .unset, .unset, .unset, .unset] [])) _
    refine XS.iloadN X0.here hx rfl (hb hby at_0) rfl ?_
    show Steps p.tables e below (s₁.setTop (mkF m 1 #[.val (.int ps1), .val (.int pr1), .val (.int ps2), .val (.int pr2), .val (.int pmo), .val (.int pch), .unset, .unset, .unset, .unset, .unset, .unset, .unset, .unset] [(.int ps1)])) _
    refine XS.iconst X0.here hx rfl (hb hby at_1) ?_
    show Steps p.tables e below (s₁.setTop (mkF m 2 #[.val (.int ps1), .val (.int pr1), .val (.int ps2), .val (.int pr2), .val (.int pmo), .val (.int pch), .unset, .unset, .unset, .unset, .unset, .unset, .unset, .unset] [(.int (3 : Int32)), (.int ps1)])) _
    refine XS.iand X0.here hx rfl (hb hby at_2) rfl ?_
    show Steps p.tables e below (s₁.setTop (mkF m 3 #[.val (.int ps1), .val (.int pr1), .val (.int ps2), .val (.int pr2), .val (.int pmo), .val (.int pch), .unset, .unset, .unset, .unset, .unset, .unset, .unset, .unset] [(.int (ps1 &&& (3 : Int32)))])) _
    refine XS.istore X0.here hx rfl (hb hby at_3) rfl (l' := #[.val (.int ps1), .val (.int pr1), .val (.int ps2), .val (.int pr2), .val (.int pmo), .val (.int pch), .val (.int (ps1 &&& (3 : Int32))), .unset, .unset, .unset, .unset, .unset, .unset, .unset]) rfl ?_
    show Steps p.tables e below (s₁.setTop (mkF m 5 #[.val (.int ps1), .val (.int pr1), .val (.int ps2), .val (.int pr2), .val (.int pmo), .val (.int pch), .val (.int (ps1 &&& (3 : Int32))), .unset, .unset, .unset, .unset, .unset, .unset, .unset] [])) _
    refine XS.iloadN X0.here hx rfl (hb hby at_5) rfl ?_
    show Steps p.tables e below (s₁.setTop (mkF m 6 #[.val (.int ps1), .val (.int pr1), .val (.int ps2), .val (.int pr2), .val (.int pmo), .val (.int pch), .val (.int (ps1 &&& (3 : Int32))), .unset, .unset, .unset, .unset, .unset, .unset, .unset] [(.int pr1)])) _
    refine X0.ldcInt hx hown (mvT hZ (hw _ (List.mem_of_getElem? (i := 0) rfl))) (g := (mkF m 6 #[.val (.int ps1), .val (.int pr1), .val (.int ps2), .val (.int pr2), .val (.int pmo), .val (.int pch), .val (.int (ps1 &&& (3 : Int32))), .unset, .unset, .unset, .unset, .unset, .unset, .unset] [(.int pr1)])) rfl (hb hby at_6) _ ?_
    show Steps p.tables e below (s₁.setTop (mkF m 8 #[.val (.int ps1), .val (.int pr1), .val (.int ps2), .val (.int pr2), .val (.int pmo), .val (.int pch), .val (.int (ps1 &&& (3 : Int32))), .unset, .unset, .unset, .unset, .unset, .unset, .unset] [(.int (2147483647 : Int32)), (.int pr1)])) _
    refine XS.iand X0.here hx rfl (hb hby at_8) rfl ?_
    show Steps p.tables e below (s₁.setTop (mkF m 9 #[.val (.int ps1), .val (.int pr1), .val (.int ps2), .val (.int pr2), .val (.int pmo), .val (.int pch), .val (.int (ps1 &&& (3 : Int32))), .unset, .unset, .unset, .unset, .unset, .unset, .unset] [(.int (pr1 &&& (2147483647 : Int32)))])) _
    refine XS.bipush X0.here hx rfl (hb hby at_9) ?_
    show Steps p.tables e below (s₁.setTop (mkF m 11 #[.val (.int ps1), .val (.int pr1), .val (.int ps2), .val (.int pr2), .val (.int pmo), .val (.int pch), .val (.int (ps1 &&& (3 : Int32))), .unset, .unset, .unset, .unset, .unset, .unset, .unset] [(.int (13 : Int32)), (.int (pr1 &&& (2147483647 : Int32)))])) _
    refine iremM X0 hx rfl (hb hby at_11) rfl (by decide) ?_
    show Steps p.tables e below (s₁.setTop (mkF m 12 #[.val (.int ps1), .val (.int pr1), .val (.int ps2), .val (.int pr2), .val (.int pmo), .val (.int pch), .val (.int (ps1 &&& (3 : Int32))), .unset, .unset, .unset, .unset, .unset, .unset, .unset] [(.int ((pr1 &&& (2147483647 : Int32)) % (13 : Int32)))])) _
    refine XS.istore X0.here hx rfl (hb hby at_12) rfl (l' := #[.val (.int ps1), .val (.int pr1), .val (.int ps2), .val (.int pr2), .val (.int pmo), .val (.int pch), .val (.int (ps1 &&& (3 : Int32))), .val (.int ((pr1 &&& (2147483647 : Int32)) % (13 : Int32))), .unset, .unset, .unset, .unset, .unset, .unset]) rfl ?_
    show Steps p.tables e below (s₁.setTop (mkF m 14 #[.val (.int ps1), .val (.int pr1), .val (.int ps2), .val (.int pr2), .val (.int pmo), .val (.int pch), .val (.int (ps1 &&& (3 : Int32))), .val (.int ((pr1 &&& (2147483647 : Int32)) % (13 : Int32))), .unset, .unset, .unset, .unset, .unset, .unset] [])) _
    refine XS.iload X0.here hx rfl (hb hby at_14) rfl ?_
    show Steps p.tables e below (s₁.setTop (mkF m 16 #[.val (.int ps1), .val (.int pr1), .val (.int ps2), .val (.int pr2), .val (.int pmo), .val (.int pch), .val (.int (ps1 &&& (3 : Int32))), .val (.int ((pr1 &&& (2147483647 : Int32)) % (13 : Int32))), .unset, .unset, .unset, .unset, .unset, .unset] [(.int pmo)])) _
    refine XS.iconst X0.here hx rfl (hb hby at_16) ?_
    show Steps p.tables e below (s₁.setTop (mkF m 17 #[.val (.int ps1), .val (.int pr1), .val (.int ps2), .val (.int pr2), .val (.int pmo), .val (.int pch), .val (.int (ps1 &&& (3 : Int32))), .val (.int ((pr1 &&& (2147483647 : Int32)) % (13 : Int32))), .unset, .unset, .unset, .unset, .unset, .unset] [(.int (4 : Int32)), (.int pmo)])) _
    refine XS.iand X0.here hx rfl (hb hby at_17) rfl ?_
    show Steps p.tables e below (s₁.setTop (mkF m 18 #[.val (.int ps1), .val (.int pr1), .val (.int ps2), .val (.int pr2), .val (.int pmo), .val (.int pch), .val (.int (ps1 &&& (3 : Int32))), .val (.int ((pr1 &&& (2147483647 : Int32)) % (13 : Int32))), .unset, .unset, .unset, .unset, .unset, .unset] [(.int (pmo &&& (4 : Int32)))])) _
    exact kt
  obtain ⟨cc, hv_cc, pre2⟩ : ∃ cc : Int32, cc = (if (pmo &&& (4 : Int32)) = (0 : Int32) then (ps2 &&& (3 : Int32)) else (ps1 &&& (3 : Int32))) ∧ ∀ t, Steps p.tables e below (s₁.setTop (mkF m 29 #[.val (.int ps1), .val (.int pr1), .val (.int ps2), .val (.int pr2), .val (.int pmo), .val (.int pch), .val (.int (ps1 &&& (3 : Int32))), .val (.int ((pr1 &&& (2147483647 : Int32)) % (13 : Int32))), .unset, .unset, .unset, .unset, .unset, .unset] [(.int cc)])) t → Steps p.tables e below (s₁.setTop (entryFrame m #[(.int ps1), (.int pr1), (.int ps2), (.int pr2), (.int pmo), (.int pch)] maxLocals)) t := by
    by_cases hc18_3 : (pmo &&& (4 : Int32)) = (0 : Int32)
    · have pre4 : ∀ t, Steps p.tables e below (s₁.setTop (mkF m 29 #[.val (.int ps1), .val (.int pr1), .val (.int ps2), .val (.int pr2), .val (.int pmo), .val (.int pch), .val (.int (ps1 &&& (3 : Int32))), .val (.int ((pr1 &&& (2147483647 : Int32)) % (13 : Int32))), .unset, .unset, .unset, .unset, .unset, .unset] [(.int (ps2 &&& (3 : Int32)))])) t → Steps p.tables e below (s₁.setTop (entryFrame m #[(.int ps1), (.int pr1), (.int ps2), (.int pr2), (.int pmo), (.int pch)] maxLocals)) t := by
        intro t kt
        refine pre1 t ?_
        show Steps p.tables e below (s₁.setTop (mkF m 18 #[.val (.int ps1), .val (.int pr1), .val (.int ps2), .val (.int pr2), .val (.int pmo), .val (.int pch), .val (.int (ps1 &&& (3 : Int32))), .val (.int ((pr1 &&& (2147483647 : Int32)) % (13 : Int32))), .unset, .unset, .unset, .unset, .unset, .unset] [(.int (pmo &&& (4 : Int32)))])) _
        refine XS.ifYes X0.here hx rfl (pc0 := 18) (pc' := 26) rfl (hb hby at_18) rfl ((if0 _ _).trans (teq hc18_3).1) (by decide) (by decide) ?_
        show Steps p.tables e below (s₁.setTop (mkF m 26 #[.val (.int ps1), .val (.int pr1), .val (.int ps2), .val (.int pr2), .val (.int pmo), .val (.int pch), .val (.int (ps1 &&& (3 : Int32))), .val (.int ((pr1 &&& (2147483647 : Int32)) % (13 : Int32))), .unset, .unset, .unset, .unset, .unset, .unset] [])) _
        refine XS.iloadN X0.here hx rfl (hb hby at_26) rfl ?_
        show Steps p.tables e below (s₁.setTop (mkF m 27 #[.val (.int ps1), .val (.int pr1), .val (.int ps2), .val (.int pr2), .val (.int pmo), .val (.int pch), .val (.int (ps1 &&& (3 : Int32))), .val (.int ((pr1 &&& (2147483647 : Int32)) % (13 : Int32))), .unset, .unset, .unset, .unset, .unset, .unset] [(.int ps2)])) _
        refine XS.iconst X0.here hx rfl (hb hby at_27) ?_
        show Steps p.tables e below (s₁.setTop (mkF m 28 #[.val (.int ps1), .val (.int pr1), .val (.int ps2), .val (.int pr2), .val (.int pmo), .val (.int pch), .val (.int (ps1 &&& (3 : Int32))), .val (.int ((pr1 &&& (2147483647 : Int32)) % (13 : Int32))), .unset, .unset, .unset, .unset, .unset, .unset] [(.int (3 : Int32)), (.int ps2)])) _
        refine XS.iand X0.here hx rfl (hb hby at_28) rfl ?_
        show Steps p.tables e below (s₁.setTop (mkF m 29 #[.val (.int ps1), .val (.int pr1), .val (.int ps2), .val (.int pr2), .val (.int pmo), .val (.int pch), .val (.int (ps1 &&& (3 : Int32))), .val (.int ((pr1 &&& (2147483647 : Int32)) % (13 : Int32))), .unset, .unset, .unset, .unset, .unset, .unset] [(.int (ps2 &&& (3 : Int32)))])) _
        exact kt
      exact ⟨(ps2 &&& (3 : Int32)), by rw [if_pos hc18_3], pre4⟩
    · have pre5 : ∀ t, Steps p.tables e below (s₁.setTop (mkF m 29 #[.val (.int ps1), .val (.int pr1), .val (.int ps2), .val (.int pr2), .val (.int pmo), .val (.int pch), .val (.int (ps1 &&& (3 : Int32))), .val (.int ((pr1 &&& (2147483647 : Int32)) % (13 : Int32))), .unset, .unset, .unset, .unset, .unset, .unset] [(.int (ps1 &&& (3 : Int32)))])) t → Steps p.tables e below (s₁.setTop (entryFrame m #[(.int ps1), (.int pr1), (.int ps2), (.int pr2), (.int pmo), (.int pch)] maxLocals)) t := by
        intro t kt
        refine pre1 t ?_
        show Steps p.tables e below (s₁.setTop (mkF m 18 #[.val (.int ps1), .val (.int pr1), .val (.int ps2), .val (.int pr2), .val (.int pmo), .val (.int pch), .val (.int (ps1 &&& (3 : Int32))), .val (.int ((pr1 &&& (2147483647 : Int32)) % (13 : Int32))), .unset, .unset, .unset, .unset, .unset, .unset] [(.int (pmo &&& (4 : Int32)))])) _
        refine XS.ifNo X0.here hx rfl (hb hby at_18) rfl ((if0 _ _).trans (feq hc18_3).1) ?_
        show Steps p.tables e below (s₁.setTop (mkF m 21 #[.val (.int ps1), .val (.int pr1), .val (.int ps2), .val (.int pr2), .val (.int pmo), .val (.int pch), .val (.int (ps1 &&& (3 : Int32))), .val (.int ((pr1 &&& (2147483647 : Int32)) % (13 : Int32))), .unset, .unset, .unset, .unset, .unset, .unset] [])) _
        refine XS.iload X0.here hx rfl (hb hby at_21) rfl ?_
        show Steps p.tables e below (s₁.setTop (mkF m 23 #[.val (.int ps1), .val (.int pr1), .val (.int ps2), .val (.int pr2), .val (.int pmo), .val (.int pch), .val (.int (ps1 &&& (3 : Int32))), .val (.int ((pr1 &&& (2147483647 : Int32)) % (13 : Int32))), .unset, .unset, .unset, .unset, .unset, .unset] [(.int (ps1 &&& (3 : Int32)))])) _
        refine XS.goto X0.here hx rfl (pc0 := 23) (pc' := 29) rfl (hb hby at_23) (by decide) (by decide) ?_
        show Steps p.tables e below (s₁.setTop (mkF m 29 #[.val (.int ps1), .val (.int pr1), .val (.int ps2), .val (.int pr2), .val (.int pmo), .val (.int pch), .val (.int (ps1 &&& (3 : Int32))), .val (.int ((pr1 &&& (2147483647 : Int32)) % (13 : Int32))), .unset, .unset, .unset, .unset, .unset, .unset] [(.int (ps1 &&& (3 : Int32)))])) _
        exact kt
      exact ⟨(ps1 &&& (3 : Int32)), by rw [if_neg hc18_3], pre5⟩
  have pre6 : ∀ t, Steps p.tables e below (s₁.setTop (mkF m 36 #[.val (.int ps1), .val (.int pr1), .val (.int ps2), .val (.int pr2), .val (.int pmo), .val (.int pch), .val (.int (ps1 &&& (3 : Int32))), .val (.int ((pr1 &&& (2147483647 : Int32)) % (13 : Int32))), .val (.int cc), .unset, .unset, .unset, .unset, .unset] [(.int (pmo &&& (8 : Int32)))])) t → Steps p.tables e below (s₁.setTop (entryFrame m #[(.int ps1), (.int pr1), (.int ps2), (.int pr2), (.int pmo), (.int pch)] maxLocals)) t := by
    intro t kt
    refine pre2 t ?_
    show Steps p.tables e below (s₁.setTop (mkF m 29 #[.val (.int ps1), .val (.int pr1), .val (.int ps2), .val (.int pr2), .val (.int pmo), .val (.int pch), .val (.int (ps1 &&& (3 : Int32))), .val (.int ((pr1 &&& (2147483647 : Int32)) % (13 : Int32))), .unset, .unset, .unset, .unset, .unset, .unset] [(.int cc)])) _
    refine XS.istore X0.here hx rfl (hb hby at_29) rfl (l' := #[.val (.int ps1), .val (.int pr1), .val (.int ps2), .val (.int pr2), .val (.int pmo), .val (.int pch), .val (.int (ps1 &&& (3 : Int32))), .val (.int ((pr1 &&& (2147483647 : Int32)) % (13 : Int32))), .val (.int cc), .unset, .unset, .unset, .unset, .unset]) rfl ?_
    show Steps p.tables e below (s₁.setTop (mkF m 31 #[.val (.int ps1), .val (.int pr1), .val (.int ps2), .val (.int pr2), .val (.int pmo), .val (.int pch), .val (.int (ps1 &&& (3 : Int32))), .val (.int ((pr1 &&& (2147483647 : Int32)) % (13 : Int32))), .val (.int cc), .unset, .unset, .unset, .unset, .unset] [])) _
    refine XS.iload X0.here hx rfl (hb hby at_31) rfl ?_
    show Steps p.tables e below (s₁.setTop (mkF m 33 #[.val (.int ps1), .val (.int pr1), .val (.int ps2), .val (.int pr2), .val (.int pmo), .val (.int pch), .val (.int (ps1 &&& (3 : Int32))), .val (.int ((pr1 &&& (2147483647 : Int32)) % (13 : Int32))), .val (.int cc), .unset, .unset, .unset, .unset, .unset] [(.int pmo)])) _
    refine XS.bipush X0.here hx rfl (hb hby at_33) ?_
    show Steps p.tables e below (s₁.setTop (mkF m 35 #[.val (.int ps1), .val (.int pr1), .val (.int ps2), .val (.int pr2), .val (.int pmo), .val (.int pch), .val (.int (ps1 &&& (3 : Int32))), .val (.int ((pr1 &&& (2147483647 : Int32)) % (13 : Int32))), .val (.int cc), .unset, .unset, .unset, .unset, .unset] [(.int (8 : Int32)), (.int pmo)])) _
    refine XS.iand X0.here hx rfl (hb hby at_35) rfl ?_
    show Steps p.tables e below (s₁.setTop (mkF m 36 #[.val (.int ps1), .val (.int pr1), .val (.int ps2), .val (.int pr2), .val (.int pmo), .val (.int pch), .val (.int (ps1 &&& (3 : Int32))), .val (.int ((pr1 &&& (2147483647 : Int32)) % (13 : Int32))), .val (.int cc), .unset, .unset, .unset, .unset, .unset] [(.int (pmo &&& (8 : Int32)))])) _
    exact kt
  obtain ⟨dd, hv_dd, pre7⟩ : ∃ dd : Int32, dd = (if (pmo &&& (8 : Int32)) = (0 : Int32) then ((pr2 &&& (2147483647 : Int32)) % (13 : Int32)) else ((pr1 &&& (2147483647 : Int32)) % (13 : Int32))) ∧ ∀ t, Steps p.tables e below (s₁.setTop (mkF m 51 #[.val (.int ps1), .val (.int pr1), .val (.int ps2), .val (.int pr2), .val (.int pmo), .val (.int pch), .val (.int (ps1 &&& (3 : Int32))), .val (.int ((pr1 &&& (2147483647 : Int32)) % (13 : Int32))), .val (.int cc), .unset, .unset, .unset, .unset, .unset] [(.int dd)])) t → Steps p.tables e below (s₁.setTop (entryFrame m #[(.int ps1), (.int pr1), (.int ps2), (.int pr2), (.int pmo), (.int pch)] maxLocals)) t := by
    by_cases hc36_8 : (pmo &&& (8 : Int32)) = (0 : Int32)
    · have pre9 : ∀ t, Steps p.tables e below (s₁.setTop (mkF m 51 #[.val (.int ps1), .val (.int pr1), .val (.int ps2), .val (.int pr2), .val (.int pmo), .val (.int pch), .val (.int (ps1 &&& (3 : Int32))), .val (.int ((pr1 &&& (2147483647 : Int32)) % (13 : Int32))), .val (.int cc), .unset, .unset, .unset, .unset, .unset] [(.int ((pr2 &&& (2147483647 : Int32)) % (13 : Int32)))])) t → Steps p.tables e below (s₁.setTop (entryFrame m #[(.int ps1), (.int pr1), (.int ps2), (.int pr2), (.int pmo), (.int pch)] maxLocals)) t := by
        intro t kt
        refine pre6 t ?_
        show Steps p.tables e below (s₁.setTop (mkF m 36 #[.val (.int ps1), .val (.int pr1), .val (.int ps2), .val (.int pr2), .val (.int pmo), .val (.int pch), .val (.int (ps1 &&& (3 : Int32))), .val (.int ((pr1 &&& (2147483647 : Int32)) % (13 : Int32))), .val (.int cc), .unset, .unset, .unset, .unset, .unset] [(.int (pmo &&& (8 : Int32)))])) _
        refine XS.ifYes X0.here hx rfl (pc0 := 36) (pc' := 44) rfl (hb hby at_36) rfl ((if0 _ _).trans (teq hc36_8).1) (by decide) (by decide) ?_
        show Steps p.tables e below (s₁.setTop (mkF m 44 #[.val (.int ps1), .val (.int pr1), .val (.int ps2), .val (.int pr2), .val (.int pmo), .val (.int pch), .val (.int (ps1 &&& (3 : Int32))), .val (.int ((pr1 &&& (2147483647 : Int32)) % (13 : Int32))), .val (.int cc), .unset, .unset, .unset, .unset, .unset] [])) _
        refine XS.iloadN X0.here hx rfl (hb hby at_44) rfl ?_
        show Steps p.tables e below (s₁.setTop (mkF m 45 #[.val (.int ps1), .val (.int pr1), .val (.int ps2), .val (.int pr2), .val (.int pmo), .val (.int pch), .val (.int (ps1 &&& (3 : Int32))), .val (.int ((pr1 &&& (2147483647 : Int32)) % (13 : Int32))), .val (.int cc), .unset, .unset, .unset, .unset, .unset] [(.int pr2)])) _
        refine X0.ldcInt hx hown (mvT hZ (hw _ (List.mem_of_getElem? (i := 0) rfl))) (g := (mkF m 45 #[.val (.int ps1), .val (.int pr1), .val (.int ps2), .val (.int pr2), .val (.int pmo), .val (.int pch), .val (.int (ps1 &&& (3 : Int32))), .val (.int ((pr1 &&& (2147483647 : Int32)) % (13 : Int32))), .val (.int cc), .unset, .unset, .unset, .unset, .unset] [(.int pr2)])) rfl (hb hby at_45) _ ?_
        show Steps p.tables e below (s₁.setTop (mkF m 47 #[.val (.int ps1), .val (.int pr1), .val (.int ps2), .val (.int pr2), .val (.int pmo), .val (.int pch), .val (.int (ps1 &&& (3 : Int32))), .val (.int ((pr1 &&& (2147483647 : Int32)) % (13 : Int32))), .val (.int cc), .unset, .unset, .unset, .unset, .unset] [(.int (2147483647 : Int32)), (.int pr2)])) _
        refine XS.iand X0.here hx rfl (hb hby at_47) rfl ?_
        show Steps p.tables e below (s₁.setTop (mkF m 48 #[.val (.int ps1), .val (.int pr1), .val (.int ps2), .val (.int pr2), .val (.int pmo), .val (.int pch), .val (.int (ps1 &&& (3 : Int32))), .val (.int ((pr1 &&& (2147483647 : Int32)) % (13 : Int32))), .val (.int cc), .unset, .unset, .unset, .unset, .unset] [(.int (pr2 &&& (2147483647 : Int32)))])) _
        refine XS.bipush X0.here hx rfl (hb hby at_48) ?_
        show Steps p.tables e below (s₁.setTop (mkF m 50 #[.val (.int ps1), .val (.int pr1), .val (.int ps2), .val (.int pr2), .val (.int pmo), .val (.int pch), .val (.int (ps1 &&& (3 : Int32))), .val (.int ((pr1 &&& (2147483647 : Int32)) % (13 : Int32))), .val (.int cc), .unset, .unset, .unset, .unset, .unset] [(.int (13 : Int32)), (.int (pr2 &&& (2147483647 : Int32)))])) _
        refine iremM X0 hx rfl (hb hby at_50) rfl (by decide) ?_
        show Steps p.tables e below (s₁.setTop (mkF m 51 #[.val (.int ps1), .val (.int pr1), .val (.int ps2), .val (.int pr2), .val (.int pmo), .val (.int pch), .val (.int (ps1 &&& (3 : Int32))), .val (.int ((pr1 &&& (2147483647 : Int32)) % (13 : Int32))), .val (.int cc), .unset, .unset, .unset, .unset, .unset] [(.int ((pr2 &&& (2147483647 : Int32)) % (13 : Int32)))])) _
        exact kt
      exact ⟨((pr2 &&& (2147483647 : Int32)) % (13 : Int32)), by rw [if_pos hc36_8], pre9⟩
    · have pre10 : ∀ t, Steps p.tables e below (s₁.setTop (mkF m 51 #[.val (.int ps1), .val (.int pr1), .val (.int ps2), .val (.int pr2), .val (.int pmo), .val (.int pch), .val (.int (ps1 &&& (3 : Int32))), .val (.int ((pr1 &&& (2147483647 : Int32)) % (13 : Int32))), .val (.int cc), .unset, .unset, .unset, .unset, .unset] [(.int ((pr1 &&& (2147483647 : Int32)) % (13 : Int32)))])) t → Steps p.tables e below (s₁.setTop (entryFrame m #[(.int ps1), (.int pr1), (.int ps2), (.int pr2), (.int pmo), (.int pch)] maxLocals)) t := by
        intro t kt
        refine pre6 t ?_
        show Steps p.tables e below (s₁.setTop (mkF m 36 #[.val (.int ps1), .val (.int pr1), .val (.int ps2), .val (.int pr2), .val (.int pmo), .val (.int pch), .val (.int (ps1 &&& (3 : Int32))), .val (.int ((pr1 &&& (2147483647 : Int32)) % (13 : Int32))), .val (.int cc), .unset, .unset, .unset, .unset, .unset] [(.int (pmo &&& (8 : Int32)))])) _
        refine XS.ifNo X0.here hx rfl (hb hby at_36) rfl ((if0 _ _).trans (feq hc36_8).1) ?_
        show Steps p.tables e below (s₁.setTop (mkF m 39 #[.val (.int ps1), .val (.int pr1), .val (.int ps2), .val (.int pr2), .val (.int pmo), .val (.int pch), .val (.int (ps1 &&& (3 : Int32))), .val (.int ((pr1 &&& (2147483647 : Int32)) % (13 : Int32))), .val (.int cc), .unset, .unset, .unset, .unset, .unset] [])) _
        refine XS.iload X0.here hx rfl (hb hby at_39) rfl ?_
        show Steps p.tables e below (s₁.setTop (mkF m 41 #[.val (.int ps1), .val (.int pr1), .val (.int ps2), .val (.int pr2), .val (.int pmo), .val (.int pch), .val (.int (ps1 &&& (3 : Int32))), .val (.int ((pr1 &&& (2147483647 : Int32)) % (13 : Int32))), .val (.int cc), .unset, .unset, .unset, .unset, .unset] [(.int ((pr1 &&& (2147483647 : Int32)) % (13 : Int32)))])) _
        refine XS.goto X0.here hx rfl (pc0 := 41) (pc' := 51) rfl (hb hby at_41) (by decide) (by decide) ?_
        show Steps p.tables e below (s₁.setTop (mkF m 51 #[.val (.int ps1), .val (.int pr1), .val (.int ps2), .val (.int pr2), .val (.int pmo), .val (.int pch), .val (.int (ps1 &&& (3 : Int32))), .val (.int ((pr1 &&& (2147483647 : Int32)) % (13 : Int32))), .val (.int cc), .unset, .unset, .unset, .unset, .unset] [(.int ((pr1 &&& (2147483647 : Int32)) % (13 : Int32)))])) _
        exact kt
      exact ⟨((pr1 &&& (2147483647 : Int32)) % (13 : Int32)), by rw [if_neg hc36_8], pre10⟩
  obtain ⟨T11, h11, X11, e11, E11, A11, D11, -, st11⟩ := newO X0 hx hZ hown (hw _ (List.mem_of_getElem? (i := 1) rfl)) (hw _ (List.mem_of_getElem? (i := 2) rfl)) (hw _ (List.mem_of_getElem? (i := 3) rfl)) e0 (g := (mkF m 53 #[.val (.int ps1), .val (.int pr1), .val (.int ps2), .val (.int pr2), .val (.int pmo), .val (.int pch), .val (.int (ps1 &&& (3 : Int32))), .val (.int ((pr1 &&& (2147483647 : Int32)) % (13 : Int32))), .val (.int cc), .val (.int dd), .unset, .unset, .unset, .unset] [])) rfl (hb hby at_53) (by decide) (by decide)
  obtain ⟨b11, g11⟩ : ∃ z, z = h0.size := ⟨_, rfl⟩
  rw [← g11] at A11 D11 st11
  have g_b11 : n0 ≤ b11 := Nat.le_trans Z0 (Nat.le_of_eq g11.symm)
  have sz_b11 : h0.size ≤ b11 := Nat.le_trans (Keep.refl h0 []).1 (Nat.le_of_eq g11.symm)
  have Kc11 : Keep h0 h11 [] := (Keep.refl h0 []).ext E11
  have Oc11 := O.ext E11
  have F_suit_b11 : Fld Z h11 b11 "com/example/ruffwork/ruffwork/Card" "suit" "Lcom/example/ruffwork/ruffwork/Suit;" .null := D11 (Or.inr (hw _ (List.mem_of_getElem? (i := 44) rfl))) (ty := (.object "com/example/ruffwork/ruffwork/Suit")) (by decide)
  have F_rank_b11 : Fld Z h11 b11 "com/example/ruffwork/ruffwork/Card" "rank" "Lcom/example/ruffwork/ruffwork/Rank;" .null := D11 (Or.inr (hw _ (List.mem_of_getElem? (i := 46) rfl))) (ty := (.object "com/example/ruffwork/ruffwork/Rank")) (by decide)
  have F_joker_b11 : Fld Z h11 b11 "com/example/ruffwork/ruffwork/Card" "joker" "Lcom/example/ruffwork/ruffwork/Joker;" .null := D11 (Or.inr (hw _ (List.mem_of_getElem? (i := 48) rfl))) (ty := (.object "com/example/ruffwork/ruffwork/Joker")) (by decide)
  obtain ⟨_, _, ⟨T12, L12, k12, n12⟩, -, X12, ⟨Lc12, hQ12, l12, y12, z12⟩, st12⟩ := Jvm.LawKit.callS X11 hx (y := (⟨"com/example/ruffwork/ruffwork/CardEqualsPinLaw", "suit", "(I)Lcom/example/ruffwork/ruffwork/Suit;"⟩ : MethodName)) hown (mvT hZ (hw _ (List.mem_of_getElem? (i := 4) rfl))) (mvT hZ (hw _ (List.mem_of_getElem? (i := 5) rfl))) (mvT hZ (hw _ (List.mem_of_getElem? (i := 6) rfl))) (mvT hZ (hw _ (List.mem_of_getElem? (i := 7) rfl))) (by decide) (backOf (W := 2) (rm1 l Z a0 hw [] (ps1 &&& (3 : Int32)) w_SPADES w_HEARTS w_DIAMONDS w_CLUBS h11 n0 (Nat.le_trans Z0 Kc11.1) (S_SPADES.ext Oc11.2) (S_HEARTS.ext Oc11.2) (S_DIAMONDS.ext Oc11.2) (S_CLUBS.ext Oc11.2)) hZ (hw _ (List.mem_of_getElem? (i := 7) rfl)) (hw _ (List.mem_of_getElem? (i := 6) rfl)) (by decide) (by decide)) (g := (mkF m 59 #[.val (.int ps1), .val (.int pr1), .val (.int ps2), .val (.int pr2), .val (.int pmo), .val (.int pch), .val (.int (ps1 &&& (3 : Int32))), .val (.int ((pr1 &&& (2147483647 : Int32)) % (13 : Int32))), .val (.int cc), .val (.int dd), .unset, .unset, .unset, .unset] [(.int (ps1 &&& (3 : Int32))), (.ref b11), (.ref b11)])) rfl (by rw [hml]; rfl) (argsL := [(.int (ps1 &&& (3 : Int32)))]) (rest := [(.ref b11), (.ref b11)]) (lenOf pd_5 rfl) rfl (by show 2 * 0 + _ ≤ _; exact Nat.le_of_eq rfl) (hb hby at_59) (fun _ _ => ⟨rfl, e11, (by decide : 1 + 0 ≤ _), (by decide : 3 + 0 ≤ _)⟩)
  dsimp only [Pt.U, Pt.locs, Pt.cells, Pt.slots] at X12 l12 y12 z12 st12 hQ12
  subst l12 y12 z12
  obtain ⟨rfl, N12q, e12⟩ := hQ12
  have N12 := Fr.app N0 N12q
  obtain ⟨suit1, h_suit1⟩ : ∃ z : Addr, z = (suitF (ps1 &&& (3 : Int32)) w_SPADES w_HEARTS w_DIAMONDS w_CLUBS) := ⟨_, rfl⟩
  rw [← h_suit1] at st12
  obtain ⟨_, _, ⟨T13, L13, k13, n13⟩, -, X13, ⟨Lc13, hQ13, l13, y13, z13⟩, st13⟩ := Jvm.LawKit.callS X12 hx (y := (⟨"com/example/ruffwork/ruffwork/CardEqualsPinLaw", "rank", "(I)Lcom/example/ruffwork/ruffwork/Rank;"⟩ : MethodName)) hown (mvT hZ (hw _ (List.mem_of_getElem? (i := 11) rfl))) (mvT hZ (hw _ (List.mem_of_getElem? (i := 12) rfl))) (mvT hZ (hw _ (List.mem_of_getElem? (i := 6) rfl))) (mvT hZ (hw _ (List.mem_of_getElem? (i := 13) rfl))) (by decide) (backOf (W := 3) (rm2 l Z a0 hw [] ((pr1 &&& (2147483647 : Int32)) % (13 : Int32)) w_TWO w_THREE w_FOUR w_FIVE w_SIX w_SEVEN w_EIGHT w_NINE w_TEN w_JACK w_QUEEN w_KING w_ACE h11 n0 (Nat.le_trans Z0 Kc11.1) (S_TWO.ext Oc11.2) (S_THREE.ext Oc11.2) (S_FOUR.ext Oc11.2) (S_FIVE.ext Oc11.2) (S_SIX.ext Oc11.2) (S_SEVEN.ext Oc11.2) (S_EIGHT.ext Oc11.2) (S_NINE.ext Oc11.2) (S_TEN.ext Oc11.2) (S_JACK.ext Oc11.2) (S_QUEEN.ext Oc11.2) (S_KING.ext Oc11.2) (S_ACE.ext Oc11.2)) hZ (hw _ (List.mem_of_getElem? (i := 13) rfl)) (hw _ (List.mem_of_getElem? (i := 6) rfl)) (by decide) (by decide)) (g := (mkF m 64 #[.val (.int ps1), .val (.int pr1), .val (.int ps2), .val (.int pr2), .val (.int pmo), .val (.int pch), .val (.int (ps1 &&& (3 : Int32))), .val (.int ((pr1 &&& (2147483647 : Int32)) % (13 : Int32))), .val (.int cc), .val (.int dd), .unset, .unset, .unset, .unset] [(.int ((pr1 &&& (2147483647 : Int32)) % (13 : Int32))), (.ref suit1), (.ref b11), (.ref b11)])) rfl (by rw [hml]; rfl) (argsL := [(.int ((pr1 &&& (2147483647 : Int32)) % (13 : Int32)))]) (rest := [(.ref suit1), (.ref b11), (.ref b11)]) (lenOf pd_6 rfl) rfl (by show 2 * 0 + _ ≤ _; exact Nat.le_of_eq rfl) (hb hby at_64) (fun _ _ => ⟨rfl, e12, (by decide : 1 + 0 ≤ _), (by decide : 3 + 0 ≤ _)⟩)
  dsimp only [Pt.U, Pt.locs, Pt.cells, Pt.slots] at X13 l13 y13 z13 st13 hQ13
  subst l13 y13 z13
  obtain ⟨rfl, N13q, e13⟩ := hQ13
  have N13 := Fr.app N12 N13q
  obtain ⟨rank2, h_rank2⟩ : ∃ z : Addr, z = (rankF ((pr1 &&& (2147483647 : Int32)) % (13 : Int32)) w_TWO w_THREE w_FOUR w_FIVE w_SIX w_SEVEN w_EIGHT w_NINE w_TEN w_JACK w_QUEEN w_KING w_ACE) := ⟨_, rfl⟩
  rw [← h_rank2] at st13
  have E_suit1 : Exa Z Z.heap suit1 "com/example/ruffwork/ruffwork/Suit" := by rw [h_suit1]; exact own_suit (fun _ a => Exa Z Z.heap a "com/example/ruffwork/ruffwork/Suit") E_SPADES E_HEARTS E_DIAMONDS E_CLUBS _ (own_3 ps1).1 (own_3 ps1).2
  have F_suit1 : Fld Z Z.heap suit1 "java/lang/Enum" "ordinal" "I" (.int (ps1 &&& (3 : Int32))) := by rw [h_suit1]; exact own_suit (fun i a => Fld Z Z.heap a "java/lang/Enum" "ordinal" "I" (.int i)) F_SPADES F_HEARTS F_DIAMONDS F_CLUBS _ (own_3 ps1).1 (own_3 ps1).2
  have E_rank2 : Exa Z Z.heap rank2 "com/example/ruffwork/ruffwork/Rank" := by rw [h_rank2]; exact own_rank (fun _ a => Exa Z Z.heap a "com/example/ruffwork/ruffwork/Rank") E_TWO E_THREE E_FOUR E_FIVE E_SIX E_SEVEN E_EIGHT E_NINE E_TEN E_JACK E_QUEEN E_KING E_ACE _ (own_13 pr1).1 (own_13 pr1).2
  have F_rank2 : Fld Z Z.heap rank2 "java/lang/Enum" "ordinal" "I" (.int ((pr1 &&& (2147483647 : Int32)) % (13 : Int32))) := by rw [h_rank2]; exact own_rank (fun i a => Fld Z Z.heap a "java/lang/Enum" "ordinal" "I" (.int i)) F_TWO F_THREE F_FOUR F_FIVE F_SIX F_SEVEN F_EIGHT F_NINE F_TEN F_JACK F_QUEEN F_KING F_ACE _ (own_13 pr1).1 (own_13 pr1).2
  obtain ⟨_, _, ⟨T14, L14, k14, n14⟩, -, X14, hSc14, hgc14, ⟨Lc14, hQ14, l14, y14, z14⟩, st14⟩ := X13.specialBackS hx (y := (⟨"com/example/ruffwork/ruffwork/Card", "<init>", "(Lcom/example/ruffwork/ruffwork/Suit;Lcom/example/ruffwork/ruffwork/Rank;)V"⟩ : MethodName)) rfl hown (mvT hZ (hw _ (List.mem_of_getElem? (i := 17) rfl))) (mvT hZ (hw _ (List.mem_of_getElem? (i := 18) rfl))) (mvT hZ (hw _ (List.mem_of_getElem? (i := 19) rfl))) (by decide) (backOfS (W := 1) (rm3 l Z a0 hw [] b11 suit1 rank2 h11 n0 (Nat.le_trans Z0 Kc11.1) A11 g_b11 F_suit_b11 F_rank_b11 F_joker_b11 (E_suit1.ext Oc11.2) (E_rank2.ext Oc11.2)) hZ (hw _ (List.mem_of_getElem? (i := 19) rfl)) (hw _ (List.mem_of_getElem? (i := 3) rfl)) (by decide) (by decide)) (g := (mkF m 67 #[.val (.int ps1), .val (.int pr1), .val (.int ps2), .val (.int pr2), .val (.int pmo), .val (.int pch), .val (.int (ps1 &&& (3 : Int32))), .val (.int ((pr1 &&& (2147483647 : Int32)) % (13 : Int32))), .val (.int cc), .val (.int dd), .unset, .unset, .unset, .unset] [(.ref rank2), (.ref suit1), (.ref b11), (.ref b11)])) rfl (by rw [hml]; rfl) (Steps.refl _) (a := b11) (argsL := [(.ref suit1), (.ref rank2)]) (rest := [(.ref b11)]) (lenOf pd_7 rfl) rfl (by show 2 * 0 + _ ≤ _; exact Nat.le_of_eq rfl) (hb hby at_67) (fun _ _ => ⟨rfl, e13, (by decide : 1 + 4 ≤ _), (by decide : 3 + 40 ≤ _)⟩)
  dsimp only [Pt.U, Pt.locs, Pt.cells, Pt.slots] at X14 l14 y14 z14 st14 hQ14 hSc14 hgc14
  subst l14 y14 z14
  obtain ⟨rfl, N14q, K14, A14c, Fc0_14, Fc1_14, Fc2_14⟩ := hQ14
  have N14 := Fr.app N13 N14q
  obtain ⟨Xr14, hS14, hZ14, hown14⟩ := rebS (n1 := T13.heap.size) hS0 (by rw [e13]; exact (Nat.le_trans (Nat.zero_le _) E11.1)) X14 hSc14 hgc14 hZ hown
  have Kc14 : Keep h0 T14.heap [] := Kc11.trans K14 (allS (Or.inr sz_b11) all0)
  have Oc14 := Oc11.keep K14 (allS g_b11 all0)
  have pre15 : ∀ t, Steps p.tables e below (T14.setTop (mkF m 80 #[.val (.int ps1), .val (.int pr1), .val (.int ps2), .val (.int pr2), .val (.int pmo), .val (.int pch), .val (.int (ps1 &&& (3 : Int32))), .val (.int ((pr1 &&& (2147483647 : Int32)) % (13 : Int32))), .val (.int cc), .val (.int dd), .val (.ref b11), .val (.int (pmo &&& (3 : Int32))), .unset, .unset] [(.int (pmo &&& (3 : Int32)))])) t → Steps p.tables e below (s₁.setTop (entryFrame m #[(.int ps1), (.int pr1), (.int ps2), (.int pr2), (.int pmo), (.int pch)] maxLocals)) t := by
    intro t kt
    refine pre7 t ?_
    show Steps p.tables e below (s₁.setTop (mkF m 51 #[.val (.int ps1), .val (.int pr1), .val (.int ps2), .val (.int pr2), .val (.int pmo), .val (.int pch), .val (.int (ps1 &&& (3 : Int32))), .val (.int ((pr1 &&& (2147483647 : Int32)) % (13 : Int32))), .val (.int cc), .unset, .unset, .unset, .unset, .unset] [(.int dd)])) _
    refine XS.istore X0.here hx rfl (hb hby at_51) rfl (l' := #[.val (.int ps1), .val (.int pr1), .val (.int ps2), .val (.int pr2), .val (.int pmo), .val (.int pch), .val (.int (ps1 &&& (3 : Int32))), .val (.int ((pr1 &&& (2147483647 : Int32)) % (13 : Int32))), .val (.int cc), .val (.int dd), .unset, .unset, .unset, .unset]) rfl ?_
    show Steps p.tables e below (s₁.setTop (mkF m 53 #[.val (.int ps1), .val (.int pr1), .val (.int ps2), .val (.int pr2), .val (.int pmo), .val (.int pch), .val (.int (ps1 &&& (3 : Int32))), .val (.int ((pr1 &&& (2147483647 : Int32)) % (13 : Int32))), .val (.int cc), .val (.int dd), .unset, .unset, .unset, .unset] [])) _
    refine st11 _ ?_
    show Steps p.tables e below (T11.setTop (mkF m 56 #[.val (.int ps1), .val (.int pr1), .val (.int ps2), .val (.int pr2), .val (.int pmo), .val (.int pch), .val (.int (ps1 &&& (3 : Int32))), .val (.int ((pr1 &&& (2147483647 : Int32)) % (13 : Int32))), .val (.int cc), .val (.int dd), .unset, .unset, .unset, .unset] [(.ref b11)])) _
    refine XS.dup X11.here hx rfl (hb hby at_56) rfl rfl ?_
    show Steps p.tables e below (T11.setTop (mkF m 57 #[.val (.int ps1), .val (.int pr1), .val (.int ps2), .val (.int pr2), .val (.int pmo), .val (.int pch), .val (.int (ps1 &&& (3 : Int32))), .val (.int ((pr1 &&& (2147483647 : Int32)) % (13 : Int32))), .val (.int cc), .val (.int dd), .unset, .unset, .unset, .unset] [(.ref b11), (.ref b11)])) _
    refine XS.iload X11.here hx rfl (hb hby at_57) rfl ?_
    show Steps p.tables e below (T11.setTop (mkF m 59 #[.val (.int ps1), .val (.int pr1), .val (.int ps2), .val (.int pr2), .val (.int pmo), .val (.int pch), .val (.int (ps1 &&& (3 : Int32))), .val (.int ((pr1 &&& (2147483647 : Int32)) % (13 : Int32))), .val (.int cc), .val (.int dd), .unset, .unset, .unset, .unset] [(.int (ps1 &&& (3 : Int32))), (.ref b11), (.ref b11)])) _
    refine st12 _ ?_
    show Steps p.tables e below (T12.setTop (mkF m 62 #[.val (.int ps1), .val (.int pr1), .val (.int ps2), .val (.int pr2), .val (.int pmo), .val (.int pch), .val (.int (ps1 &&& (3 : Int32))), .val (.int ((pr1 &&& (2147483647 : Int32)) % (13 : Int32))), .val (.int cc), .val (.int dd), .unset, .unset, .unset, .unset] [(.ref suit1), (.ref b11), (.ref b11)])) _
    refine XS.iload X12.here hx rfl (hb hby at_62) rfl ?_
    show Steps p.tables e below (T12.setTop (mkF m 64 #[.val (.int ps1), .val (.int pr1), .val (.int ps2), .val (.int pr2), .val (.int pmo), .val (.int pch), .val (.int (ps1 &&& (3 : Int32))), .val (.int ((pr1 &&& (2147483647 : Int32)) % (13 : Int32))), .val (.int cc), .val (.int dd), .unset, .unset, .unset, .unset] [(.int ((pr1 &&& (2147483647 : Int32)) % (13 : Int32))), (.ref suit1), (.ref b11), (.ref b11)])) _
    refine st13 _ ?_
    show Steps p.tables e below (T13.setTop (mkF m 67 #[.val (.int ps1), .val (.int pr1), .val (.int ps2), .val (.int pr2), .val (.int pmo), .val (.int pch), .val (.int (ps1 &&& (3 : Int32))), .val (.int ((pr1 &&& (2147483647 : Int32)) % (13 : Int32))), .val (.int cc), .val (.int dd), .unset, .unset, .unset, .unset] [(.ref rank2), (.ref suit1), (.ref b11), (.ref b11)])) _
    refine st14.trans ?_
    show Steps p.tables e below (T14.setTop (mkF m 70 #[.val (.int ps1), .val (.int pr1), .val (.int ps2), .val (.int pr2), .val (.int pmo), .val (.int pch), .val (.int (ps1 &&& (3 : Int32))), .val (.int ((pr1 &&& (2147483647 : Int32)) % (13 : Int32))), .val (.int cc), .val (.int dd), .unset, .unset, .unset, .unset] [(.ref b11)])) _
    refine XS.astore Xr14.here hx rfl (hb hby at_70) rfl rfl (l' := #[.val (.int ps1), .val (.int pr1), .val (.int ps2), .val (.int pr2), .val (.int pmo), .val (.int pch), .val (.int (ps1 &&& (3 : Int32))), .val (.int ((pr1 &&& (2147483647 : Int32)) % (13 : Int32))), .val (.int cc), .val (.int dd), .val (.ref b11), .unset, .unset, .unset]) rfl ?_
    show Steps p.tables e below (T14.setTop (mkF m 72 #[.val (.int ps1), .val (.int pr1), .val (.int ps2), .val (.int pr2), .val (.int pmo), .val (.int pch), .val (.int (ps1 &&& (3 : Int32))), .val (.int ((pr1 &&& (2147483647 : Int32)) % (13 : Int32))), .val (.int cc), .val (.int dd), .val (.ref b11), .unset, .unset, .unset] [])) _
    refine XS.iload Xr14.here hx rfl (hb hby at_72) rfl ?_
    show Steps p.tables e below (T14.setTop (mkF m 74 #[.val (.int ps1), .val (.int pr1), .val (.int ps2), .val (.int pr2), .val (.int pmo), .val (.int pch), .val (.int (ps1 &&& (3 : Int32))), .val (.int ((pr1 &&& (2147483647 : Int32)) % (13 : Int32))), .val (.int cc), .val (.int dd), .val (.ref b11), .unset, .unset, .unset] [(.int pmo)])) _
    refine XS.iconst Xr14.here hx rfl (hb hby at_74) ?_
    show Steps p.tables e below (T14.setTop (mkF m 75 #[.val (.int ps1), .val (.int pr1), .val (.int ps2), .val (.int pr2), .val (.int pmo), .val (.int pch), .val (.int (ps1 &&& (3 : Int32))), .val (.int ((pr1 &&& (2147483647 : Int32)) % (13 : Int32))), .val (.int cc), .val (.int dd), .val (.ref b11), .unset, .unset, .unset] [(.int (3 : Int32)), (.int pmo)])) _
    refine XS.iand Xr14.here hx rfl (hb hby at_75) rfl ?_
    show Steps p.tables e below (T14.setTop (mkF m 76 #[.val (.int ps1), .val (.int pr1), .val (.int ps2), .val (.int pr2), .val (.int pmo), .val (.int pch), .val (.int (ps1 &&& (3 : Int32))), .val (.int ((pr1 &&& (2147483647 : Int32)) % (13 : Int32))), .val (.int cc), .val (.int dd), .val (.ref b11), .unset, .unset, .unset] [(.int (pmo &&& (3 : Int32)))])) _
    refine XS.istore Xr14.here hx rfl (hb hby at_76) rfl (l' := #[.val (.int ps1), .val (.int pr1), .val (.int ps2), .val (.int pr2), .val (.int pmo), .val (.int pch), .val (.int (ps1 &&& (3 : Int32))), .val (.int ((pr1 &&& (2147483647 : Int32)) % (13 : Int32))), .val (.int cc), .val (.int dd), .val (.ref b11), .val (.int (pmo &&& (3 : Int32))), .unset, .unset]) rfl ?_
    show Steps p.tables e below (T14.setTop (mkF m 78 #[.val (.int ps1), .val (.int pr1), .val (.int ps2), .val (.int pr2), .val (.int pmo), .val (.int pch), .val (.int (ps1 &&& (3 : Int32))), .val (.int ((pr1 &&& (2147483647 : Int32)) % (13 : Int32))), .val (.int cc), .val (.int dd), .val (.ref b11), .val (.int (pmo &&& (3 : Int32))), .unset, .unset] [])) _
    refine XS.iload Xr14.here hx rfl (hb hby at_78) rfl ?_
    show Steps p.tables e below (T14.setTop (mkF m 80 #[.val (.int ps1), .val (.int pr1), .val (.int ps2), .val (.int pr2), .val (.int pmo), .val (.int pch), .val (.int (ps1 &&& (3 : Int32))), .val (.int ((pr1 &&& (2147483647 : Int32)) % (13 : Int32))), .val (.int cc), .val (.int dd), .val (.ref b11), .val (.int (pmo &&& (3 : Int32))), .unset, .unset] [(.int (pmo &&& (3 : Int32)))])) _
    exact kt
  by_cases hc80_16 : (pmo &&& (3 : Int32)) = (0 : Int32)
  · obtain ⟨T17, h17, X17, e17, E17, A17, D17, -, st17⟩ := newO Xr14 hx hZ14 hown14 (hw _ (List.mem_of_getElem? (i := 1) rfl)) (hw _ (List.mem_of_getElem? (i := 2) rfl)) (hw _ (List.mem_of_getElem? (i := 3) rfl)) rfl (g := (mkF m 83 #[.val (.int ps1), .val (.int pr1), .val (.int ps2), .val (.int pr2), .val (.int pmo), .val (.int pch), .val (.int (ps1 &&& (3 : Int32))), .val (.int ((pr1 &&& (2147483647 : Int32)) % (13 : Int32))), .val (.int cc), .val (.int dd), .val (.ref b11), .val (.int (pmo &&& (3 : Int32))), .unset, .unset] [])) rfl (hb hby at_83) (by decide) (by decide)
    obtain ⟨b17, g17⟩ : ∃ z, z = T14.heap.size := ⟨_, rfl⟩
    rw [← g17] at A17 D17 st17
    have g_b17 : n0 ≤ b17 := Nat.le_trans (Nat.le_trans Z0 Kc14.1) (Nat.le_of_eq g17.symm)
    have sz_b17 : h0.size ≤ b17 := Nat.le_trans Kc14.1 (Nat.le_of_eq g17.symm)
    have ne_b11_b17 : b11 ≠ b17 := Nat.ne_of_lt (Nat.lt_of_lt_of_le A14c.lt (Nat.le_of_eq g17.symm))
    have Kc17 : Keep h0 h17 [] := Kc14.ext E17
    have Oc17 := Oc14.ext E17
    have F_suit_b17 : Fld Z h17 b17 "com/example/ruffwork/ruffwork/Card" "suit" "Lcom/example/ruffwork/ruffwork/Suit;" .null := D17 (Or.inr (hw _ (List.mem_of_getElem? (i := 44) rfl))) (ty := (.object "com/example/ruffwork/ruffwork/Suit")) (by decide)
    have F_rank_b17 : Fld Z h17 b17 "com/example/ruffwork/ruffwork/Card" "rank" "Lcom/example/ruffwork/ruffwork/Rank;" .null := D17 (Or.inr (hw _ (List.mem_of_getElem? (i := 46) rfl))) (ty := (.object "com/example/ruffwork/ruffwork/Rank")) (by decide)
    have F_joker_b17 : Fld Z h17 b17 "com/example/ruffwork/ruffwork/Card" "joker" "Lcom/example/ruffwork/ruffwork/Joker;" .null := D17 (Or.inr (hw _ (List.mem_of_getElem? (i := 48) rfl))) (ty := (.object "com/example/ruffwork/ruffwork/Joker")) (by decide)
    obtain ⟨_, _, ⟨T18, L18, k18, n18⟩, -, X18, ⟨Lc18, hQ18, l18, y18, z18⟩, st18⟩ := Jvm.LawKit.callS X17 hx (y := (⟨"com/example/ruffwork/ruffwork/CardEqualsPinLaw", "suit", "(I)Lcom/example/ruffwork/ruffwork/Suit;"⟩ : MethodName)) hown14 (mvT hZ14 (hw _ (List.mem_of_getElem? (i := 4) rfl))) (mvT hZ14 (hw _ (List.mem_of_getElem? (i := 5) rfl))) (mvT hZ14 (hw _ (List.mem_of_getElem? (i := 6) rfl))) (mvT hZ14 (hw _ (List.mem_of_getElem? (i := 7) rfl))) (by decide) (backOf (W := 2) (rm1 l Z a0 hw [] cc w_SPADES w_HEARTS w_DIAMONDS w_CLUBS h17 n0 (Nat.le_trans Z0 Kc17.1) (S_SPADES.ext Oc17.2) (S_HEARTS.ext Oc17.2) (S_DIAMONDS.ext Oc17.2) (S_CLUBS.ext Oc17.2)) hZ14 (hw _ (List.mem_of_getElem? (i := 7) rfl)) (hw _ (List.mem_of_getElem? (i := 6) rfl)) (by decide) (by decide)) (g := (mkF m 89 #[.val (.int ps1), .val (.int pr1), .val (.int ps2), .val (.int pr2), .val (.int pmo), .val (.int pch), .val (.int (ps1 &&& (3 : Int32))), .val (.int ((pr1 &&& (2147483647 : Int32)) % (13 : Int32))), .val (.int cc), .val (.int dd), .val (.ref b11), .val (.int (pmo &&& (3 : Int32))), .unset, .unset] [(.int cc), (.ref b17), (.ref b17)])) rfl (by rw [hml]; rfl) (argsL := [(.int cc)]) (rest := [(.ref b17), (.ref b17)]) (lenOf pd_5 rfl) rfl (by show 2 * 0 + _ ≤ _; exact Nat.le_of_eq rfl) (hb hby at_89) (fun _ _ => ⟨rfl, e17, (by decide : 6 + 0 ≤ _), (by decide : 46 + 0 ≤ _)⟩)
    dsimp only [Pt.U, Pt.locs, Pt.cells, Pt.slots] at X18 l18 y18 z18 st18 hQ18
    subst l18 y18 z18
    obtain ⟨rfl, N18q, e18⟩ := hQ18
    have N18 := Fr.app N14 N18q
    obtain ⟨suit3, h_suit3⟩ : ∃ z : Addr, z = (suitF cc w_SPADES w_HEARTS w_DIAMONDS w_CLUBS) := ⟨_, rfl⟩
    rw [← h_suit3] at st18
    obtain ⟨_, _, ⟨T19, L19, k19, n19⟩, -, X19, ⟨Lc19, hQ19, l19, y19, z19⟩, st19⟩ := Jvm.LawKit.callS X18 hx (y := (⟨"com/example/ruffwork/ruffwork/CardEqualsPinLaw", "rank", "(I)Lcom/example/ruffwork/ruffwork/Rank;"⟩ : MethodName)) hown14 (mvT hZ14 (hw _ (List.mem_of_getElem? (i := 11) rfl))) (mvT hZ14 (hw _ (List.mem_of_getElem? (i := 12) rfl))) (mvT hZ14 (hw _ (List.mem_of_getElem? (i := 6) rfl))) (mvT hZ14 (hw _ (List.mem_of_getElem? (i := 13) rfl))) (by decide) (backOf (W := 3) (rm2 l Z a0 hw [] dd w_TWO w_THREE w_FOUR w_FIVE w_SIX w_SEVEN w_EIGHT w_NINE w_TEN w_JACK w_QUEEN w_KING w_ACE h17 n0 (Nat.le_trans Z0 Kc17.1) (S_TWO.ext Oc17.2) (S_THREE.ext Oc17.2) (S_FOUR.ext Oc17.2) (S_FIVE.ext Oc17.2) (S_SIX.ext Oc17.2) (S_SEVEN.ext Oc17.2) (S_EIGHT.ext Oc17.2) (S_NINE.ext Oc17.2) (S_TEN.ext Oc17.2) (S_JACK.ext Oc17.2) (S_QUEEN.ext Oc17.2) (S_KING.ext Oc17.2) (S_ACE.ext Oc17.2)) hZ14 (hw _ (List.mem_of_getElem? (i := 13) rfl)) (hw _ (List.mem_of_getElem? (i := 6) rfl)) (by decide) (by decide)) (g := (mkF m 94 #[.val (.int ps1), .val (.int pr1), .val (.int ps2), .val (.int pr2), .val (.int pmo), .val (.int pch), .val (.int (ps1 &&& (3 : Int32))), .val (.int ((pr1 &&& (2147483647 : Int32)) % (13 : Int32))), .val (.int cc), .val (.int dd), .val (.ref b11), .val (.int (pmo &&& (3 : Int32))), .unset, .unset] [(.int dd), (.ref suit3), (.ref b17), (.ref b17)])) rfl (by rw [hml]; rfl) (argsL := [(.int dd)]) (rest := [(.ref suit3), (.ref b17), (.ref b17)]) (lenOf pd_6 rfl) rfl (by show 2 * 0 + _ ≤ _; exact Nat.le_of_eq rfl) (hb hby at_94) (fun _ _ => ⟨rfl, e18, (by decide : 6 + 0 ≤ _), (by decide : 46 + 0 ≤ _)⟩)
    dsimp only [Pt.U, Pt.locs, Pt.cells, Pt.slots] at X19 l19 y19 z19 st19 hQ19
    subst l19 y19 z19
    obtain ⟨rfl, N19q, e19⟩ := hQ19
    have N19 := Fr.app N18 N19q
    obtain ⟨rank4, h_rank4⟩ : ∃ z : Addr, z = (rankF dd w_TWO w_THREE w_FOUR w_FIVE w_SIX w_SEVEN w_EIGHT w_NINE w_TEN w_JACK w_QUEEN w_KING w_ACE) := ⟨_, rfl⟩
    rw [← h_rank4] at st19
    have E_suit3 : Exa Z Z.heap suit3 "com/example/ruffwork/ruffwork/Suit" := by rw [h_suit3]; exact own_suit (fun _ a => Exa Z Z.heap a "com/example/ruffwork/ruffwork/Suit") E_SPADES E_HEARTS E_DIAMONDS E_CLUBS _ (own_pick (P := fun z => ¬ z < 0 ∧ z < 4) hv_cc (own_3 ps2) (own_3 ps1)).1 (own_pick (P := fun z => ¬ z < 0 ∧ z < 4) hv_cc (own_3 ps2) (own_3 ps1)).2
    have F_suit3 : Fld Z Z.heap suit3 "java/lang/Enum" "ordinal" "I" (.int cc) := by rw [h_suit3]; exact own_suit (fun i a => Fld Z Z.heap a "java/lang/Enum" "ordinal" "I" (.int i)) F_SPADES F_HEARTS F_DIAMONDS F_CLUBS _ (own_pick (P := fun z => ¬ z < 0 ∧ z < 4) hv_cc (own_3 ps2) (own_3 ps1)).1 (own_pick (P := fun z => ¬ z < 0 ∧ z < 4) hv_cc (own_3 ps2) (own_3 ps1)).2
    have E_rank4 : Exa Z Z.heap rank4 "com/example/ruffwork/ruffwork/Rank" := by rw [h_rank4]; exact own_rank (fun _ a => Exa Z Z.heap a "com/example/ruffwork/ruffwork/Rank") E_TWO E_THREE E_FOUR E_FIVE E_SIX E_SEVEN E_EIGHT E_NINE E_TEN E_JACK E_QUEEN E_KING E_ACE _ (own_pick (P := fun z => ¬ z < 0 ∧ z < 13) hv_dd (own_13 pr2) (own_13 pr1)).1 (own_pick (P := fun z => ¬ z < 0 ∧ z < 13) hv_dd (own_13 pr2) (own_13 pr1)).2
    have F_rank4 : Fld Z Z.heap rank4 "java/lang/Enum" "ordinal" "I" (.int dd) := by rw [h_rank4]; exact own_rank (fun i a => Fld Z Z.heap a "java/lang/Enum" "ordinal" "I" (.int i)) F_TWO F_THREE F_FOUR F_FIVE F_SIX F_SEVEN F_EIGHT F_NINE F_TEN F_JACK F_QUEEN F_KING F_ACE _ (own_pick (P := fun z => ¬ z < 0 ∧ z < 13) hv_dd (own_13 pr2) (own_13 pr1)).1 (own_pick (P := fun z => ¬ z < 0 ∧ z < 13) hv_dd (own_13 pr2) (own_13 pr1)).2
    obtain ⟨_, _, ⟨T20, L20, k20, n20⟩, -, X20, hSc20, hgc20, ⟨Lc20, hQ20, l20, y20, z20⟩, st20⟩ := X19.specialBackS hx (y := (⟨"com/example/ruffwork/ruffwork/Card", "<init>", "(Lcom/example/ruffwork/ruffwork/Suit;Lcom/example/ruffwork/ruffwork/Rank;)V"⟩ : MethodName)) rfl hown14 (mvT hZ14 (hw _ (List.mem_of_getElem? (i := 17) rfl))) (mvT hZ14 (hw _ (List.mem_of_getElem? (i := 18) rfl))) (mvT hZ14 (hw _ (List.mem_of_getElem? (i := 19) rfl))) (by decide) (backOfS (W := 1) (rm3 l Z a0 hw [] b17 suit3 rank4 h17 n0 (Nat.le_trans Z0 Kc17.1) A17 g_b17 F_suit_b17 F_rank_b17 F_joker_b17 (E_suit3.ext Oc17.2) (E_rank4.ext Oc17.2)) hZ14 (hw _ (List.mem_of_getElem? (i := 19) rfl)) (hw _ (List.mem_of_getElem? (i := 3) rfl)) (by decide) (by decide)) (g := (mkF m 97 #[.val (.int ps1), .val (.int pr1), .val (.int ps2), .val (.int pr2), .val (.int pmo), .val (.int pch), .val (.int (ps1 &&& (3 : Int32))), .val (.int ((pr1 &&& (2147483647 : Int32)) % (13 : Int32))), .val (.int cc), .val (.int dd), .val (.ref b11), .val (.int (pmo &&& (3 : Int32))), .unset, .unset] [(.ref rank4), (.ref suit3), (.ref b17), (.ref b17)])) rfl (by rw [hml]; rfl) (Steps.refl _) (a := b17) (argsL := [(.ref suit3), (.ref rank4)]) (rest := [(.ref b17)]) (lenOf pd_7 rfl) rfl (by show 2 * 0 + _ ≤ _; exact Nat.le_of_eq rfl) (hb hby at_97) (fun _ _ => ⟨rfl, e19, (by decide : 6 + 4 ≤ _), (by decide : 46 + 40 ≤ _)⟩)
    dsimp only [Pt.U, Pt.locs, Pt.cells, Pt.slots] at X20 l20 y20 z20 st20 hQ20 hSc20 hgc20
    subst l20 y20 z20
    obtain ⟨rfl, N20q, K20, A20c, Fc0_20, Fc1_20, Fc2_20⟩ := hQ20
    have N20 := Fr.app N19 N20q
    obtain ⟨Xr20, hS20, hZ20, hown20⟩ := rebS (n1 := T19.heap.size) hS14 (by rw [e19]; exact (Nat.le_trans (Nat.le_refl _) E17.1)) X20 hSc20 hgc20 hZ14 hown14
    have Kc20 : Keep h0 T20.heap [] := Kc17.trans K20 (allS (Or.inr sz_b17) all0)
    have Oc20 := Oc17.keep K20 (allS g_b17 all0)
    have pre21 : ∀ t, Steps p.tables e below (T20.setTop (mkF m 106 #[.val (.int ps1), .val (.int pr1), .val (.int ps2), .val (.int pr2), .val (.int pmo), .val (.int pch), .val (.int (ps1 &&& (3 : Int32))), .val (.int ((pr1 &&& (2147483647 : Int32)) % (13 : Int32))), .val (.int cc), .val (.int dd), .val (.ref b11), .val (.int (pmo &&& (3 : Int32))), .val (.ref b17), .unset] [(.int cc), (.int (ps1 &&& (3 : Int32)))])) t → Steps p.tables e below (s₁.setTop (entryFrame m #[(.int ps1), (.int pr1), (.int ps2), (.int pr2), (.int pmo), (.int pch)] maxLocals)) t := by
      intro t kt
      refine pre15 t ?_
      show Steps p.tables e below (T14.setTop (mkF m 80 #[.val (.int ps1), .val (.int pr1), .val (.int ps2), .val (.int pr2), .val (.int pmo), .val (.int pch), .val (.int (ps1 &&& (3 : Int32))), .val (.int ((pr1 &&& (2147483647 : Int32)) % (13 : Int32))), .val (.int cc), .val (.int dd), .val (.ref b11), .val (.int (pmo &&& (3 : Int32))), .unset, .unset] [(.int (pmo &&& (3 : Int32)))])) _
      refine XS.ifNo Xr14.here hx rfl (hb hby at_80) rfl ((if0 _ _).trans (teq hc80_16).2) ?_
      show Steps p.tables e below (T14.setTop (mkF m 83 #[.val (.int ps1), .val (.int pr1), .val (.int ps2), .val (.int pr2), .val (.int pmo), .val (.int pch), .val (.int (ps1 &&& (3 : Int32))), .val (.int ((pr1 &&& (2147483647 : Int32)) % (13 : Int32))), .val (.int cc), .val (.int dd), .val (.ref b11), .val (.int (pmo &&& (3 : Int32))), .unset, .unset] [])) _
      refine st17 _ ?_
      show Steps p.tables e below (T17.setTop (mkF m 86 #[.val (.int ps1), .val (.int pr1), .val (.int ps2), .val (.int pr2), .val (.int pmo), .val (.int pch), .val (.int (ps1 &&& (3 : Int32))), .val (.int ((pr1 &&& (2147483647 : Int32)) % (13 : Int32))), .val (.int cc), .val (.int dd), .val (.ref b11), .val (.int (pmo &&& (3 : Int32))), .unset, .unset] [(.ref b17)])) _
      refine XS.dup X17.here hx rfl (hb hby at_86) rfl rfl ?_
      show Steps p.tables e below (T17.setTop (mkF m 87 #[.val (.int ps1), .val (.int pr1), .val (.int ps2), .val (.int pr2), .val (.int pmo), .val (.int pch), .val (.int (ps1 &&& (3 : Int32))), .val (.int ((pr1 &&& (2147483647 : Int32)) % (13 : Int32))), .val (.int cc), .val (.int dd), .val (.ref b11), .val (.int (pmo &&& (3 : Int32))), .unset, .unset] [(.ref b17), (.ref b17)])) _
      refine XS.iload X17.here hx rfl (hb hby at_87) rfl ?_
      show Steps p.tables e below (T17.setTop (mkF m 89 #[.val (.int ps1), .val (.int pr1), .val (.int ps2), .val (.int pr2), .val (.int pmo), .val (.int pch), .val (.int (ps1 &&& (3 : Int32))), .val (.int ((pr1 &&& (2147483647 : Int32)) % (13 : Int32))), .val (.int cc), .val (.int dd), .val (.ref b11), .val (.int (pmo &&& (3 : Int32))), .unset, .unset] [(.int cc), (.ref b17), (.ref b17)])) _
      refine st18 _ ?_
      show Steps p.tables e below (T18.setTop (mkF m 92 #[.val (.int ps1), .val (.int pr1), .val (.int ps2), .val (.int pr2), .val (.int pmo), .val (.int pch), .val (.int (ps1 &&& (3 : Int32))), .val (.int ((pr1 &&& (2147483647 : Int32)) % (13 : Int32))), .val (.int cc), .val (.int dd), .val (.ref b11), .val (.int (pmo &&& (3 : Int32))), .unset, .unset] [(.ref suit3), (.ref b17), (.ref b17)])) _
      refine XS.iload X18.here hx rfl (hb hby at_92) rfl ?_
      show Steps p.tables e below (T18.setTop (mkF m 94 #[.val (.int ps1), .val (.int pr1), .val (.int ps2), .val (.int pr2), .val (.int pmo), .val (.int pch), .val (.int (ps1 &&& (3 : Int32))), .val (.int ((pr1 &&& (2147483647 : Int32)) % (13 : Int32))), .val (.int cc), .val (.int dd), .val (.ref b11), .val (.int (pmo &&& (3 : Int32))), .unset, .unset] [(.int dd), (.ref suit3), (.ref b17), (.ref b17)])) _
      refine st19 _ ?_
      show Steps p.tables e below (T19.setTop (mkF m 97 #[.val (.int ps1), .val (.int pr1), .val (.int ps2), .val (.int pr2), .val (.int pmo), .val (.int pch), .val (.int (ps1 &&& (3 : Int32))), .val (.int ((pr1 &&& (2147483647 : Int32)) % (13 : Int32))), .val (.int cc), .val (.int dd), .val (.ref b11), .val (.int (pmo &&& (3 : Int32))), .unset, .unset] [(.ref rank4), (.ref suit3), (.ref b17), (.ref b17)])) _
      refine st20.trans ?_
      show Steps p.tables e below (T20.setTop (mkF m 100 #[.val (.int ps1), .val (.int pr1), .val (.int ps2), .val (.int pr2), .val (.int pmo), .val (.int pch), .val (.int (ps1 &&& (3 : Int32))), .val (.int ((pr1 &&& (2147483647 : Int32)) % (13 : Int32))), .val (.int cc), .val (.int dd), .val (.ref b11), .val (.int (pmo &&& (3 : Int32))), .unset, .unset] [(.ref b17)])) _
      refine XS.astore Xr20.here hx rfl (hb hby at_100) rfl rfl (l' := #[.val (.int ps1), .val (.int pr1), .val (.int ps2), .val (.int pr2), .val (.int pmo), .val (.int pch), .val (.int (ps1 &&& (3 : Int32))), .val (.int ((pr1 &&& (2147483647 : Int32)) % (13 : Int32))), .val (.int cc), .val (.int dd), .val (.ref b11), .val (.int (pmo &&& (3 : Int32))), .val (.ref b17), .unset]) rfl ?_
      show Steps p.tables e below (T20.setTop (mkF m 102 #[.val (.int ps1), .val (.int pr1), .val (.int ps2), .val (.int pr2), .val (.int pmo), .val (.int pch), .val (.int (ps1 &&& (3 : Int32))), .val (.int ((pr1 &&& (2147483647 : Int32)) % (13 : Int32))), .val (.int cc), .val (.int dd), .val (.ref b11), .val (.int (pmo &&& (3 : Int32))), .val (.ref b17), .unset] [])) _
      refine XS.iload Xr20.here hx rfl (hb hby at_102) rfl ?_
      show Steps p.tables e below (T20.setTop (mkF m 104 #[.val (.int ps1), .val (.int pr1), .val (.int ps2), .val (.int pr2), .val (.int pmo), .val (.int pch), .val (.int (ps1 &&& (3 : Int32))), .val (.int ((pr1 &&& (2147483647 : Int32)) % (13 : Int32))), .val (.int cc), .val (.int dd), .val (.ref b11), .val (.int (pmo &&& (3 : Int32))), .val (.ref b17), .unset] [(.int (ps1 &&& (3 : Int32)))])) _
      refine XS.iload Xr20.here hx rfl (hb hby at_104) rfl ?_
      show Steps p.tables e below (T20.setTop (mkF m 106 #[.val (.int ps1), .val (.int pr1), .val (.int ps2), .val (.int pr2), .val (.int pmo), .val (.int pch), .val (.int (ps1 &&& (3 : Int32))), .val (.int ((pr1 &&& (2147483647 : Int32)) % (13 : Int32))), .val (.int cc), .val (.int dd), .val (.ref b11), .val (.int (pmo &&& (3 : Int32))), .val (.ref b17), .unset] [(.int cc), (.int (ps1 &&& (3 : Int32)))])) _
      exact kt
    by_cases hc106_22 : (ps1 &&& (3 : Int32)) = cc
    · have pre23 : ∀ t, Steps p.tables e below (T20.setTop (mkF m 113 #[.val (.int ps1), .val (.int pr1), .val (.int ps2), .val (.int pr2), .val (.int pmo), .val (.int pch), .val (.int (ps1 &&& (3 : Int32))), .val (.int ((pr1 &&& (2147483647 : Int32)) % (13 : Int32))), .val (.int cc), .val (.int dd), .val (.ref b11), .val (.int (pmo &&& (3 : Int32))), .val (.ref b17), .unset] [(.int dd), (.int ((pr1 &&& (2147483647 : Int32)) % (13 : Int32)))])) t → Steps p.tables e below (s₁.setTop (entryFrame m #[(.int ps1), (.int pr1), (.int ps2), (.int pr2), (.int pmo), (.int pch)] maxLocals)) t := by
        intro t kt
        refine pre21 t ?_
        show Steps p.tables e below (T20.setTop (mkF m 106 #[.val (.int ps1), .val (.int pr1), .val (.int ps2), .val (.int pr2), .val (.int pmo), .val (.int pch), .val (.int (ps1 &&& (3 : Int32))), .val (.int ((pr1 &&& (2147483647 : Int32)) % (13 : Int32))), .val (.int cc), .val (.int dd), .val (.ref b11), .val (.int (pmo &&& (3 : Int32))), .val (.ref b17), .unset] [(.int cc), (.int (ps1 &&& (3 : Int32)))])) _
        refine XS.icmpNo Xr20.here hx rfl (hb hby at_106) rfl (teq hc106_22).2 ?_
        show Steps p.tables e below (T20.setTop (mkF m 109 #[.val (.int ps1), .val (.int pr1), .val (.int ps2), .val (.int pr2), .val (.int pmo), .val (.int pch), .val (.int (ps1 &&& (3 : Int32))), .val (.int ((pr1 &&& (2147483647 : Int32)) % (13 : Int32))), .val (.int cc), .val (.int dd), .val (.ref b11), .val (.int (pmo &&& (3 : Int32))), .val (.ref b17), .unset] [])) _
        refine XS.iload Xr20.here hx rfl (hb hby at_109) rfl ?_
        show Steps p.tables e below (T20.setTop (mkF m 111 #[.val (.int ps1), .val (.int pr1), .val (.int ps2), .val (.int pr2), .val (.int pmo), .val (.int pch), .val (.int (ps1 &&& (3 : Int32))), .val (.int ((pr1 &&& (2147483647 : Int32)) % (13 : Int32))), .val (.int cc), .val (.int dd), .val (.ref b11), .val (.int (pmo &&& (3 : Int32))), .val (.ref b17), .unset] [(.int ((pr1 &&& (2147483647 : Int32)) % (13 : Int32)))])) _
        refine XS.iload Xr20.here hx rfl (hb hby at_111) rfl ?_
        show Steps p.tables e below (T20.setTop (mkF m 113 #[.val (.int ps1), .val (.int pr1), .val (.int ps2), .val (.int pr2), .val (.int pmo), .val (.int pch), .val (.int (ps1 &&& (3 : Int32))), .val (.int ((pr1 &&& (2147483647 : Int32)) % (13 : Int32))), .val (.int cc), .val (.int dd), .val (.ref b11), .val (.int (pmo &&& (3 : Int32))), .val (.ref b17), .unset] [(.int dd), (.int ((pr1 &&& (2147483647 : Int32)) % (13 : Int32)))])) _
        exact kt
      by_cases hc113_24 : ((pr1 &&& (2147483647 : Int32)) % (13 : Int32)) = dd
      · obtain ⟨cq25, kq25, q25a, q25b, q25c⟩ := isOf hZ20 rfl ((A14c.ext E17).keep K20)
        obtain ⟨_, _, ⟨T25, L25, k25, n25⟩, -, X25, ⟨Lc25, hQ25, l25, y25, z25⟩, st25⟩ := Xr20.virtualBack hx (y := (⟨"com/example/ruffwork/ruffwork/Card", "equals", "(Ljava/lang/Object;)Z"⟩ : MethodName)) (z := (⟨"com/example/ruffwork/ruffwork/Card", "equals", "(Ljava/lang/Object;)Z"⟩ : MethodName)) hown20 (mvT hZ20 (hw _ (List.mem_of_getElem? (i := 53) rfl))) (mvT hZ20 (hw _ (List.mem_of_getElem? (i := 54) rfl))) (notFace_of_selects (args := #[]) (mvT hZ20 (hw _ (List.mem_of_getElem? (i := 56) rfl)))) (mvT hZ20 (hw _ (List.mem_of_getElem? (i := 56) rfl))) (mvT hZ20 (hw _ (List.mem_of_getElem? (i := 55) rfl))) (by decide) (backOf (W := 0) (rm7 l Z a0 hw [] b11 b17 suit1 rank2 suit3 rank4 T20.heap n0 (Nat.le_trans Z0 Kc20.1) ((A14c.ext E17).keep K20) A20c ((Fc0_14.ext E17).keep K20 (ninS ne_b11_b17 nin0)) ((Fc1_14.ext E17).keep K20 (ninS ne_b11_b17 nin0)) ((Fc2_14.ext E17).keep K20 (ninS ne_b11_b17 nin0)) Fc0_20 Fc1_20 Fc2_20) hZ20 (hw _ (List.mem_of_getElem? (i := 57) rfl)) (hw _ (List.mem_of_getElem? (i := 3) rfl)) (by decide) (by decide)) q25a q25c (g := (mkF m 127 #[.val (.int ps1), .val (.int pr1), .val (.int ps2), .val (.int pr2), .val (.int pmo), .val (.int pch), .val (.int (ps1 &&& (3 : Int32))), .val (.int ((pr1 &&& (2147483647 : Int32)) % (13 : Int32))), .val (.int cc), .val (.int dd), .val (.ref b11), .val (.int (pmo &&& (3 : Int32))), .val (.ref b17), .val (.int (1 : Int32))] [(.ref b17), (.ref b11)])) rfl (by rw [hml]; rfl) (Steps.refl _) (argsL := [(.ref b17)]) (rest := []) (lenOf pd_8 rfl) rfl (by show 2 * 0 + _ ≤ _; exact Nat.le_of_eq rfl) (hb hby at_127) (fun _ _ => ⟨rfl, rfl, (by decide : 10 + 0 ≤ _), (by decide : 86 + 0 ≤ _)⟩)
        dsimp only [Pt.U, Pt.locs, Pt.cells, Pt.slots] at X25 l25 y25 z25 st25 hQ25
        subst l25 y25 z25
        obtain ⟨rfl, N25q, e25⟩ := hQ25
        have N25 := Fr.app N20 N25q
        obtain ⟨cq26, kq26, q26a, q26b, q26c⟩ := isOf hZ20 e25 A20c
        obtain ⟨_, _, ⟨T26, L26, k26, n26⟩, -, X26, ⟨Lc26, hQ26, l26, y26, z26⟩, st26⟩ := X25.virtualBack hx (y := (⟨"com/example/ruffwork/ruffwork/Card", "equals", "(Ljava/lang/Object;)Z"⟩ : MethodName)) (z := (⟨"com/example/ruffwork/ruffwork/Card", "equals", "(Ljava/lang/Object;)Z"⟩ : MethodName)) hown20 (mvT hZ20 (hw _ (List.mem_of_getElem? (i := 53) rfl))) (mvT hZ20 (hw _ (List.mem_of_getElem? (i := 54) rfl))) (notFace_of_selects (args := #[]) (mvT hZ20 (hw _ (List.mem_of_getElem? (i := 56) rfl)))) (mvT hZ20 (hw _ (List.mem_of_getElem? (i := 56) rfl))) (mvT hZ20 (hw _ (List.mem_of_getElem? (i := 55) rfl))) (by decide) (backOf (W := 0) (rm7 l Z a0 hw [] b17 b11 suit3 rank4 suit1 rank2 T20.heap n0 (Nat.le_trans Z0 Kc20.1) A20c ((A14c.ext E17).keep K20) Fc0_20 Fc1_20 Fc2_20 ((Fc0_14.ext E17).keep K20 (ninS ne_b11_b17 nin0)) ((Fc1_14.ext E17).keep K20 (ninS ne_b11_b17 nin0)) ((Fc2_14.ext E17).keep K20 (ninS ne_b11_b17 nin0))) hZ20 (hw _ (List.mem_of_getElem? (i := 57) rfl)) (hw _ (List.mem_of_getElem? (i := 3) rfl)) (by decide) (by decide)) q26a q26c (g := (mkF m 139 #[.val (.int ps1), .val (.int pr1), .val (.int ps2), .val (.int pr2), .val (.int pmo), .val (.int pch), .val (.int (ps1 &&& (3 : Int32))), .val (.int ((pr1 &&& (2147483647 : Int32)) % (13 : Int32))), .val (.int cc), .val (.int dd), .val (.ref b11), .val (.int (pmo &&& (3 : Int32))), .val (.ref b17), .val (.int (1 : Int32))] [(.ref b11), (.ref b17)])) rfl (by rw [hml]; rfl) (Steps.refl _) (argsL := [(.ref b11)]) (rest := []) (lenOf pd_8 rfl) rfl (by show 2 * 0 + _ ≤ _; exact Nat.le_of_eq rfl) (hb hby at_139) (fun _ _ => ⟨rfl, e25, (by decide : 10 + 0 ≤ _), (by decide : 86 + 0 ≤ _)⟩)
        dsimp only [Pt.U, Pt.locs, Pt.cells, Pt.slots] at X26 l26 y26 z26 st26 hQ26
        subst l26 y26 z26
        obtain ⟨rfl, N26q, e26⟩ := hQ26
        have N26 := Fr.app N25 N26q
        obtain ⟨fs, hr, hrun, hended, hend⟩ := Stand.leaveW (s := s) (vm₁ := T20.vm) X26 hS20 (by rw [e26]; exact (Nat.le_refl _)) (v := some (.int (1 : Int32))) (fun h => by rw [Bd.returns] at h; cases h)
        refine ⟨_, _, pre23 _ ?_, hrun, hended, _, _, rfl, ?_, hend.1, hend.2.1, hend.2.2.1, hend.2.2.2.mono (by decide) (by decide)⟩
        · show Steps p.tables e below (T20.setTop (mkF m 113 #[.val (.int ps1), .val (.int pr1), .val (.int ps2), .val (.int pr2), .val (.int pmo), .val (.int pch), .val (.int (ps1 &&& (3 : Int32))), .val (.int ((pr1 &&& (2147483647 : Int32)) % (13 : Int32))), .val (.int cc), .val (.int dd), .val (.ref b11), .val (.int (pmo &&& (3 : Int32))), .val (.ref b17), .unset] [(.int dd), (.int ((pr1 &&& (2147483647 : Int32)) % (13 : Int32)))])) _
          refine XS.icmpNo Xr20.here hx rfl (hb hby at_113) rfl (teq hc113_24).2 ?_
          show Steps p.tables e below (T20.setTop (mkF m 116 #[.val (.int ps1), .val (.int pr1), .val (.int ps2), .val (.int pr2), .val (.int pmo), .val (.int pch), .val (.int (ps1 &&& (3 : Int32))), .val (.int ((pr1 &&& (2147483647 : Int32)) % (13 : Int32))), .val (.int cc), .val (.int dd), .val (.ref b11), .val (.int (pmo &&& (3 : Int32))), .val (.ref b17), .unset] [])) _
          refine XS.iconst Xr20.here hx rfl (hb hby at_116) ?_
          show Steps p.tables e below (T20.setTop (mkF m 117 #[.val (.int ps1), .val (.int pr1), .val (.int ps2), .val (.int pr2), .val (.int pmo), .val (.int pch), .val (.int (ps1 &&& (3 : Int32))), .val (.int ((pr1 &&& (2147483647 : Int32)) % (13 : Int32))), .val (.int cc), .val (.int dd), .val (.ref b11), .val (.int (pmo &&& (3 : Int32))), .val (.ref b17), .unset] [(.int (1 : Int32))])) _
          refine XS.goto Xr20.here hx rfl (pc0 := 117) (pc' := 121) rfl (hb hby at_117) (by decide) (by decide) ?_
          show Steps p.tables e below (T20.setTop (mkF m 121 #[.val (.int ps1), .val (.int pr1), .val (.int ps2), .val (.int pr2), .val (.int pmo), .val (.int pch), .val (.int (ps1 &&& (3 : Int32))), .val (.int ((pr1 &&& (2147483647 : Int32)) % (13 : Int32))), .val (.int cc), .val (.int dd), .val (.ref b11), .val (.int (pmo &&& (3 : Int32))), .val (.ref b17), .unset] [(.int (1 : Int32))])) _
          refine XS.istore Xr20.here hx rfl (hb hby at_121) rfl (l' := #[.val (.int ps1), .val (.int pr1), .val (.int ps2), .val (.int pr2), .val (.int pmo), .val (.int pch), .val (.int (ps1 &&& (3 : Int32))), .val (.int ((pr1 &&& (2147483647 : Int32)) % (13 : Int32))), .val (.int cc), .val (.int dd), .val (.ref b11), .val (.int (pmo &&& (3 : Int32))), .val (.ref b17), .val (.int (1 : Int32))]) rfl ?_
          show Steps p.tables e below (T20.setTop (mkF m 123 #[.val (.int ps1), .val (.int pr1), .val (.int ps2), .val (.int pr2), .val (.int pmo), .val (.int pch), .val (.int (ps1 &&& (3 : Int32))), .val (.int ((pr1 &&& (2147483647 : Int32)) % (13 : Int32))), .val (.int cc), .val (.int dd), .val (.ref b11), .val (.int (pmo &&& (3 : Int32))), .val (.ref b17), .val (.int (1 : Int32))] [])) _
          refine XS.aload Xr20.here hx rfl (hb hby at_123) rfl rfl ?_
          show Steps p.tables e below (T20.setTop (mkF m 125 #[.val (.int ps1), .val (.int pr1), .val (.int ps2), .val (.int pr2), .val (.int pmo), .val (.int pch), .val (.int (ps1 &&& (3 : Int32))), .val (.int ((pr1 &&& (2147483647 : Int32)) % (13 : Int32))), .val (.int cc), .val (.int dd), .val (.ref b11), .val (.int (pmo &&& (3 : Int32))), .val (.ref b17), .val (.int (1 : Int32))] [(.ref b11)])) _
          refine XS.aload Xr20.here hx rfl (hb hby at_125) rfl rfl ?_
          show Steps p.tables e below (T20.setTop (mkF m 127 #[.val (.int ps1), .val (.int pr1), .val (.int ps2), .val (.int pr2), .val (.int pmo), .val (.int pch), .val (.int (ps1 &&& (3 : Int32))), .val (.int ((pr1 &&& (2147483647 : Int32)) % (13 : Int32))), .val (.int cc), .val (.int dd), .val (.ref b11), .val (.int (pmo &&& (3 : Int32))), .val (.ref b17), .val (.int (1 : Int32))] [(.ref b17), (.ref b11)])) _
          refine st25.trans ?_
          show Steps p.tables e below (T25.setTop (mkF m 130 #[.val (.int ps1), .val (.int pr1), .val (.int ps2), .val (.int pr2), .val (.int pmo), .val (.int pch), .val (.int (ps1 &&& (3 : Int32))), .val (.int ((pr1 &&& (2147483647 : Int32)) % (13 : Int32))), .val (.int cc), .val (.int dd), .val (.ref b11), .val (.int (pmo &&& (3 : Int32))), .val (.ref b17), .val (.int (1 : Int32))] [(.int (cardEq suit1 rank2 suit3 rank4))])) _
          refine XS.iload X25.here hx rfl (hb hby at_130) rfl ?_
          show Steps p.tables e below (T25.setTop (mkF m 132 #[.val (.int ps1), .val (.int pr1), .val (.int ps2), .val (.int pr2), .val (.int pmo), .val (.int pch), .val (.int (ps1 &&& (3 : Int32))), .val (.int ((pr1 &&& (2147483647 : Int32)) % (13 : Int32))), .val (.int cc), .val (.int dd), .val (.ref b11), .val (.int (pmo &&& (3 : Int32))), .val (.ref b17), .val (.int (1 : Int32))] [(.int (1 : Int32)), (.int (cardEq suit1 rank2 suit3 rank4))])) _
          refine XS.icmpNo X25.here hx rfl (hb hby at_132) rfl (teq (by unfold cardEq; rw [if_pos (show suit3 = suit1 from by rw [h_suit3, h_suit1, hc106_22]), if_pos (show rank4 = rank2 from by rw [h_rank4, h_rank2, hc113_24])] : (cardEq suit1 rank2 suit3 rank4) = (1 : Int32))).2 ?_
          show Steps p.tables e below (T25.setTop (mkF m 135 #[.val (.int ps1), .val (.int pr1), .val (.int ps2), .val (.int pr2), .val (.int pmo), .val (.int pch), .val (.int (ps1 &&& (3 : Int32))), .val (.int ((pr1 &&& (2147483647 : Int32)) % (13 : Int32))), .val (.int cc), .val (.int dd), .val (.ref b11), .val (.int (pmo &&& (3 : Int32))), .val (.ref b17), .val (.int (1 : Int32))] [])) _
          refine XS.aload X25.here hx rfl (hb hby at_135) rfl rfl ?_
          show Steps p.tables e below (T25.setTop (mkF m 137 #[.val (.int ps1), .val (.int pr1), .val (.int ps2), .val (.int pr2), .val (.int pmo), .val (.int pch), .val (.int (ps1 &&& (3 : Int32))), .val (.int ((pr1 &&& (2147483647 : Int32)) % (13 : Int32))), .val (.int cc), .val (.int dd), .val (.ref b11), .val (.int (pmo &&& (3 : Int32))), .val (.ref b17), .val (.int (1 : Int32))] [(.ref b17)])) _
          refine XS.aload X25.here hx rfl (hb hby at_137) rfl rfl ?_
          show Steps p.tables e below (T25.setTop (mkF m 139 #[.val (.int ps1), .val (.int pr1), .val (.int ps2), .val (.int pr2), .val (.int pmo), .val (.int pch), .val (.int (ps1 &&& (3 : Int32))), .val (.int ((pr1 &&& (2147483647 : Int32)) % (13 : Int32))), .val (.int cc), .val (.int dd), .val (.ref b11), .val (.int (pmo &&& (3 : Int32))), .val (.ref b17), .val (.int (1 : Int32))] [(.ref b11), (.ref b17)])) _
          refine st26.trans ?_
          show Steps p.tables e below (T26.setTop (mkF m 142 #[.val (.int ps1), .val (.int pr1), .val (.int ps2), .val (.int pr2), .val (.int pmo), .val (.int pch), .val (.int (ps1 &&& (3 : Int32))), .val (.int ((pr1 &&& (2147483647 : Int32)) % (13 : Int32))), .val (.int cc), .val (.int dd), .val (.ref b11), .val (.int (pmo &&& (3 : Int32))), .val (.ref b17), .val (.int (1 : Int32))] [(.int (cardEq suit3 rank4 suit1 rank2))])) _
          refine XS.iload X26.here hx rfl (hb hby at_142) rfl ?_
          show Steps p.tables e below (T26.setTop (mkF m 144 #[.val (.int ps1), .val (.int pr1), .val (.int ps2), .val (.int pr2), .val (.int pmo), .val (.int pch), .val (.int (ps1 &&& (3 : Int32))), .val (.int ((pr1 &&& (2147483647 : Int32)) % (13 : Int32))), .val (.int cc), .val (.int dd), .val (.ref b11), .val (.int (pmo &&& (3 : Int32))), .val (.ref b17), .val (.int (1 : Int32))] [(.int (1 : Int32)), (.int (cardEq suit3 rank4 suit1 rank2))])) _
          refine XS.icmpNo X26.here hx rfl (hb hby at_144) rfl (teq (by unfold cardEq; rw [if_pos (show suit1 = suit3 from by rw [h_suit1, h_suit3, hc106_22]), if_pos (show rank2 = rank4 from by rw [h_rank2, h_rank4, hc113_24])] : (cardEq suit3 rank4 suit1 rank2) = (1 : Int32))).2 ?_
          show Steps p.tables e below (T26.setTop (mkF m 147 #[.val (.int ps1), .val (.int pr1), .val (.int ps2), .val (.int pr2), .val (.int pmo), .val (.int pch), .val (.int (ps1 &&& (3 : Int32))), .val (.int ((pr1 &&& (2147483647 : Int32)) % (13 : Int32))), .val (.int cc), .val (.int dd), .val (.ref b11), .val (.int (pmo &&& (3 : Int32))), .val (.ref b17), .val (.int (1 : Int32))] [])) _
          refine XS.iconst X26.here hx rfl (hb hby at_147) ?_
          show Steps p.tables e below (T26.setTop (mkF m 148 #[.val (.int ps1), .val (.int pr1), .val (.int ps2), .val (.int pr2), .val (.int pmo), .val (.int pch), .val (.int (ps1 &&& (3 : Int32))), .val (.int ((pr1 &&& (2147483647 : Int32)) % (13 : Int32))), .val (.int cc), .val (.int dd), .val (.ref b11), .val (.int (pmo &&& (3 : Int32))), .val (.ref b17), .val (.int (1 : Int32))] [(.int (1 : Int32))])) _
          refine XS.goto X26.here hx rfl (pc0 := 148) (pc' := 152) rfl (hb hby at_148) (by decide) (by decide) ?_
          show Steps p.tables e below (T26.setTop (mkF m 152 #[.val (.int ps1), .val (.int pr1), .val (.int ps2), .val (.int pr2), .val (.int pmo), .val (.int pch), .val (.int (ps1 &&& (3 : Int32))), .val (.int ((pr1 &&& (2147483647 : Int32)) % (13 : Int32))), .val (.int cc), .val (.int dd), .val (.ref b11), .val (.int (pmo &&& (3 : Int32))), .val (.ref b17), .val (.int (1 : Int32))] [(.int (1 : Int32))])) _
          exact retN X26 hx (t := .boolean) Bd.returns (by simp) (hb hby at_152) hr
        · show Q0 Z ps1 pr1 ps2 pr2 pmo pch w_SPADES w_HEARTS w_DIAMONDS w_CLUBS w_TWO w_THREE w_FOUR w_FIVE w_SIX w_SEVEN w_EIGHT w_NINE w_TEN w_JACK w_QUEEN w_KING w_ACE zc h0 n0 _ T26.heap _
          rw [e26]
          exact ⟨rfl, N26⟩
      · obtain ⟨cq28, kq28, q28a, q28b, q28c⟩ := isOf hZ20 rfl ((A14c.ext E17).keep K20)
        obtain ⟨_, _, ⟨T28, L28, k28, n28⟩, -, X28, ⟨Lc28, hQ28, l28, y28, z28⟩, st28⟩ := Xr20.virtualBack hx (y := (⟨"com/example/ruffwork/ruffwork/Card", "equals", "(Ljava/lang/Object;)Z"⟩ : MethodName)) (z := (⟨"com/example/ruffwork/ruffwork/Card", "equals", "(Ljava/lang/Object;)Z"⟩ : MethodName)) hown20 (mvT hZ20 (hw _ (List.mem_of_getElem? (i := 53) rfl))) (mvT hZ20 (hw _ (List.mem_of_getElem? (i := 54) rfl))) (notFace_of_selects (args := #[]) (mvT hZ20 (hw _ (List.mem_of_getElem? (i := 56) rfl)))) (mvT hZ20 (hw _ (List.mem_of_getElem? (i := 56) rfl))) (mvT hZ20 (hw _ (List.mem_of_getElem? (i := 55) rfl))) (by decide) (backOf (W := 0) (rm7 l Z a0 hw [] b11 b17 suit1 rank2 suit3 rank4 T20.heap n0 (Nat.le_trans Z0 Kc20.1) ((A14c.ext E17).keep K20) A20c ((Fc0_14.ext E17).keep K20 (ninS ne_b11_b17 nin0)) ((Fc1_14.ext E17).keep K20 (ninS ne_b11_b17 nin0)) ((Fc2_14.ext E17).keep K20 (ninS ne_b11_b17 nin0)) Fc0_20 Fc1_20 Fc2_20) hZ20 (hw _ (List.mem_of_getElem? (i := 57) rfl)) (hw _ (List.mem_of_getElem? (i := 3) rfl)) (by decide) (by decide)) q28a q28c (g := (mkF m 127 #[.val (.int ps1), .val (.int pr1), .val (.int ps2), .val (.int pr2), .val (.int pmo), .val (.int pch), .val (.int (ps1 &&& (3 : Int32))), .val (.int ((pr1 &&& (2147483647 : Int32)) % (13 : Int32))), .val (.int cc), .val (.int dd), .val (.ref b11), .val (.int (pmo &&& (3 : Int32))), .val (.ref b17), .val (.int (0 : Int32))] [(.ref b17), (.ref b11)])) rfl (by rw [hml]; rfl) (Steps.refl _) (argsL := [(.ref b17)]) (rest := []) (lenOf pd_8 rfl) rfl (by show 2 * 0 + _ ≤ _; exact Nat.le_of_eq rfl) (hb hby at_127) (fun _ _ => ⟨rfl, rfl, (by decide : 10 + 0 ≤ _), (by decide : 86 + 0 ≤ _)⟩)
        dsimp only [Pt.U, Pt.locs, Pt.cells, Pt.slots] at X28 l28 y28 z28 st28 hQ28
        subst l28 y28 z28
        obtain ⟨rfl, N28q, e28⟩ := hQ28
        have N28 := Fr.app N20 N28q
        obtain ⟨cq29, kq29, q29a, q29b, q29c⟩ := isOf hZ20 e28 A20c
        obtain ⟨_, _, ⟨T29, L29, k29, n29⟩, -, X29, ⟨Lc29, hQ29, l29, y29, z29⟩, st29⟩ := X28.virtualBack hx (y := (⟨"com/example/ruffwork/ruffwork/Card", "equals", "(Ljava/lang/Object;)Z"⟩ : MethodName)) (z := (⟨"com/example/ruffwork/ruffwork/Card", "equals", "(Ljava/lang/Object;)Z"⟩ : MethodName)) hown20 (mvT hZ20 (hw _ (List.mem_of_getElem? (i := 53) rfl))) (mvT hZ20 (hw _ (List.mem_of_getElem? (i := 54) rfl))) (notFace_of_selects (args := #[]) (mvT hZ20 (hw _ (List.mem_of_getElem? (i := 56) rfl)))) (mvT hZ20 (hw _ (List.mem_of_getElem? (i := 56) rfl))) (mvT hZ20 (hw _ (List.mem_of_getElem? (i := 55) rfl))) (by decide) (backOf (W := 0) (rm7 l Z a0 hw [] b17 b11 suit3 rank4 suit1 rank2 T20.heap n0 (Nat.le_trans Z0 Kc20.1) A20c ((A14c.ext E17).keep K20) Fc0_20 Fc1_20 Fc2_20 ((Fc0_14.ext E17).keep K20 (ninS ne_b11_b17 nin0)) ((Fc1_14.ext E17).keep K20 (ninS ne_b11_b17 nin0)) ((Fc2_14.ext E17).keep K20 (ninS ne_b11_b17 nin0))) hZ20 (hw _ (List.mem_of_getElem? (i := 57) rfl)) (hw _ (List.mem_of_getElem? (i := 3) rfl)) (by decide) (by decide)) q29a q29c (g := (mkF m 139 #[.val (.int ps1), .val (.int pr1), .val (.int ps2), .val (.int pr2), .val (.int pmo), .val (.int pch), .val (.int (ps1 &&& (3 : Int32))), .val (.int ((pr1 &&& (2147483647 : Int32)) % (13 : Int32))), .val (.int cc), .val (.int dd), .val (.ref b11), .val (.int (pmo &&& (3 : Int32))), .val (.ref b17), .val (.int (0 : Int32))] [(.ref b11), (.ref b17)])) rfl (by rw [hml]; rfl) (Steps.refl _) (argsL := [(.ref b11)]) (rest := []) (lenOf pd_8 rfl) rfl (by show 2 * 0 + _ ≤ _; exact Nat.le_of_eq rfl) (hb hby at_139) (fun _ _ => ⟨rfl, e28, (by decide : 10 + 0 ≤ _), (by decide : 86 + 0 ≤ _)⟩)
        dsimp only [Pt.U, Pt.locs, Pt.cells, Pt.slots] at X29 l29 y29 z29 st29 hQ29
        subst l29 y29 z29
        obtain ⟨rfl, N29q, e29⟩ := hQ29
        have N29 := Fr.app N28 N29q
        obtain ⟨fs, hr, hrun, hended, hend⟩ := Stand.leaveW (s := s) (vm₁ := T20.vm) X29 hS20 (by rw [e29]; exact (Nat.le_refl _)) (v := some (.int (1 : Int32))) (fun h => by rw [Bd.returns] at h; cases h)
        refine ⟨_, _, pre23 _ ?_, hrun, hended, _, _, rfl, ?_, hend.1, hend.2.1, hend.2.2.1, hend.2.2.2.mono (by decide) (by decide)⟩
        · show Steps p.tables e below (T20.setTop (mkF m 113 #[.val (.int ps1), .val (.int pr1), .val (.int ps2), .val (.int pr2), .val (.int pmo), .val (.int pch), .val (.int (ps1 &&& (3 : Int32))), .val (.int ((pr1 &&& (2147483647 : Int32)) % (13 : Int32))), .val (.int cc), .val (.int dd), .val (.ref b11), .val (.int (pmo &&& (3 : Int32))), .val (.ref b17), .unset] [(.int dd), (.int ((pr1 &&& (2147483647 : Int32)) % (13 : Int32)))])) _
          refine XS.icmpYes Xr20.here hx rfl (pc0 := 113) (pc' := 120) rfl (hb hby at_113) rfl (feq hc113_24).2 (by decide) (by decide) ?_
          show Steps p.tables e below (T20.setTop (mkF m 120 #[.val (.int ps1), .val (.int pr1), .val (.int ps2), .val (.int pr2), .val (.int pmo), .val (.int pch), .val (.int (ps1 &&& (3 : Int32))), .val (.int ((pr1 &&& (2147483647 : Int32)) % (13 : Int32))), .val (.int cc), .val (.int dd), .val (.ref b11), .val (.int (pmo &&& (3 : Int32))), .val (.ref b17), .unset] [])) _
          refine XS.iconst Xr20.here hx rfl (hb hby at_120) ?_
          show Steps p.tables e below (T20.setTop (mkF m 121 #[.val (.int ps1), .val (.int pr1), .val (.int ps2), .val (.int pr2), .val (.int pmo), .val (.int pch), .val (.int (ps1 &&& (3 : Int32))), .val (.int ((pr1 &&& (2147483647 : Int32)) % (13 : Int32))), .val (.int cc), .val (.int dd), .val (.ref b11), .val (.int (pmo &&& (3 : Int32))), .val (.ref b17), .unset] [(.int (0 : Int32))])) _
          refine XS.istore Xr20.here hx rfl (hb hby at_121) rfl (l' := #[.val (.int ps1), .val (.int pr1), .val (.int ps2), .val (.int pr2), .val (.int pmo), .val (.int pch), .val (.int (ps1 &&& (3 : Int32))), .val (.int ((pr1 &&& (2147483647 : Int32)) % (13 : Int32))), .val (.int cc), .val (.int dd), .val (.ref b11), .val (.int (pmo &&& (3 : Int32))), .val (.ref b17), .val (.int (0 : Int32))]) rfl ?_
          show Steps p.tables e below (T20.setTop (mkF m 123 #[.val (.int ps1), .val (.int pr1), .val (.int ps2), .val (.int pr2), .val (.int pmo), .val (.int pch), .val (.int (ps1 &&& (3 : Int32))), .val (.int ((pr1 &&& (2147483647 : Int32)) % (13 : Int32))), .val (.int cc), .val (.int dd), .val (.ref b11), .val (.int (pmo &&& (3 : Int32))), .val (.ref b17), .val (.int (0 : Int32))] [])) _
          refine XS.aload Xr20.here hx rfl (hb hby at_123) rfl rfl ?_
          show Steps p.tables e below (T20.setTop (mkF m 125 #[.val (.int ps1), .val (.int pr1), .val (.int ps2), .val (.int pr2), .val (.int pmo), .val (.int pch), .val (.int (ps1 &&& (3 : Int32))), .val (.int ((pr1 &&& (2147483647 : Int32)) % (13 : Int32))), .val (.int cc), .val (.int dd), .val (.ref b11), .val (.int (pmo &&& (3 : Int32))), .val (.ref b17), .val (.int (0 : Int32))] [(.ref b11)])) _
          refine XS.aload Xr20.here hx rfl (hb hby at_125) rfl rfl ?_
          show Steps p.tables e below (T20.setTop (mkF m 127 #[.val (.int ps1), .val (.int pr1), .val (.int ps2), .val (.int pr2), .val (.int pmo), .val (.int pch), .val (.int (ps1 &&& (3 : Int32))), .val (.int ((pr1 &&& (2147483647 : Int32)) % (13 : Int32))), .val (.int cc), .val (.int dd), .val (.ref b11), .val (.int (pmo &&& (3 : Int32))), .val (.ref b17), .val (.int (0 : Int32))] [(.ref b17), (.ref b11)])) _
          refine st28.trans ?_
          show Steps p.tables e below (T28.setTop (mkF m 130 #[.val (.int ps1), .val (.int pr1), .val (.int ps2), .val (.int pr2), .val (.int pmo), .val (.int pch), .val (.int (ps1 &&& (3 : Int32))), .val (.int ((pr1 &&& (2147483647 : Int32)) % (13 : Int32))), .val (.int cc), .val (.int dd), .val (.ref b11), .val (.int (pmo &&& (3 : Int32))), .val (.ref b17), .val (.int (0 : Int32))] [(.int (cardEq suit1 rank2 suit3 rank4))])) _
          refine XS.iload X28.here hx rfl (hb hby at_130) rfl ?_
          show Steps p.tables e below (T28.setTop (mkF m 132 #[.val (.int ps1), .val (.int pr1), .val (.int ps2), .val (.int pr2), .val (.int pmo), .val (.int pch), .val (.int (ps1 &&& (3 : Int32))), .val (.int ((pr1 &&& (2147483647 : Int32)) % (13 : Int32))), .val (.int cc), .val (.int dd), .val (.ref b11), .val (.int (pmo &&& (3 : Int32))), .val (.ref b17), .val (.int (0 : Int32))] [(.int (0 : Int32)), (.int (cardEq suit1 rank2 suit3 rank4))])) _
          refine XS.icmpNo X28.here hx rfl (hb hby at_132) rfl (teq (by unfold cardEq; rw [if_pos (show suit3 = suit1 from by rw [h_suit3, h_suit1, hc106_22]), if_neg (Fld.ne F_rank4 F_rank2 (fun q => hc113_24 ((Value.int.inj q).symm)))] : (cardEq suit1 rank2 suit3 rank4) = (0 : Int32))).2 ?_
          show Steps p.tables e below (T28.setTop (mkF m 135 #[.val (.int ps1), .val (.int pr1), .val (.int ps2), .val (.int pr2), .val (.int pmo), .val (.int pch), .val (.int (ps1 &&& (3 : Int32))), .val (.int ((pr1 &&& (2147483647 : Int32)) % (13 : Int32))), .val (.int cc), .val (.int dd), .val (.ref b11), .val (.int (pmo &&& (3 : Int32))), .val (.ref b17), .val (.int (0 : Int32))] [])) _
          refine XS.aload X28.here hx rfl (hb hby at_135) rfl rfl ?_
          show Steps p.tables e below (T28.setTop (mkF m 137 #[.val (.int ps1), .val (.int pr1), .val (.int ps2), .val (.int pr2), .val (.int pmo), .val (.int pch), .val (.int (ps1 &&& (3 : Int32))), .val (.int ((pr1 &&& (2147483647 : Int32)) % (13 : Int32))), .val (.int cc), .val (.int dd), .val (.ref b11), .val (.int (pmo &&& (3 : Int32))), .val (.ref b17), .val (.int (0 : Int32))] [(.ref b17)])) _
          refine XS.aload X28.here hx rfl (hb hby at_137) rfl rfl ?_
          show Steps p.tables e below (T28.setTop (mkF m 139 #[.val (.int ps1), .val (.int pr1), .val (.int ps2), .val (.int pr2), .val (.int pmo), .val (.int pch), .val (.int (ps1 &&& (3 : Int32))), .val (.int ((pr1 &&& (2147483647 : Int32)) % (13 : Int32))), .val (.int cc), .val (.int dd), .val (.ref b11), .val (.int (pmo &&& (3 : Int32))), .val (.ref b17), .val (.int (0 : Int32))] [(.ref b11), (.ref b17)])) _
          refine st29.trans ?_
          show Steps p.tables e below (T29.setTop (mkF m 142 #[.val (.int ps1), .val (.int pr1), .val (.int ps2), .val (.int pr2), .val (.int pmo), .val (.int pch), .val (.int (ps1 &&& (3 : Int32))), .val (.int ((pr1 &&& (2147483647 : Int32)) % (13 : Int32))), .val (.int cc), .val (.int dd), .val (.ref b11), .val (.int (pmo &&& (3 : Int32))), .val (.ref b17), .val (.int (0 : Int32))] [(.int (cardEq suit3 rank4 suit1 rank2))])) _
          refine XS.iload X29.here hx rfl (hb hby at_142) rfl ?_
          show Steps p.tables e below (T29.setTop (mkF m 144 #[.val (.int ps1), .val (.int pr1), .val (.int ps2), .val (.int pr2), .val (.int pmo), .val (.int pch), .val (.int (ps1 &&& (3 : Int32))), .val (.int ((pr1 &&& (2147483647 : Int32)) % (13 : Int32))), .val (.int cc), .val (.int dd), .val (.ref b11), .val (.int (pmo &&& (3 : Int32))), .val (.ref b17), .val (.int (0 : Int32))] [(.int (0 : Int32)), (.int (cardEq suit3 rank4 suit1 rank2))])) _
          refine XS.icmpNo X29.here hx rfl (hb hby at_144) rfl (teq (by unfold cardEq; rw [if_pos (show suit1 = suit3 from by rw [h_suit1, h_suit3, hc106_22]), if_neg (Fld.ne F_rank2 F_rank4 (fun q => hc113_24 (Value.int.inj q)))] : (cardEq suit3 rank4 suit1 rank2) = (0 : Int32))).2 ?_
          show Steps p.tables e below (T29.setTop (mkF m 147 #[.val (.int ps1), .val (.int pr1), .val (.int ps2), .val (.int pr2), .val (.int pmo), .val (.int pch), .val (.int (ps1 &&& (3 : Int32))), .val (.int ((pr1 &&& (2147483647 : Int32)) % (13 : Int32))), .val (.int cc), .val (.int dd), .val (.ref b11), .val (.int (pmo &&& (3 : Int32))), .val (.ref b17), .val (.int (0 : Int32))] [])) _
          refine XS.iconst X29.here hx rfl (hb hby at_147) ?_
          show Steps p.tables e below (T29.setTop (mkF m 148 #[.val (.int ps1), .val (.int pr1), .val (.int ps2), .val (.int pr2), .val (.int pmo), .val (.int pch), .val (.int (ps1 &&& (3 : Int32))), .val (.int ((pr1 &&& (2147483647 : Int32)) % (13 : Int32))), .val (.int cc), .val (.int dd), .val (.ref b11), .val (.int (pmo &&& (3 : Int32))), .val (.ref b17), .val (.int (0 : Int32))] [(.int (1 : Int32))])) _
          refine XS.goto X29.here hx rfl (pc0 := 148) (pc' := 152) rfl (hb hby at_148) (by decide) (by decide) ?_
          show Steps p.tables e below (T29.setTop (mkF m 152 #[.val (.int ps1), .val (.int pr1), .val (.int ps2), .val (.int pr2), .val (.int pmo), .val (.int pch), .val (.int (ps1 &&& (3 : Int32))), .val (.int ((pr1 &&& (2147483647 : Int32)) % (13 : Int32))), .val (.int cc), .val (.int dd), .val (.ref b11), .val (.int (pmo &&& (3 : Int32))), .val (.ref b17), .val (.int (0 : Int32))] [(.int (1 : Int32))])) _
          exact retN X29 hx (t := .boolean) Bd.returns (by simp) (hb hby at_152) hr
        · show Q0 Z ps1 pr1 ps2 pr2 pmo pch w_SPADES w_HEARTS w_DIAMONDS w_CLUBS w_TWO w_THREE w_FOUR w_FIVE w_SIX w_SEVEN w_EIGHT w_NINE w_TEN w_JACK w_QUEEN w_KING w_ACE zc h0 n0 _ T29.heap _
          rw [e29]
          exact ⟨rfl, N29⟩
    · obtain ⟨cq31, kq31, q31a, q31b, q31c⟩ := isOf hZ20 rfl ((A14c.ext E17).keep K20)
      obtain ⟨_, _, ⟨T31, L31, k31, n31⟩, -, X31, ⟨Lc31, hQ31, l31, y31, z31⟩, st31⟩ := Xr20.virtualBack hx (y := (⟨"com/example/ruffwork/ruffwork/Card", "equals", "(Ljava/lang/Object;)Z"⟩ : MethodName)) (z := (⟨"com/example/ruffwork/ruffwork/Card", "equals", "(Ljava/lang/Object;)Z"⟩ : MethodName)) hown20 (mvT hZ20 (hw _ (List.mem_of_getElem? (i := 53) rfl))) (mvT hZ20 (hw _ (List.mem_of_getElem? (i := 54) rfl))) (notFace_of_selects (args := #[]) (mvT hZ20 (hw _ (List.mem_of_getElem? (i := 56) rfl)))) (mvT hZ20 (hw _ (List.mem_of_getElem? (i := 56) rfl))) (mvT hZ20 (hw _ (List.mem_of_getElem? (i := 55) rfl))) (by decide) (backOf (W := 0) (rm7 l Z a0 hw [] b11 b17 suit1 rank2 suit3 rank4 T20.heap n0 (Nat.le_trans Z0 Kc20.1) ((A14c.ext E17).keep K20) A20c ((Fc0_14.ext E17).keep K20 (ninS ne_b11_b17 nin0)) ((Fc1_14.ext E17).keep K20 (ninS ne_b11_b17 nin0)) ((Fc2_14.ext E17).keep K20 (ninS ne_b11_b17 nin0)) Fc0_20 Fc1_20 Fc2_20) hZ20 (hw _ (List.mem_of_getElem? (i := 57) rfl)) (hw _ (List.mem_of_getElem? (i := 3) rfl)) (by decide) (by decide)) q31a q31c (g := (mkF m 127 #[.val (.int ps1), .val (.int pr1), .val (.int ps2), .val (.int pr2), .val (.int pmo), .val (.int pch), .val (.int (ps1 &&& (3 : Int32))), .val (.int ((pr1 &&& (2147483647 : Int32)) % (13 : Int32))), .val (.int cc), .val (.int dd), .val (.ref b11), .val (.int (pmo &&& (3 : Int32))), .val (.ref b17), .val (.int (0 : Int32))] [(.ref b17), (.ref b11)])) rfl (by rw [hml]; rfl) (Steps.refl _) (argsL := [(.ref b17)]) (rest := []) (lenOf pd_8 rfl) rfl (by show 2 * 0 + _ ≤ _; exact Nat.le_of_eq rfl) (hb hby at_127) (fun _ _ => ⟨rfl, rfl, (by decide : 10 + 0 ≤ _), (by decide : 86 + 0 ≤ _)⟩)
      dsimp only [Pt.U, Pt.locs, Pt.cells, Pt.slots] at X31 l31 y31 z31 st31 hQ31
      subst l31 y31 z31
      obtain ⟨rfl, N31q, e31⟩ := hQ31
      have N31 := Fr.app N20 N31q
      obtain ⟨cq32, kq32, q32a, q32b, q32c⟩ := isOf hZ20 e31 A20c
      obtain ⟨_, _, ⟨T32, L32, k32, n32⟩, -, X32, ⟨Lc32, hQ32, l32, y32, z32⟩, st32⟩ := X31.virtualBack hx (y := (⟨"com/example/ruffwork/ruffwork/Card", "equals", "(Ljava/lang/Object;)Z"⟩ : MethodName)) (z := (⟨"com/example/ruffwork/ruffwork/Card", "equals", "(Ljava/lang/Object;)Z"⟩ : MethodName)) hown20 (mvT hZ20 (hw _ (List.mem_of_getElem? (i := 53) rfl))) (mvT hZ20 (hw _ (List.mem_of_getElem? (i := 54) rfl))) (notFace_of_selects (args := #[]) (mvT hZ20 (hw _ (List.mem_of_getElem? (i := 56) rfl)))) (mvT hZ20 (hw _ (List.mem_of_getElem? (i := 56) rfl))) (mvT hZ20 (hw _ (List.mem_of_getElem? (i := 55) rfl))) (by decide) (backOf (W := 0) (rm7 l Z a0 hw [] b17 b11 suit3 rank4 suit1 rank2 T20.heap n0 (Nat.le_trans Z0 Kc20.1) A20c ((A14c.ext E17).keep K20) Fc0_20 Fc1_20 Fc2_20 ((Fc0_14.ext E17).keep K20 (ninS ne_b11_b17 nin0)) ((Fc1_14.ext E17).keep K20 (ninS ne_b11_b17 nin0)) ((Fc2_14.ext E17).keep K20 (ninS ne_b11_b17 nin0))) hZ20 (hw _ (List.mem_of_getElem? (i := 57) rfl)) (hw _ (List.mem_of_getElem? (i := 3) rfl)) (by decide) (by decide)) q32a q32c (g := (mkF m 139 #[.val (.int ps1), .val (.int pr1), .val (.int ps2), .val (.int pr2), .val (.int pmo), .val (.int pch), .val (.int (ps1 &&& (3 : Int32))), .val (.int ((pr1 &&& (2147483647 : Int32)) % (13 : Int32))), .val (.int cc), .val (.int dd), .val (.ref b11), .val (.int (pmo &&& (3 : Int32))), .val (.ref b17), .val (.int (0 : Int32))] [(.ref b11), (.ref b17)])) rfl (by rw [hml]; rfl) (Steps.refl _) (argsL := [(.ref b11)]) (rest := []) (lenOf pd_8 rfl) rfl (by show 2 * 0 + _ ≤ _; exact Nat.le_of_eq rfl) (hb hby at_139) (fun _ _ => ⟨rfl, e31, (by decide : 10 + 0 ≤ _), (by decide : 86 + 0 ≤ _)⟩)
      dsimp only [Pt.U, Pt.locs, Pt.cells, Pt.slots] at X32 l32 y32 z32 st32 hQ32
      subst l32 y32 z32
      obtain ⟨rfl, N32q, e32⟩ := hQ32
      have N32 := Fr.app N31 N32q
      obtain ⟨fs, hr, hrun, hended, hend⟩ := Stand.leaveW (s := s) (vm₁ := T20.vm) X32 hS20 (by rw [e32]; exact (Nat.le_refl _)) (v := some (.int (1 : Int32))) (fun h => by rw [Bd.returns] at h; cases h)
      refine ⟨_, _, pre21 _ ?_, hrun, hended, _, _, rfl, ?_, hend.1, hend.2.1, hend.2.2.1, hend.2.2.2.mono (by decide) (by decide)⟩
      · show Steps p.tables e below (T20.setTop (mkF m 106 #[.val (.int ps1), .val (.int pr1), .val (.int ps2), .val (.int pr2), .val (.int pmo), .val (.int pch), .val (.int (ps1 &&& (3 : Int32))), .val (.int ((pr1 &&& (2147483647 : Int32)) % (13 : Int32))), .val (.int cc), .val (.int dd), .val (.ref b11), .val (.int (pmo &&& (3 : Int32))), .val (.ref b17), .unset] [(.int cc), (.int (ps1 &&& (3 : Int32)))])) _
        refine XS.icmpYes Xr20.here hx rfl (pc0 := 106) (pc' := 120) rfl (hb hby at_106) rfl (feq hc106_22).2 (by decide) (by decide) ?_
        show Steps p.tables e below (T20.setTop (mkF m 120 #[.val (.int ps1), .val (.int pr1), .val (.int ps2), .val (.int pr2), .val (.int pmo), .val (.int pch), .val (.int (ps1 &&& (3 : Int32))), .val (.int ((pr1 &&& (2147483647 : Int32)) % (13 : Int32))), .val (.int cc), .val (.int dd), .val (.ref b11), .val (.int (pmo &&& (3 : Int32))), .val (.ref b17), .unset] [])) _
        refine XS.iconst Xr20.here hx rfl (hb hby at_120) ?_
        show Steps p.tables e below (T20.setTop (mkF m 121 #[.val (.int ps1), .val (.int pr1), .val (.int ps2), .val (.int pr2), .val (.int pmo), .val (.int pch), .val (.int (ps1 &&& (3 : Int32))), .val (.int ((pr1 &&& (2147483647 : Int32)) % (13 : Int32))), .val (.int cc), .val (.int dd), .val (.ref b11), .val (.int (pmo &&& (3 : Int32))), .val (.ref b17), .unset] [(.int (0 : Int32))])) _
        refine XS.istore Xr20.here hx rfl (hb hby at_121) rfl (l' := #[.val (.int ps1), .val (.int pr1), .val (.int ps2), .val (.int pr2), .val (.int pmo), .val (.int pch), .val (.int (ps1 &&& (3 : Int32))), .val (.int ((pr1 &&& (2147483647 : Int32)) % (13 : Int32))), .val (.int cc), .val (.int dd), .val (.ref b11), .val (.int (pmo &&& (3 : Int32))), .val (.ref b17), .val (.int (0 : Int32))]) rfl ?_
        show Steps p.tables e below (T20.setTop (mkF m 123 #[.val (.int ps1), .val (.int pr1), .val (.int ps2), .val (.int pr2), .val (.int pmo), .val (.int pch), .val (.int (ps1 &&& (3 : Int32))), .val (.int ((pr1 &&& (2147483647 : Int32)) % (13 : Int32))), .val (.int cc), .val (.int dd), .val (.ref b11), .val (.int (pmo &&& (3 : Int32))), .val (.ref b17), .val (.int (0 : Int32))] [])) _
        refine XS.aload Xr20.here hx rfl (hb hby at_123) rfl rfl ?_
        show Steps p.tables e below (T20.setTop (mkF m 125 #[.val (.int ps1), .val (.int pr1), .val (.int ps2), .val (.int pr2), .val (.int pmo), .val (.int pch), .val (.int (ps1 &&& (3 : Int32))), .val (.int ((pr1 &&& (2147483647 : Int32)) % (13 : Int32))), .val (.int cc), .val (.int dd), .val (.ref b11), .val (.int (pmo &&& (3 : Int32))), .val (.ref b17), .val (.int (0 : Int32))] [(.ref b11)])) _
        refine XS.aload Xr20.here hx rfl (hb hby at_125) rfl rfl ?_
        show Steps p.tables e below (T20.setTop (mkF m 127 #[.val (.int ps1), .val (.int pr1), .val (.int ps2), .val (.int pr2), .val (.int pmo), .val (.int pch), .val (.int (ps1 &&& (3 : Int32))), .val (.int ((pr1 &&& (2147483647 : Int32)) % (13 : Int32))), .val (.int cc), .val (.int dd), .val (.ref b11), .val (.int (pmo &&& (3 : Int32))), .val (.ref b17), .val (.int (0 : Int32))] [(.ref b17), (.ref b11)])) _
        refine st31.trans ?_
        show Steps p.tables e below (T31.setTop (mkF m 130 #[.val (.int ps1), .val (.int pr1), .val (.int ps2), .val (.int pr2), .val (.int pmo), .val (.int pch), .val (.int (ps1 &&& (3 : Int32))), .val (.int ((pr1 &&& (2147483647 : Int32)) % (13 : Int32))), .val (.int cc), .val (.int dd), .val (.ref b11), .val (.int (pmo &&& (3 : Int32))), .val (.ref b17), .val (.int (0 : Int32))] [(.int (cardEq suit1 rank2 suit3 rank4))])) _
        refine XS.iload X31.here hx rfl (hb hby at_130) rfl ?_
        show Steps p.tables e below (T31.setTop (mkF m 132 #[.val (.int ps1), .val (.int pr1), .val (.int ps2), .val (.int pr2), .val (.int pmo), .val (.int pch), .val (.int (ps1 &&& (3 : Int32))), .val (.int ((pr1 &&& (2147483647 : Int32)) % (13 : Int32))), .val (.int cc), .val (.int dd), .val (.ref b11), .val (.int (pmo &&& (3 : Int32))), .val (.ref b17), .val (.int (0 : Int32))] [(.int (0 : Int32)), (.int (cardEq suit1 rank2 suit3 rank4))])) _
        refine XS.icmpNo X31.here hx rfl (hb hby at_132) rfl (teq (by unfold cardEq; rw [if_neg (Fld.ne F_suit3 F_suit1 (fun q => hc106_22 ((Value.int.inj q).symm)))] : (cardEq suit1 rank2 suit3 rank4) = (0 : Int32))).2 ?_
        show Steps p.tables e below (T31.setTop (mkF m 135 #[.val (.int ps1), .val (.int pr1), .val (.int ps2), .val (.int pr2), .val (.int pmo), .val (.int pch), .val (.int (ps1 &&& (3 : Int32))), .val (.int ((pr1 &&& (2147483647 : Int32)) % (13 : Int32))), .val (.int cc), .val (.int dd), .val (.ref b11), .val (.int (pmo &&& (3 : Int32))), .val (.ref b17), .val (.int (0 : Int32))] [])) _
        refine XS.aload X31.here hx rfl (hb hby at_135) rfl rfl ?_
        show Steps p.tables e below (T31.setTop (mkF m 137 #[.val (.int ps1), .val (.int pr1), .val (.int ps2), .val (.int pr2), .val (.int pmo), .val (.int pch), .val (.int (ps1 &&& (3 : Int32))), .val (.int ((pr1 &&& (2147483647 : Int32)) % (13 : Int32))), .val (.int cc), .val (.int dd), .val (.ref b11), .val (.int (pmo &&& (3 : Int32))), .val (.ref b17), .val (.int (0 : Int32))] [(.ref b17)])) _
        refine XS.aload X31.here hx rfl (hb hby at_137) rfl rfl ?_
        show Steps p.tables e below (T31.setTop (mkF m 139 #[.val (.int ps1), .val (.int pr1), .val (.int ps2), .val (.int pr2), .val (.int pmo), .val (.int pch), .val (.int (ps1 &&& (3 : Int32))), .val (.int ((pr1 &&& (2147483647 : Int32)) % (13 : Int32))), .val (.int cc), .val (.int dd), .val (.ref b11), .val (.int (pmo &&& (3 : Int32))), .val (.ref b17), .val (.int (0 : Int32))] [(.ref b11), (.ref b17)])) _
        refine st32.trans ?_
        show Steps p.tables e below (T32.setTop (mkF m 142 #[.val (.int ps1), .val (.int pr1), .val (.int ps2), .val (.int pr2), .val (.int pmo), .val (.int pch), .val (.int (ps1 &&& (3 : Int32))), .val (.int ((pr1 &&& (2147483647 : Int32)) % (13 : Int32))), .val (.int cc), .val (.int dd), .val (.ref b11), .val (.int (pmo &&& (3 : Int32))), .val (.ref b17), .val (.int (0 : Int32))] [(.int (cardEq suit3 rank4 suit1 rank2))])) _
        refine XS.iload X32.here hx rfl (hb hby at_142) rfl ?_
        show Steps p.tables e below (T32.setTop (mkF m 144 #[.val (.int ps1), .val (.int pr1), .val (.int ps2), .val (.int pr2), .val (.int pmo), .val (.int pch), .val (.int (ps1 &&& (3 : Int32))), .val (.int ((pr1 &&& (2147483647 : Int32)) % (13 : Int32))), .val (.int cc), .val (.int dd), .val (.ref b11), .val (.int (pmo &&& (3 : Int32))), .val (.ref b17), .val (.int (0 : Int32))] [(.int (0 : Int32)), (.int (cardEq suit3 rank4 suit1 rank2))])) _
        refine XS.icmpNo X32.here hx rfl (hb hby at_144) rfl (teq (by unfold cardEq; rw [if_neg (Fld.ne F_suit1 F_suit3 (fun q => hc106_22 (Value.int.inj q)))] : (cardEq suit3 rank4 suit1 rank2) = (0 : Int32))).2 ?_
        show Steps p.tables e below (T32.setTop (mkF m 147 #[.val (.int ps1), .val (.int pr1), .val (.int ps2), .val (.int pr2), .val (.int pmo), .val (.int pch), .val (.int (ps1 &&& (3 : Int32))), .val (.int ((pr1 &&& (2147483647 : Int32)) % (13 : Int32))), .val (.int cc), .val (.int dd), .val (.ref b11), .val (.int (pmo &&& (3 : Int32))), .val (.ref b17), .val (.int (0 : Int32))] [])) _
        refine XS.iconst X32.here hx rfl (hb hby at_147) ?_
        show Steps p.tables e below (T32.setTop (mkF m 148 #[.val (.int ps1), .val (.int pr1), .val (.int ps2), .val (.int pr2), .val (.int pmo), .val (.int pch), .val (.int (ps1 &&& (3 : Int32))), .val (.int ((pr1 &&& (2147483647 : Int32)) % (13 : Int32))), .val (.int cc), .val (.int dd), .val (.ref b11), .val (.int (pmo &&& (3 : Int32))), .val (.ref b17), .val (.int (0 : Int32))] [(.int (1 : Int32))])) _
        refine XS.goto X32.here hx rfl (pc0 := 148) (pc' := 152) rfl (hb hby at_148) (by decide) (by decide) ?_
        show Steps p.tables e below (T32.setTop (mkF m 152 #[.val (.int ps1), .val (.int pr1), .val (.int ps2), .val (.int pr2), .val (.int pmo), .val (.int pch), .val (.int (ps1 &&& (3 : Int32))), .val (.int ((pr1 &&& (2147483647 : Int32)) % (13 : Int32))), .val (.int cc), .val (.int dd), .val (.ref b11), .val (.int (pmo &&& (3 : Int32))), .val (.ref b17), .val (.int (0 : Int32))] [(.int (1 : Int32))])) _
        exact retN X32 hx (t := .boolean) Bd.returns (by simp) (hb hby at_152) hr
      · show Q0 Z ps1 pr1 ps2 pr2 pmo pch w_SPADES w_HEARTS w_DIAMONDS w_CLUBS w_TWO w_THREE w_FOUR w_FIVE w_SIX w_SEVEN w_EIGHT w_NINE w_TEN w_JACK w_QUEEN w_KING w_ACE zc h0 n0 _ T32.heap _
        rw [e32]
        exact ⟨rfl, N32⟩
  · have pre34 : ∀ t, Steps p.tables e below (T14.setTop (mkF m 156 #[.val (.int ps1), .val (.int pr1), .val (.int ps2), .val (.int pr2), .val (.int pmo), .val (.int pch), .val (.int (ps1 &&& (3 : Int32))), .val (.int ((pr1 &&& (2147483647 : Int32)) % (13 : Int32))), .val (.int cc), .val (.int dd), .val (.ref b11), .val (.int (pmo &&& (3 : Int32))), .unset, .unset] [(.int (1 : Int32)), (.int (pmo &&& (3 : Int32)))])) t → Steps p.tables e below (s₁.setTop (entryFrame m #[(.int ps1), (.int pr1), (.int ps2), (.int pr2), (.int pmo), (.int pch)] maxLocals)) t := by
      intro t kt
      refine pre15 t ?_
      show Steps p.tables e below (T14.setTop (mkF m 80 #[.val (.int ps1), .val (.int pr1), .val (.int ps2), .val (.int pr2), .val (.int pmo), .val (.int pch), .val (.int (ps1 &&& (3 : Int32))), .val (.int ((pr1 &&& (2147483647 : Int32)) % (13 : Int32))), .val (.int cc), .val (.int dd), .val (.ref b11), .val (.int (pmo &&& (3 : Int32))), .unset, .unset] [(.int (pmo &&& (3 : Int32)))])) _
      refine XS.ifYes Xr14.here hx rfl (pc0 := 80) (pc' := 153) rfl (hb hby at_80) rfl ((if0 _ _).trans (feq hc80_16).2) (by decide) (by decide) ?_
      show Steps p.tables e below (T14.setTop (mkF m 153 #[.val (.int ps1), .val (.int pr1), .val (.int ps2), .val (.int pr2), .val (.int pmo), .val (.int pch), .val (.int (ps1 &&& (3 : Int32))), .val (.int ((pr1 &&& (2147483647 : Int32)) % (13 : Int32))), .val (.int cc), .val (.int dd), .val (.ref b11), .val (.int (pmo &&& (3 : Int32))), .unset, .unset] [])) _
      refine XS.iload Xr14.here hx rfl (hb hby at_153) rfl ?_
      show Steps p.tables e below (T14.setTop (mkF m 155 #[.val (.int ps1), .val (.int pr1), .val (.int ps2), .val (.int pr2), .val (.int pmo), .val (.int pch), .val (.int (ps1 &&& (3 : Int32))), .val (.int ((pr1 &&& (2147483647 : Int32)) % (13 : Int32))), .val (.int cc), .val (.int dd), .val (.ref b11), .val (.int (pmo &&& (3 : Int32))), .unset, .unset] [(.int (pmo &&& (3 : Int32)))])) _
      refine XS.iconst Xr14.here hx rfl (hb hby at_155) ?_
      show Steps p.tables e below (T14.setTop (mkF m 156 #[.val (.int ps1), .val (.int pr1), .val (.int ps2), .val (.int pr2), .val (.int pmo), .val (.int pch), .val (.int (ps1 &&& (3 : Int32))), .val (.int ((pr1 &&& (2147483647 : Int32)) % (13 : Int32))), .val (.int cc), .val (.int dd), .val (.ref b11), .val (.int (pmo &&& (3 : Int32))), .unset, .unset] [(.int (1 : Int32)), (.int (pmo &&& (3 : Int32)))])) _
      exact kt
    by_cases hc156_35 : (pmo &&& (3 : Int32)) = (1 : Int32)
    · obtain ⟨cq36, kq36, q36a, q36b, q36c⟩ := isOf hZ14 rfl A14c
      obtain ⟨_, _, ⟨T36, L36, k36, n36⟩, -, X36, ⟨Lc36, hQ36, l36, y36, z36⟩, st36⟩ := Xr14.virtualBack hx (y := (⟨"com/example/ruffwork/ruffwork/Card", "equals", "(Ljava/lang/Object;)Z"⟩ : MethodName)) (z := (⟨"com/example/ruffwork/ruffwork/Card", "equals", "(Ljava/lang/Object;)Z"⟩ : MethodName)) hown14 (mvT hZ14 (hw _ (List.mem_of_getElem? (i := 53) rfl))) (mvT hZ14 (hw _ (List.mem_of_getElem? (i := 54) rfl))) (notFace_of_selects (args := #[]) (mvT hZ14 (hw _ (List.mem_of_getElem? (i := 56) rfl)))) (mvT hZ14 (hw _ (List.mem_of_getElem? (i := 56) rfl))) (mvT hZ14 (hw _ (List.mem_of_getElem? (i := 55) rfl))) (by decide) (backOf (W := 0) (rm7n l Z a0 hw [] b11 T14.heap n0 (Nat.le_trans Z0 Kc14.1) ) hZ14 (hw _ (List.mem_of_getElem? (i := 57) rfl)) (hw _ (List.mem_of_getElem? (i := 3) rfl)) (by decide) (by decide)) q36a q36c (g := (mkF m 162 #[.val (.int ps1), .val (.int pr1), .val (.int ps2), .val (.int pr2), .val (.int pmo), .val (.int pch), .val (.int (ps1 &&& (3 : Int32))), .val (.int ((pr1 &&& (2147483647 : Int32)) % (13 : Int32))), .val (.int cc), .val (.int dd), .val (.ref b11), .val (.int (pmo &&& (3 : Int32))), .unset, .unset] [.null, (.ref b11)])) rfl (by rw [hml]; rfl) (Steps.refl _) (argsL := [.null]) (rest := []) (lenOf pd_8 rfl) rfl (by show 2 * 0 + _ ≤ _; exact Nat.le_of_eq rfl) (hb hby at_162) (fun _ _ => ⟨rfl, rfl, (by decide : 5 + 0 ≤ _), (by decide : 43 + 0 ≤ _)⟩)
      dsimp only [Pt.U, Pt.locs, Pt.cells, Pt.slots] at X36 l36 y36 z36 st36 hQ36
      subst l36 y36 z36
      obtain ⟨rfl, N36q, e36⟩ := hQ36
      have N36 := Fr.app N14 N36q
      obtain ⟨fs, hr, hrun, hended, hend⟩ := Stand.leaveW (s := s) (vm₁ := T14.vm) X36 hS14 (by rw [e36]; exact (Nat.le_refl _)) (v := some (.int (1 : Int32))) (fun h => by rw [Bd.returns] at h; cases h)
      refine ⟨_, _, pre34 _ ?_, hrun, hended, _, _, rfl, ?_, hend.1, hend.2.1, hend.2.2.1, hend.2.2.2.mono (by decide) (by decide)⟩
      · show Steps p.tables e below (T14.setTop (mkF m 156 #[.val (.int ps1), .val (.int pr1), .val (.int ps2), .val (.int pr2), .val (.int pmo), .val (.int pch), .val (.int (ps1 &&& (3 : Int32))), .val (.int ((pr1 &&& (2147483647 : Int32)) % (13 : Int32))), .val (.int cc), .val (.int dd), .val (.ref b11), .val (.int (pmo &&& (3 : Int32))), .unset, .unset] [(.int (1 : Int32)), (.int (pmo &&& (3 : Int32)))])) _
        refine XS.icmpNo Xr14.here hx rfl (hb hby at_156) rfl (teq hc156_35).2 ?_
        show Steps p.tables e below (T14.setTop (mkF m 159 #[.val (.int ps1), .val (.int pr1), .val (.int ps2), .val (.int pr2), .val (.int pmo), .val (.int pch), .val (.int (ps1 &&& (3 : Int32))), .val (.int ((pr1 &&& (2147483647 : Int32)) % (13 : Int32))), .val (.int cc), .val (.int dd), .val (.ref b11), .val (.int (pmo &&& (3 : Int32))), .unset, .unset] [])) _
        refine XS.aload Xr14.here hx rfl (hb hby at_159) rfl rfl ?_
        show Steps p.tables e below (T14.setTop (mkF m 161 #[.val (.int ps1), .val (.int pr1), .val (.int ps2), .val (.int pr2), .val (.int pmo), .val (.int pch), .val (.int (ps1 &&& (3 : Int32))), .val (.int ((pr1 &&& (2147483647 : Int32)) % (13 : Int32))), .val (.int cc), .val (.int dd), .val (.ref b11), .val (.int (pmo &&& (3 : Int32))), .unset, .unset] [(.ref b11)])) _
        refine XS.aconstNull Xr14.here hx rfl (hb hby at_161) ?_
        show Steps p.tables e below (T14.setTop (mkF m 162 #[.val (.int ps1), .val (.int pr1), .val (.int ps2), .val (.int pr2), .val (.int pmo), .val (.int pch), .val (.int (ps1 &&& (3 : Int32))), .val (.int ((pr1 &&& (2147483647 : Int32)) % (13 : Int32))), .val (.int cc), .val (.int dd), .val (.ref b11), .val (.int (pmo &&& (3 : Int32))), .unset, .unset] [.null, (.ref b11)])) _
        refine st36.trans ?_
        show Steps p.tables e below (T36.setTop (mkF m 165 #[.val (.int ps1), .val (.int pr1), .val (.int ps2), .val (.int pr2), .val (.int pmo), .val (.int pch), .val (.int (ps1 &&& (3 : Int32))), .val (.int ((pr1 &&& (2147483647 : Int32)) % (13 : Int32))), .val (.int cc), .val (.int dd), .val (.ref b11), .val (.int (pmo &&& (3 : Int32))), .unset, .unset] [(.int (0 : Int32))])) _
        refine XS.ifNo X36.here hx rfl (hb hby at_165) rfl ((if0 _ _).trans (teq (rfl : (0 : Int32) = (0 : Int32))).2) ?_
        show Steps p.tables e below (T36.setTop (mkF m 168 #[.val (.int ps1), .val (.int pr1), .val (.int ps2), .val (.int pr2), .val (.int pmo), .val (.int pch), .val (.int (ps1 &&& (3 : Int32))), .val (.int ((pr1 &&& (2147483647 : Int32)) % (13 : Int32))), .val (.int cc), .val (.int dd), .val (.ref b11), .val (.int (pmo &&& (3 : Int32))), .unset, .unset] [])) _
        refine XS.iconst X36.here hx rfl (hb hby at_168) ?_
        show Steps p.tables e below (T36.setTop (mkF m 169 #[.val (.int ps1), .val (.int pr1), .val (.int ps2), .val (.int pr2), .val (.int pmo), .val (.int pch), .val (.int (ps1 &&& (3 : Int32))), .val (.int ((pr1 &&& (2147483647 : Int32)) % (13 : Int32))), .val (.int cc), .val (.int dd), .val (.ref b11), .val (.int (pmo &&& (3 : Int32))), .unset, .unset] [(.int (1 : Int32))])) _
        refine XS.goto X36.here hx rfl (pc0 := 169) (pc' := 173) rfl (hb hby at_169) (by decide) (by decide) ?_
        show Steps p.tables e below (T36.setTop (mkF m 173 #[.val (.int ps1), .val (.int pr1), .val (.int ps2), .val (.int pr2), .val (.int pmo), .val (.int pch), .val (.int (ps1 &&& (3 : Int32))), .val (.int ((pr1 &&& (2147483647 : Int32)) % (13 : Int32))), .val (.int cc), .val (.int dd), .val (.ref b11), .val (.int (pmo &&& (3 : Int32))), .unset, .unset] [(.int (1 : Int32))])) _
        exact retN X36 hx (t := .boolean) Bd.returns (by simp) (hb hby at_173) hr
      · show Q0 Z ps1 pr1 ps2 pr2 pmo pch w_SPADES w_HEARTS w_DIAMONDS w_CLUBS w_TWO w_THREE w_FOUR w_FIVE w_SIX w_SEVEN w_EIGHT w_NINE w_TEN w_JACK w_QUEEN w_KING w_ACE zc h0 n0 _ T36.heap _
        rw [e36]
        exact ⟨rfl, N36⟩
    · have pre38 : ∀ t, Steps p.tables e below (T14.setTop (mkF m 177 #[.val (.int ps1), .val (.int pr1), .val (.int ps2), .val (.int pr2), .val (.int pmo), .val (.int pch), .val (.int (ps1 &&& (3 : Int32))), .val (.int ((pr1 &&& (2147483647 : Int32)) % (13 : Int32))), .val (.int cc), .val (.int dd), .val (.ref b11), .val (.int (pmo &&& (3 : Int32))), .unset, .unset] [(.int (2 : Int32)), (.int (pmo &&& (3 : Int32)))])) t → Steps p.tables e below (s₁.setTop (entryFrame m #[(.int ps1), (.int pr1), (.int ps2), (.int pr2), (.int pmo), (.int pch)] maxLocals)) t := by
        intro t kt
        refine pre34 t ?_
        show Steps p.tables e below (T14.setTop (mkF m 156 #[.val (.int ps1), .val (.int pr1), .val (.int ps2), .val (.int pr2), .val (.int pmo), .val (.int pch), .val (.int (ps1 &&& (3 : Int32))), .val (.int ((pr1 &&& (2147483647 : Int32)) % (13 : Int32))), .val (.int cc), .val (.int dd), .val (.ref b11), .val (.int (pmo &&& (3 : Int32))), .unset, .unset] [(.int (1 : Int32)), (.int (pmo &&& (3 : Int32)))])) _
        refine XS.icmpYes Xr14.here hx rfl (pc0 := 156) (pc' := 174) rfl (hb hby at_156) rfl (feq hc156_35).2 (by decide) (by decide) ?_
        show Steps p.tables e below (T14.setTop (mkF m 174 #[.val (.int ps1), .val (.int pr1), .val (.int ps2), .val (.int pr2), .val (.int pmo), .val (.int pch), .val (.int (ps1 &&& (3 : Int32))), .val (.int ((pr1 &&& (2147483647 : Int32)) % (13 : Int32))), .val (.int cc), .val (.int dd), .val (.ref b11), .val (.int (pmo &&& (3 : Int32))), .unset, .unset] [])) _
        refine XS.iload Xr14.here hx rfl (hb hby at_174) rfl ?_
        show Steps p.tables e below (T14.setTop (mkF m 176 #[.val (.int ps1), .val (.int pr1), .val (.int ps2), .val (.int pr2), .val (.int pmo), .val (.int pch), .val (.int (ps1 &&& (3 : Int32))), .val (.int ((pr1 &&& (2147483647 : Int32)) % (13 : Int32))), .val (.int cc), .val (.int dd), .val (.ref b11), .val (.int (pmo &&& (3 : Int32))), .unset, .unset] [(.int (pmo &&& (3 : Int32)))])) _
        refine XS.iconst Xr14.here hx rfl (hb hby at_176) ?_
        show Steps p.tables e below (T14.setTop (mkF m 177 #[.val (.int ps1), .val (.int pr1), .val (.int ps2), .val (.int pr2), .val (.int pmo), .val (.int pch), .val (.int (ps1 &&& (3 : Int32))), .val (.int ((pr1 &&& (2147483647 : Int32)) % (13 : Int32))), .val (.int cc), .val (.int dd), .val (.ref b11), .val (.int (pmo &&& (3 : Int32))), .unset, .unset] [(.int (2 : Int32)), (.int (pmo &&& (3 : Int32)))])) _
        exact kt
      by_cases hc177_39 : (pmo &&& (3 : Int32)) = (2 : Int32)
      · obtain ⟨_, _, ⟨T40, L40, k40, n40⟩, -, X40, ⟨Lc40, hQ40, l40, y40, z40⟩, st40⟩ := Jvm.LawKit.callS Xr14 hx (y := (⟨"java/lang/String", "valueOf", "(C)Ljava/lang/String;"⟩ : MethodName)) hown14 (mvT hZ14 (hw _ (List.mem_of_getElem? (i := 82) rfl))) (mvT hZ14 (hw _ (List.mem_of_getElem? (i := 83) rfl))) (mvT hZ14 (hw _ (List.mem_of_getElem? (i := 21) rfl))) (mvT hZ14 (hw _ (List.mem_of_getElem? (i := 84) rfl))) (by decide) (backOf (W := 0) (rm8 l Z a0 hw [] ((pch &&& (255 : Int32)).toUInt32.toUInt16.toUInt32.toInt32) zc T14.heap n0 (Nat.le_trans Z0 Kc14.1) (S_c.ext Oc14.2) hzc (own_255 pch)) hZ14 (hw _ (List.mem_of_getElem? (i := 84) rfl)) (hw _ (List.mem_of_getElem? (i := 21) rfl)) (by decide) (by decide)) (g := (mkF m 187 #[.val (.int ps1), .val (.int pr1), .val (.int ps2), .val (.int pr2), .val (.int pmo), .val (.int pch), .val (.int (ps1 &&& (3 : Int32))), .val (.int ((pr1 &&& (2147483647 : Int32)) % (13 : Int32))), .val (.int cc), .val (.int dd), .val (.ref b11), .val (.int (pmo &&& (3 : Int32))), .unset, .unset] [(.int ((pch &&& (255 : Int32)).toUInt32.toUInt16.toUInt32.toInt32))])) rfl (by rw [hml]; rfl) (argsL := [(.int ((pch &&& (255 : Int32)).toUInt32.toUInt16.toUInt32.toInt32))]) (rest := []) (lenOf pd_9 rfl) rfl (by show 2 * 0 + _ ≤ _; exact Nat.le_of_eq rfl) (hb hby at_187) (fun _ _ => ⟨rfl, rfl, (by decide : 5 + 2 ≤ _), (by decide : 43 + 5 ≤ _)⟩)
        dsimp only [Pt.U, Pt.locs, Pt.cells, Pt.slots] at X40 l40 y40 z40 st40 hQ40
        subst l40 y40 z40
        obtain ⟨b40, rfl, N40q, g_b40, K40, A40c⟩ := hQ40
        have N40 := Fr.app N14 N40q
        have Kc40 : Keep h0 T40.heap [] := Kc14.trans K40 all0
        have Oc40 := Oc14.keep K40 all0
        obtain ⟨cq41, kq41, q41a, q41b, q41c⟩ := isOf hZ14 rfl (A14c.keep K40)
        obtain ⟨_, _, ⟨T41, L41, k41, n41⟩, -, X41, ⟨Lc41, hQ41, l41, y41, z41⟩, st41⟩ := X40.virtualBack hx (y := (⟨"com/example/ruffwork/ruffwork/Card", "equals", "(Ljava/lang/Object;)Z"⟩ : MethodName)) (z := (⟨"com/example/ruffwork/ruffwork/Card", "equals", "(Ljava/lang/Object;)Z"⟩ : MethodName)) hown14 (mvT hZ14 (hw _ (List.mem_of_getElem? (i := 53) rfl))) (mvT hZ14 (hw _ (List.mem_of_getElem? (i := 54) rfl))) (notFace_of_selects (args := #[]) (mvT hZ14 (hw _ (List.mem_of_getElem? (i := 56) rfl)))) (mvT hZ14 (hw _ (List.mem_of_getElem? (i := 56) rfl))) (mvT hZ14 (hw _ (List.mem_of_getElem? (i := 55) rfl))) (by decide) (backOf (W := 0) (rm7s l Z a0 hw [] b11 b40 T40.heap n0 (Nat.le_trans Z0 Kc40.1) A40c) hZ14 (hw _ (List.mem_of_getElem? (i := 57) rfl)) (hw _ (List.mem_of_getElem? (i := 3) rfl)) (by decide) (by decide)) q41a q41c (g := (mkF m 196 #[.val (.int ps1), .val (.int pr1), .val (.int ps2), .val (.int pr2), .val (.int pmo), .val (.int pch), .val (.int (ps1 &&& (3 : Int32))), .val (.int ((pr1 &&& (2147483647 : Int32)) % (13 : Int32))), .val (.int cc), .val (.int dd), .val (.ref b11), .val (.int (pmo &&& (3 : Int32))), .val (.ref b40), .unset] [(.ref b40), (.ref b11)])) rfl (by rw [hml]; rfl) (Steps.refl _) (argsL := [(.ref b40)]) (rest := []) (lenOf pd_8 rfl) rfl (by show 2 * 0 + _ ≤ _; exact Nat.le_of_eq rfl) (hb hby at_196) (fun _ _ => ⟨rfl, rfl, (by decide : 7 + 0 ≤ _), (by decide : 48 + 0 ≤ _)⟩)
        dsimp only [Pt.U, Pt.locs, Pt.cells, Pt.slots] at X41 l41 y41 z41 st41 hQ41
        subst l41 y41 z41
        obtain ⟨rfl, N41q, e41⟩ := hQ41
        have N41 := Fr.app N40 N41q
        obtain ⟨fs, hr, hrun, hended, hend⟩ := Stand.leaveW (s := s) (vm₁ := T14.vm) X41 hS14 (by rw [e41]; exact (Nat.le_trans (Nat.le_refl _) K40.1)) (v := some (.int (1 : Int32))) (fun h => by rw [Bd.returns] at h; cases h)
        refine ⟨_, _, pre38 _ ?_, hrun, hended, _, _, rfl, ?_, hend.1, hend.2.1, hend.2.2.1, hend.2.2.2.mono (by decide) (by decide)⟩
        · show Steps p.tables e below (T14.setTop (mkF m 177 #[.val (.int ps1), .val (.int pr1), .val (.int ps2), .val (.int pr2), .val (.int pmo), .val (.int pch), .val (.int (ps1 &&& (3 : Int32))), .val (.int ((pr1 &&& (2147483647 : Int32)) % (13 : Int32))), .val (.int cc), .val (.int dd), .val (.ref b11), .val (.int (pmo &&& (3 : Int32))), .unset, .unset] [(.int (2 : Int32)), (.int (pmo &&& (3 : Int32)))])) _
          refine XS.icmpNo Xr14.here hx rfl (hb hby at_177) rfl (teq hc177_39).2 ?_
          show Steps p.tables e below (T14.setTop (mkF m 180 #[.val (.int ps1), .val (.int pr1), .val (.int ps2), .val (.int pr2), .val (.int pmo), .val (.int pch), .val (.int (ps1 &&& (3 : Int32))), .val (.int ((pr1 &&& (2147483647 : Int32)) % (13 : Int32))), .val (.int cc), .val (.int dd), .val (.ref b11), .val (.int (pmo &&& (3 : Int32))), .unset, .unset] [])) _
          refine XS.iload Xr14.here hx rfl (hb hby at_180) rfl ?_
          show Steps p.tables e below (T14.setTop (mkF m 182 #[.val (.int ps1), .val (.int pr1), .val (.int ps2), .val (.int pr2), .val (.int pmo), .val (.int pch), .val (.int (ps1 &&& (3 : Int32))), .val (.int ((pr1 &&& (2147483647 : Int32)) % (13 : Int32))), .val (.int cc), .val (.int dd), .val (.ref b11), .val (.int (pmo &&& (3 : Int32))), .unset, .unset] [(.int pch)])) _
          refine XS.sipush Xr14.here hx rfl (hb hby at_182) ?_
          show Steps p.tables e below (T14.setTop (mkF m 185 #[.val (.int ps1), .val (.int pr1), .val (.int ps2), .val (.int pr2), .val (.int pmo), .val (.int pch), .val (.int (ps1 &&& (3 : Int32))), .val (.int ((pr1 &&& (2147483647 : Int32)) % (13 : Int32))), .val (.int cc), .val (.int dd), .val (.ref b11), .val (.int (pmo &&& (3 : Int32))), .unset, .unset] [(.int (255 : Int32)), (.int pch)])) _
          refine XS.iand Xr14.here hx rfl (hb hby at_185) rfl ?_
          show Steps p.tables e below (T14.setTop (mkF m 186 #[.val (.int ps1), .val (.int pr1), .val (.int ps2), .val (.int pr2), .val (.int pmo), .val (.int pch), .val (.int (ps1 &&& (3 : Int32))), .val (.int ((pr1 &&& (2147483647 : Int32)) % (13 : Int32))), .val (.int cc), .val (.int dd), .val (.ref b11), .val (.int (pmo &&& (3 : Int32))), .unset, .unset] [(.int (pch &&& (255 : Int32)))])) _
          refine XS.i2c Xr14.here hx rfl (hb hby at_186) rfl ?_
          show Steps p.tables e below (T14.setTop (mkF m 187 #[.val (.int ps1), .val (.int pr1), .val (.int ps2), .val (.int pr2), .val (.int pmo), .val (.int pch), .val (.int (ps1 &&& (3 : Int32))), .val (.int ((pr1 &&& (2147483647 : Int32)) % (13 : Int32))), .val (.int cc), .val (.int dd), .val (.ref b11), .val (.int (pmo &&& (3 : Int32))), .unset, .unset] [(.int ((pch &&& (255 : Int32)).toUInt32.toUInt16.toUInt32.toInt32))])) _
          refine st40 _ ?_
          show Steps p.tables e below (T40.setTop (mkF m 190 #[.val (.int ps1), .val (.int pr1), .val (.int ps2), .val (.int pr2), .val (.int pmo), .val (.int pch), .val (.int (ps1 &&& (3 : Int32))), .val (.int ((pr1 &&& (2147483647 : Int32)) % (13 : Int32))), .val (.int cc), .val (.int dd), .val (.ref b11), .val (.int (pmo &&& (3 : Int32))), .unset, .unset] [(.ref b40)])) _
          refine XS.astore X40.here hx rfl (hb hby at_190) rfl rfl (l' := #[.val (.int ps1), .val (.int pr1), .val (.int ps2), .val (.int pr2), .val (.int pmo), .val (.int pch), .val (.int (ps1 &&& (3 : Int32))), .val (.int ((pr1 &&& (2147483647 : Int32)) % (13 : Int32))), .val (.int cc), .val (.int dd), .val (.ref b11), .val (.int (pmo &&& (3 : Int32))), .val (.ref b40), .unset]) rfl ?_
          show Steps p.tables e below (T40.setTop (mkF m 192 #[.val (.int ps1), .val (.int pr1), .val (.int ps2), .val (.int pr2), .val (.int pmo), .val (.int pch), .val (.int (ps1 &&& (3 : Int32))), .val (.int ((pr1 &&& (2147483647 : Int32)) % (13 : Int32))), .val (.int cc), .val (.int dd), .val (.ref b11), .val (.int (pmo &&& (3 : Int32))), .val (.ref b40), .unset] [])) _
          refine XS.aload X40.here hx rfl (hb hby at_192) rfl rfl ?_
          show Steps p.tables e below (T40.setTop (mkF m 194 #[.val (.int ps1), .val (.int pr1), .val (.int ps2), .val (.int pr2), .val (.int pmo), .val (.int pch), .val (.int (ps1 &&& (3 : Int32))), .val (.int ((pr1 &&& (2147483647 : Int32)) % (13 : Int32))), .val (.int cc), .val (.int dd), .val (.ref b11), .val (.int (pmo &&& (3 : Int32))), .val (.ref b40), .unset] [(.ref b11)])) _
          refine XS.aload X40.here hx rfl (hb hby at_194) rfl rfl ?_
          show Steps p.tables e below (T40.setTop (mkF m 196 #[.val (.int ps1), .val (.int pr1), .val (.int ps2), .val (.int pr2), .val (.int pmo), .val (.int pch), .val (.int (ps1 &&& (3 : Int32))), .val (.int ((pr1 &&& (2147483647 : Int32)) % (13 : Int32))), .val (.int cc), .val (.int dd), .val (.ref b11), .val (.int (pmo &&& (3 : Int32))), .val (.ref b40), .unset] [(.ref b40), (.ref b11)])) _
          refine st41.trans ?_
          show Steps p.tables e below (T41.setTop (mkF m 199 #[.val (.int ps1), .val (.int pr1), .val (.int ps2), .val (.int pr2), .val (.int pmo), .val (.int pch), .val (.int (ps1 &&& (3 : Int32))), .val (.int ((pr1 &&& (2147483647 : Int32)) % (13 : Int32))), .val (.int cc), .val (.int dd), .val (.ref b11), .val (.int (pmo &&& (3 : Int32))), .val (.ref b40), .unset] [(.int (0 : Int32))])) _
          refine XS.ifNo X41.here hx rfl (hb hby at_199) rfl ((if0 _ _).trans (teq (rfl : (0 : Int32) = (0 : Int32))).2) ?_
          show Steps p.tables e below (T41.setTop (mkF m 202 #[.val (.int ps1), .val (.int pr1), .val (.int ps2), .val (.int pr2), .val (.int pmo), .val (.int pch), .val (.int (ps1 &&& (3 : Int32))), .val (.int ((pr1 &&& (2147483647 : Int32)) % (13 : Int32))), .val (.int cc), .val (.int dd), .val (.ref b11), .val (.int (pmo &&& (3 : Int32))), .val (.ref b40), .unset] [])) _
          refine XS.iconst X41.here hx rfl (hb hby at_202) ?_
          show Steps p.tables e below (T41.setTop (mkF m 203 #[.val (.int ps1), .val (.int pr1), .val (.int ps2), .val (.int pr2), .val (.int pmo), .val (.int pch), .val (.int (ps1 &&& (3 : Int32))), .val (.int ((pr1 &&& (2147483647 : Int32)) % (13 : Int32))), .val (.int cc), .val (.int dd), .val (.ref b11), .val (.int (pmo &&& (3 : Int32))), .val (.ref b40), .unset] [(.int (1 : Int32))])) _
          refine XS.goto X41.here hx rfl (pc0 := 203) (pc' := 207) rfl (hb hby at_203) (by decide) (by decide) ?_
          show Steps p.tables e below (T41.setTop (mkF m 207 #[.val (.int ps1), .val (.int pr1), .val (.int ps2), .val (.int pr2), .val (.int pmo), .val (.int pch), .val (.int (ps1 &&& (3 : Int32))), .val (.int ((pr1 &&& (2147483647 : Int32)) % (13 : Int32))), .val (.int cc), .val (.int dd), .val (.ref b11), .val (.int (pmo &&& (3 : Int32))), .val (.ref b40), .unset] [(.int (1 : Int32))])) _
          exact retN X41 hx (t := .boolean) Bd.returns (by simp) (hb hby at_207) hr
        · show Q0 Z ps1 pr1 ps2 pr2 pmo pch w_SPADES w_HEARTS w_DIAMONDS w_CLUBS w_TWO w_THREE w_FOUR w_FIVE w_SIX w_SEVEN w_EIGHT w_NINE w_TEN w_JACK w_QUEEN w_KING w_ACE zc h0 n0 _ T41.heap _
          rw [e41]
          exact ⟨rfl, N41⟩
      · obtain ⟨cq43, kq43, q43a, q43b, q43c⟩ := isOf hZ14 rfl A14c
        obtain ⟨_, _, ⟨T43, L43, k43, n43⟩, -, X43, ⟨Lc43, hQ43, l43, y43, z43⟩, st43⟩ := Xr14.virtualBack hx (y := (⟨"com/example/ruffwork/ruffwork/Card", "equals", "(Ljava/lang/Object;)Z"⟩ : MethodName)) (z := (⟨"com/example/ruffwork/ruffwork/Card", "equals", "(Ljava/lang/Object;)Z"⟩ : MethodName)) hown14 (mvT hZ14 (hw _ (List.mem_of_getElem? (i := 53) rfl))) (mvT hZ14 (hw _ (List.mem_of_getElem? (i := 54) rfl))) (notFace_of_selects (args := #[]) (mvT hZ14 (hw _ (List.mem_of_getElem? (i := 56) rfl)))) (mvT hZ14 (hw _ (List.mem_of_getElem? (i := 56) rfl))) (mvT hZ14 (hw _ (List.mem_of_getElem? (i := 55) rfl))) (by decide) (backOf (W := 0) (rm7 l Z a0 hw [] b11 b11 suit1 rank2 suit1 rank2 T14.heap n0 (Nat.le_trans Z0 Kc14.1) A14c A14c Fc0_14 Fc1_14 Fc2_14 Fc0_14 Fc1_14 Fc2_14) hZ14 (hw _ (List.mem_of_getElem? (i := 57) rfl)) (hw _ (List.mem_of_getElem? (i := 3) rfl)) (by decide) (by decide)) q43a q43c (g := (mkF m 212 #[.val (.int ps1), .val (.int pr1), .val (.int ps2), .val (.int pr2), .val (.int pmo), .val (.int pch), .val (.int (ps1 &&& (3 : Int32))), .val (.int ((pr1 &&& (2147483647 : Int32)) % (13 : Int32))), .val (.int cc), .val (.int dd), .val (.ref b11), .val (.int (pmo &&& (3 : Int32))), .unset, .unset] [(.ref b11), (.ref b11)])) rfl (by rw [hml]; rfl) (Steps.refl _) (argsL := [(.ref b11)]) (rest := []) (lenOf pd_8 rfl) rfl (by show 2 * 0 + _ ≤ _; exact Nat.le_of_eq rfl) (hb hby at_212) (fun _ _ => ⟨rfl, rfl, (by decide : 5 + 0 ≤ _), (by decide : 43 + 0 ≤ _)⟩)
        dsimp only [Pt.U, Pt.locs, Pt.cells, Pt.slots] at X43 l43 y43 z43 st43 hQ43
        subst l43 y43 z43
        obtain ⟨rfl, N43q, e43⟩ := hQ43
        have N43 := Fr.app N14 N43q
        rw [(own_eq1 suit1 rank2)] at st43
        obtain ⟨fs, hr, hrun, hended, hend⟩ := Stand.leaveW (s := s) (vm₁ := T14.vm) X43 hS14 (by rw [e43]; exact (Nat.le_refl _)) (v := some (.int (1 : Int32))) (fun h => by rw [Bd.returns] at h; cases h)
        refine ⟨_, _, pre38 _ ?_, hrun, hended, _, _, rfl, ?_, hend.1, hend.2.1, hend.2.2.1, hend.2.2.2.mono (by decide) (by decide)⟩
        · show Steps p.tables e below (T14.setTop (mkF m 177 #[.val (.int ps1), .val (.int pr1), .val (.int ps2), .val (.int pr2), .val (.int pmo), .val (.int pch), .val (.int (ps1 &&& (3 : Int32))), .val (.int ((pr1 &&& (2147483647 : Int32)) % (13 : Int32))), .val (.int cc), .val (.int dd), .val (.ref b11), .val (.int (pmo &&& (3 : Int32))), .unset, .unset] [(.int (2 : Int32)), (.int (pmo &&& (3 : Int32)))])) _
          refine XS.icmpYes Xr14.here hx rfl (pc0 := 177) (pc' := 208) rfl (hb hby at_177) rfl (feq hc177_39).2 (by decide) (by decide) ?_
          show Steps p.tables e below (T14.setTop (mkF m 208 #[.val (.int ps1), .val (.int pr1), .val (.int ps2), .val (.int pr2), .val (.int pmo), .val (.int pch), .val (.int (ps1 &&& (3 : Int32))), .val (.int ((pr1 &&& (2147483647 : Int32)) % (13 : Int32))), .val (.int cc), .val (.int dd), .val (.ref b11), .val (.int (pmo &&& (3 : Int32))), .unset, .unset] [])) _
          refine XS.aload Xr14.here hx rfl (hb hby at_208) rfl rfl ?_
          show Steps p.tables e below (T14.setTop (mkF m 210 #[.val (.int ps1), .val (.int pr1), .val (.int ps2), .val (.int pr2), .val (.int pmo), .val (.int pch), .val (.int (ps1 &&& (3 : Int32))), .val (.int ((pr1 &&& (2147483647 : Int32)) % (13 : Int32))), .val (.int cc), .val (.int dd), .val (.ref b11), .val (.int (pmo &&& (3 : Int32))), .unset, .unset] [(.ref b11)])) _
          refine XS.aload Xr14.here hx rfl (hb hby at_210) rfl rfl ?_
          show Steps p.tables e below (T14.setTop (mkF m 212 #[.val (.int ps1), .val (.int pr1), .val (.int ps2), .val (.int pr2), .val (.int pmo), .val (.int pch), .val (.int (ps1 &&& (3 : Int32))), .val (.int ((pr1 &&& (2147483647 : Int32)) % (13 : Int32))), .val (.int cc), .val (.int dd), .val (.ref b11), .val (.int (pmo &&& (3 : Int32))), .unset, .unset] [(.ref b11), (.ref b11)])) _
          refine st43.trans ?_
          show Steps p.tables e below (T43.setTop (mkF m 215 #[.val (.int ps1), .val (.int pr1), .val (.int ps2), .val (.int pr2), .val (.int pmo), .val (.int pch), .val (.int (ps1 &&& (3 : Int32))), .val (.int ((pr1 &&& (2147483647 : Int32)) % (13 : Int32))), .val (.int cc), .val (.int dd), .val (.ref b11), .val (.int (pmo &&& (3 : Int32))), .unset, .unset] [(.int (1 : Int32))])) _
          exact retN X43 hx (t := .boolean) Bd.returns (by simp) (hb hby at_215) hr
        · show Q0 Z ps1 pr1 ps2 pr2 pmo pch w_SPADES w_HEARTS w_DIAMONDS w_CLUBS w_TWO w_THREE w_FOUR w_FIVE w_SIX w_SEVEN w_EIGHT w_NINE w_TEN w_JACK w_QUEEN w_KING w_ACE zc h0 n0 _ T43.heap _
          rw [e43]
          exact ⟨rfl, N43⟩
set_option maxRecDepth 65536 in
set_option maxHeartbeats 40000000 in
theorem comes_1 {Post : Tables → Env → Array Value → State → Outcome → State → Prop} (hpost : ∀ tb e args s v u, (limb_1_1.after args s (.returned v) u = true ∧ limb_1_2.after args s (.returned v) u = true ∧ True) → ReturnedEndW s (.returned v) u (Jvm.fieldLocs frame_1_writes args s ++ Jvm.arrayLocs frame_1_arrays args s ++ Jvm.staticLocs frame_1_statics s) 24 2176 → Post tb e args s (.returned v) u) :
    ArmFor flags0 classFile x code maxLocals ret World_1 tables_1 room_1 Calls_1 rest_1 Pre_1 Post := by
  intro l hfl _ _ p e ha hc hk s m args below hf hA hF happ hP
  obtain ⟨hcalls, hrest, hpre⟩ := hP
  obtain ⟨-, -, -, hnamed, -, -, -, hat⟩ := (Spec.applies_iff hf).mp happ
  obtain ⟨hg, hn⟩ := and_e (Cond.before_iff.mp (show (Jvm.Cond.and given_1 narrow_1).before args s = true from hpre))
  obtain ⟨g1, g2⟩ := and_e hg
  obtain ⟨g3, g4⟩ := and_e g2
  obtain ⟨g5, g6⟩ := and_e g4
  obtain ⟨g7, g8⟩ := and_e g6
  obtain ⟨g9, g10⟩ := and_e g8
  obtain ⟨g11, g12⟩ := and_e g10
  obtain ⟨w0, w1, w2, w3, w4, w5, rfl⟩ : ∃ w0 w1 w2 w3 w4 w5 : Value, args = #[w0, w1, w2, w3, w4, w5] := by
    have hs : args.size = 6 := by simpa [Cond.value, given_1] using g1
    obtain ⟨L⟩ := args
    match L, hs with
    | [w0, w1, w2, w3, w4, w5], _ => exact ⟨w0, w1, w2, w3, w4, w5, rfl⟩
  have hw := fun d (hd : d ∈ tables_1) => atoms_spec (ws := Jvm.Cond.code x code maxLocals ret :: tables_1) hat d (List.mem_cons_of_mem _ hd)
  have hfit : Fit s := fun {y c} hc i hi => by
    obtain ⟨ha, rfl⟩ := Array.getElem?_eq_some_iff.mp hc
    have q := List.all_eq_true.mp ((Array.all_eq_true_iff_forall_mem.mp hF) _ (Array.getElem_mem ha)) i (List.mem_range.mpr hi)
    simpa [Array.getElem?_eq_getElem hi] using q
  obtain ⟨hsets, hown0⟩ := atoms_of _ (rest_1_c_eq ▸ (show rest_1_c.before _ s = true from hrest))
  have hr0 := Cond.before_iff.mp hown0
  obtain ⟨i0, ei0⟩ := is_v g3
  obtain rfl : w0 = (.int i0) := Option.some.inj ei0
  obtain ⟨i1, ei1⟩ := is_v g5
  obtain rfl : w1 = (.int i1) := Option.some.inj ei1
  obtain ⟨i2, ei2⟩ := is_v g7
  obtain rfl : w2 = (.int i2) := Option.some.inj ei2
  obtain ⟨i3, ei3⟩ := is_v g9
  obtain rfl : w3 = (.int i3) := Option.some.inj ei3
  obtain ⟨i4, ei4⟩ := is_v g11
  obtain rfl : w4 = (.int i4) := Option.some.inj ei4
  obtain ⟨i5, ei5⟩ := is_v g12
  obtain rfl : w5 = (.int i5) := Option.some.inj ei5
  obtain ⟨k13, k14⟩ := and_e hn
  obtain ⟨k15, k16⟩ := and_e k14
  obtain ⟨k17, k18⟩ := and_e k16
  obtain ⟨k19, k20⟩ := and_e k18
  obtain ⟨k21, k22⟩ := and_e k20
  obtain ⟨k23, k24⟩ := and_e k22
  obtain ⟨k25, k26⟩ := and_e k24
  obtain ⟨k27, k28⟩ := and_e k26
  obtain ⟨k29, k30⟩ := and_e k28
  obtain ⟨k31, k32⟩ := and_e k30
  obtain ⟨k33, k34⟩ := and_e k32
  obtain ⟨k35, k36⟩ := and_e k34
  obtain ⟨k37, k38⟩ := and_e k36
  obtain ⟨k39, k40⟩ := and_e k38
  obtain ⟨k41, k42⟩ := and_e k40
  obtain ⟨k43, k44⟩ := and_e k42
  obtain ⟨k45, k46⟩ := and_e k44
  obtain ⟨k47, k48⟩ := and_e k46
  obtain ⟨k49, k50⟩ := and_e k48
  obtain ⟨k51, k52⟩ := and_e k50
  obtain ⟨k53, k54⟩ := and_e k52
  obtain ⟨k55, k56⟩ := and_e k54
  obtain ⟨k57, k58⟩ := and_e k56
  obtain ⟨k59, k60⟩ := and_e k58
  obtain ⟨k61, k62⟩ := and_e k60
  obtain ⟨k63, k64⟩ := and_e k62
  obtain ⟨k65, k66⟩ := and_e k64
  obtain ⟨k67, k68⟩ := and_e k66
  obtain ⟨k69, k70⟩ := and_e k68
  obtain ⟨k71, k72⟩ := and_e k70
  obtain ⟨k73, k74⟩ := and_e k72
  obtain ⟨k75, k76⟩ := and_e k74
  obtain ⟨k77, k78⟩ := and_e k76
  obtain ⟨zc, ezc⟩ := is_v (Cond.before_iff.mp (hsets _ (List.mem_of_getElem? (i := 1) rfl)))
  have S_c := Sta.start ezc (Or.inl (hsets _ (List.mem_of_getElem? (i := 0) rfl)))
  have hzc : ¬ zc = (0 : Int32) := gotF (Cond.eq_ints ezc (Term.int_eval (0))) (not_v (Cond.before_iff.mp (hsets _ (List.mem_of_getElem? (i := 2) rfl))))
  obtain ⟨w_SPADES, e_SPADES⟩ := exa_v k13
  have E_SPADES := Exa.start e_SPADES k13
  have S_SPADES := Sta.start e_SPADES (Or.inr ⟨(hw _ (List.mem_of_getElem? (i := 9) rfl)), (hw _ (List.mem_of_getElem? (i := 10) rfl))⟩)
  have F_SPADES := Fld.start ((fld_at e_SPADES).symm.trans (eqv_i (Term.int_eval 0) k23))
  obtain ⟨w_HEARTS, e_HEARTS⟩ := exa_v k31
  have E_HEARTS := Exa.start e_HEARTS k31
  have S_HEARTS := Sta.start e_HEARTS (Or.inr ⟨(hw _ (List.mem_of_getElem? (i := 9) rfl)), (hw _ (List.mem_of_getElem? (i := 65) rfl))⟩)
  have F_HEARTS := Fld.start ((fld_at e_HEARTS).symm.trans (eqv_i (Term.int_eval 1) k61))
  obtain ⟨w_DIAMONDS, e_DIAMONDS⟩ := exa_v k17
  have E_DIAMONDS := Exa.start e_DIAMONDS k17
  have S_DIAMONDS := Sta.start e_DIAMONDS (Or.inr ⟨(hw _ (List.mem_of_getElem? (i := 9) rfl)), (hw _ (List.mem_of_getElem? (i := 50) rfl))⟩)
  have F_DIAMONDS := Fld.start ((fld_at e_DIAMONDS).symm.trans (eqv_i (Term.int_eval 2) k21))
  obtain ⟨w_CLUBS, e_CLUBS⟩ := exa_v k27
  have E_CLUBS := Exa.start e_CLUBS k27
  have S_CLUBS := Sta.start e_CLUBS (Or.inr ⟨(hw _ (List.mem_of_getElem? (i := 9) rfl)), (hw _ (List.mem_of_getElem? (i := 63) rfl))⟩)
  have F_CLUBS := Fld.start ((fld_at e_CLUBS).symm.trans (eqv_i (Term.int_eval 3) k29))
  obtain ⟨w_TWO, e_TWO⟩ := exa_v k45
  have E_TWO := Exa.start e_TWO k45
  have S_TWO := Sta.start e_TWO (Or.inr ⟨(hw _ (List.mem_of_getElem? (i := 15) rfl)), (hw _ (List.mem_of_getElem? (i := 79) rfl))⟩)
  have F_TWO := Fld.start ((fld_at e_TWO).symm.trans (eqv_i (Term.int_eval 0) k53))
  obtain ⟨w_THREE, e_THREE⟩ := exa_v k19
  have E_THREE := Exa.start e_THREE k19
  have S_THREE := Sta.start e_THREE (Or.inr ⟨(hw _ (List.mem_of_getElem? (i := 15) rfl)), (hw _ (List.mem_of_getElem? (i := 52) rfl))⟩)
  have F_THREE := Fld.start ((fld_at e_THREE).symm.trans (eqv_i (Term.int_eval 1) k55))
  obtain ⟨w_FOUR, e_FOUR⟩ := exa_v k39
  have E_FOUR := Exa.start e_FOUR k39
  have S_FOUR := Sta.start e_FOUR (Or.inr ⟨(hw _ (List.mem_of_getElem? (i := 15) rfl)), (hw _ (List.mem_of_getElem? (i := 73) rfl))⟩)
  have F_FOUR := Fld.start ((fld_at e_FOUR).symm.trans (eqv_i (Term.int_eval 2) k69))
  obtain ⟨w_FIVE, e_FIVE⟩ := exa_v k15
  have E_FIVE := Exa.start e_FIVE k15
  have S_FIVE := Sta.start e_FIVE (Or.inr ⟨(hw _ (List.mem_of_getElem? (i := 15) rfl)), (hw _ (List.mem_of_getElem? (i := 16) rfl))⟩)
  have F_FIVE := Fld.start ((fld_at e_FIVE).symm.trans (eqv_i (Term.int_eval 3) k51))
  obtain ⟨w_SIX, e_SIX⟩ := exa_v k41
  have E_SIX := Exa.start e_SIX k41
  have S_SIX := Sta.start e_SIX (Or.inr ⟨(hw _ (List.mem_of_getElem? (i := 15) rfl)), (hw _ (List.mem_of_getElem? (i := 75) rfl))⟩)
  have F_SIX := Fld.start ((fld_at e_SIX).symm.trans (eqv_i (Term.int_eval 4) k77))
  obtain ⟨w_SEVEN, e_SEVEN⟩ := exa_v k47
  have E_SEVEN := Exa.start e_SEVEN k47
  have S_SEVEN := Sta.start e_SEVEN (Or.inr ⟨(hw _ (List.mem_of_getElem? (i := 15) rfl)), (hw _ (List.mem_of_getElem? (i := 81) rfl))⟩)
  have F_SEVEN := Fld.start ((fld_at e_SEVEN).symm.trans (eqv_i (Term.int_eval 5) k65))
  obtain ⟨w_EIGHT, e_EIGHT⟩ := exa_v k71
  have E_EIGHT := Exa.start e_EIGHT k71
  have S_EIGHT := Sta.start e_EIGHT (Or.inr ⟨(hw _ (List.mem_of_getElem? (i := 15) rfl)), (hw _ (List.mem_of_getElem? (i := 106) rfl))⟩)
  have F_EIGHT := Fld.start ((fld_at e_EIGHT).symm.trans (eqv_i (Term.int_eval 6) k73))
  obtain ⟨w_NINE, e_NINE⟩ := exa_v k33
  have E_NINE := Exa.start e_NINE k33
  have S_NINE := Sta.start e_NINE (Or.inr ⟨(hw _ (List.mem_of_getElem? (i := 15) rfl)), (hw _ (List.mem_of_getElem? (i := 67) rfl))⟩)
  have F_NINE := Fld.start ((fld_at e_NINE).symm.trans (eqv_i (Term.int_eval 7) k49))
  obtain ⟨w_TEN, e_TEN⟩ := exa_v k37
  have E_TEN := Exa.start e_TEN k37
  have S_TEN := Sta.start e_TEN (Or.inr ⟨(hw _ (List.mem_of_getElem? (i := 15) rfl)), (hw _ (List.mem_of_getElem? (i := 71) rfl))⟩)
  have F_TEN := Fld.start ((fld_at e_TEN).symm.trans (eqv_i (Term.int_eval 8) k67))
  obtain ⟨w_JACK, e_JACK⟩ := exa_v k35
  have E_JACK := Exa.start e_JACK k35
  have S_JACK := Sta.start e_JACK (Or.inr ⟨(hw _ (List.mem_of_getElem? (i := 15) rfl)), (hw _ (List.mem_of_getElem? (i := 69) rfl))⟩)
  have F_JACK := Fld.start ((fld_at e_JACK).symm.trans (eqv_i (Term.int_eval 9) k63))
  obtain ⟨w_QUEEN, e_QUEEN⟩ := exa_v k25
  have E_QUEEN := Exa.start e_QUEEN k25
  have S_QUEEN := Sta.start e_QUEEN (Or.inr ⟨(hw _ (List.mem_of_getElem? (i := 15) rfl)), (hw _ (List.mem_of_getElem? (i := 61) rfl))⟩)
  have F_QUEEN := Fld.start ((fld_at e_QUEEN).symm.trans (eqv_i (Term.int_eval 10) k57))
  obtain ⟨w_KING, e_KING⟩ := exa_v k59
  have E_KING := Exa.start e_KING k59
  have S_KING := Sta.start e_KING (Or.inr ⟨(hw _ (List.mem_of_getElem? (i := 15) rfl)), (hw _ (List.mem_of_getElem? (i := 104) rfl))⟩)
  have F_KING := Fld.start ((fld_at e_KING).symm.trans (eqv_i (Term.int_eval 11) k78))
  obtain ⟨w_ACE, e_ACE⟩ := exa_v k43
  have E_ACE := Exa.start e_ACE k43
  have S_ACE := Sta.start e_ACE (Or.inr ⟨(hw _ (List.mem_of_getElem? (i := 15) rfl)), (hw _ (List.mem_of_getElem? (i := 77) rfl))⟩)
  have F_ACE := Fld.start ((fld_at e_ACE).symm.trans (eqv_i (Term.int_eval 12) k75))
  obtain ⟨n, o, h1, h2, h3, _, L, rfl, ⟨rfl, N⟩, hq⟩ := rm0 l s _ hw tables_1 i0 i1 i2 i3 i4 i5 w_SPADES w_HEARTS w_DIAMONDS w_CLUBS w_TWO w_THREE w_FOUR w_FIVE w_SIX w_SEVEN w_EIGHT w_NINE w_TEN w_JACK w_QUEEN w_KING w_ACE zc s.heap s.heap.size (Nat.le_refl _) (Old.start s) S_c hzc S_SPADES S_HEARTS S_DIAMONDS S_CLUBS S_TWO S_THREE S_FOUR S_FIVE S_SIX S_SEVEN S_EIGHT S_NINE S_TEN S_JACK S_QUEEN S_KING S_ACE E_SPADES F_SPADES E_HEARTS F_HEARTS E_DIAMONDS F_DIAMONDS E_CLUBS F_CLUBS E_TWO F_TWO E_THREE F_THREE E_FOUR F_FOUR E_FIVE F_FIVE E_SIX F_SIX E_SEVEN F_SEVEN E_EIGHT F_EIGHT E_NINE F_NINE E_TEN F_TEN E_JACK F_JACK E_QUEEN F_QUEEN E_KING F_KING E_ACE F_ACE p e ha hc hk s m _ below hf ((Spec.applies_iff_loose hf).mp happ).1 ⟨rfl, State.Warmed39.refl s, rfl⟩ trivial
  refine ⟨n, _, h1, h2, h3, hpost _ _ _ _ _ _ ⟨Cond.after_iff.mpr rfl, Cond.after_iff.mpr (eq_i res_at (Term.int_eval (1)) rfl), trivial⟩ ⟨hq.1, hq.2.1, hq.2.2.1, (hq.2.2.2.sift fun y hy => Or.inr (N y hy)).mono (by decide) (by decide)⟩⟩
theorem main_1_1 : Claimed_1_1 := comes_1 fun _ _ _ _ _ _ h hF => ⟨h.1, hF⟩
theorem main_1_2 : Claimed_1_2 := comes_1 fun _ _ _ _ _ _ h hF => ⟨h.2.1, hF⟩
end Jvm.Pilot.@@N@@
namespace Jvm.Pilot.@@N@@
open Jvm Jvm.ClassFile Sem Op Lib Jvm.Free Jvm.Stand Jvm.Pilot.@@N@@.Jvm.D
/-! MADE BY PROGRAM (witnessworld.py) out of the Statement's table words and the real class files: 21 classes; the members and pool entries that the words name. The judged class is class 1, her method 1. -/
namespace start1
open Jvm.ClassFile
def u (s : String) : CpInfo := .utf8 (stringToUtf16 s)
/-- a pool by its gaps: so many unusable entries, then the entry; so many at the end -/
def gap : Nat → List CpInfo → List CpInfo
  | 0, r => r
  | n + 1, r => .unusable :: gap n r
def poolList (es : List (Nat × CpInfo)) (last : Nat) : List CpInfo := es.foldr (fun e r => gap e.1 (e.2 :: r)) (gap last [])
def pool (es : List (Nat × CpInfo)) (last : Nat) : Array CpInfo := ⟨poolList es last⟩
def fileOf (pool : Array CpInfo) (this : Nat) (attrs : Array Attribute := #[]) (ms : Array MethodInfo := #[]) (fl : Nat := 33) (sup : Nat := 0) (ifs : Array Nat := #[]) (fds : Array FieldInfo := #[]) : ClassFile where
  minorVersion := 0
  majorVersion := 65
  constantPool := pool
  accessFlags := fl
  thisClass := this
  superClass := sup
  interfaces := ifs
  fields := fds
  methods := ms
  attributes := attrs
def plain (name : String) (sup : Option ClassId) : Class where
  name := name
  kind := .ordinary
  loader := none
  accessFlags := 33
  super := sup
  interfaces := #[]
  cf := none
  fields := #[]
  methods := #[]
  instanceTypes := #[]
  staticTypes := #[]
  resolved := #[]
  callSites := []
  init := .initialized
  statics := none
  mirror := none

def pool0 : Array CpInfo := pool [(5, u "<init>"), (0, u "()V"), (1, .class_ 10), (1, u "java/lang/Object")] 113

def k0c0 : Code := { maxStack := 0, maxLocals := 1, code := object_method_1_code, exceptionTable := #[], attributes := #[] }
def k0m0 : Method := { name := "<init>", desc := "()V", sig := { parameters := [], returnType := none }, accessFlags := 1, code := some k0c0 }
/-- java/lang/Object -/
def k0 : Class := { plain "java/lang/Object" none with
  accessFlags := 33
  interfaces := #[]
  cf := some (fileOf pool0 8 #[] #[{ accessFlags := 1, nameIndex := 5, descriptorIndex := 6, attributes := #[] }] 33 0 #[] #[])
  fields := #[]
  methods := #[k0m0]
  instanceTypes := #[]
  staticTypes := #[]
  resolved := Array.replicate 124 none
  statics := none }

def pool1 : Array CpInfo := pool [(2, .class_ 4), (1, u "java/lang/Object"), (0, u "<init>"), (0, u "()V"), (0, .integer 2147483647), (0, .class_ 9), (0, u "com/example/ruffwork/ruffwork/Card"), (0, .methodref 11 12), (0, .class_ 13), (0, .nameAndType 14 15), (0, u "com/example/ruffwork/ruffwork/CardEqualsPinLaw"), (0, u "suit"), (0, u "(I)Lcom/example/ruffwork/ruffwork/Suit;"), (0, .methodref 11 17), (0, .nameAndType 18 19), (0, u "rank"), (0, u "(I)Lcom/example/ruffwork/ruffwork/Rank;"), (0, .methodref 8 21), (0, .nameAndType 5 22), (0, u "(Lcom/example/ruffwork/ruffwork/Suit;Lcom/example/ruffwork/ruffwork/Rank;)V"), (0, .methodref 8 24), (0, .nameAndType 25 26), (0, u "equals"), (0, u "(Ljava/lang/Object;)Z"), (0, .methodref 28 29), (0, .class_ 30), (0, .nameAndType 31 32), (0, u "java/lang/String"), (0, u "valueOf"), (0, u "(C)Ljava/lang/String;"), (0, .fieldref 34 35), (0, .class_ 36), (0, .nameAndType 37 38), (0, u "com/example/ruffwork/ruffwork/Suit"), (0, u "SPADES"), (0, u "Lcom/example/ruffwork/ruffwork/Suit;"), (0, .fieldref 34 40), (0, .nameAndType 41 38), (0, u "HEARTS"), (0, .fieldref 34 43), (0, .nameAndType 44 38), (0, u "DIAMONDS"), (0, .fieldref 34 46), (0, .nameAndType 47 38), (0, u "CLUBS"), (0, .fieldref 49 50), (0, .class_ 51), (0, .nameAndType 52 53), (0, u "com/example/ruffwork/ruffwork/Rank"), (0, u "TWO"), (0, u "Lcom/example/ruffwork/ruffwork/Rank;"), (0, .fieldref 49 55), (0, .nameAndType 56 53), (0, u "THREE"), (0, .fieldref 49 58), (0, .nameAndType 59 53), (0, u "FOUR"), (0, .fieldref 49 61), (0, .nameAndType 62 53), (0, u "FIVE"), (0, .fieldref 49 64), (0, .nameAndType 65 53), (0, u "SIX"), (0, .fieldref 49 67), (0, .nameAndType 68 53), (0, u "SEVEN"), (0, .fieldref 49 70), (0, .nameAndType 71 53), (0, u "EIGHT"), (0, .fieldref 49 73), (0, .nameAndType 74 53), (0, u "NINE"), (0, .fieldref 49 76), (0, .nameAndType 77 53), (0, u "TEN"), (0, .fieldref 49 79), (0, .nameAndType 80 53), (0, u "JACK"), (0, .fieldref 49 82), (0, .nameAndType 83 53), (0, u "QUEEN"), (0, .fieldref 49 85), (0, .nameAndType 86 53), (0, u "KING"), (0, .fieldref 49 88), (0, .nameAndType 89 53), (0, u "ACE"), (2, u "law"), (0, u "(IIIIII)Z")] 3

def k1m0 : Method := { name := "<init>", desc := "()V", sig := { parameters := [], returnType := none }, accessFlags := 1, code := none }
def k1c1 : Code := { maxStack := 4, maxLocals := 14, code := code, exceptionTable := #[], attributes := #[] }
def k1m1 : Method := { name := "law", desc := "(IIIIII)Z", sig := { parameters := [.int, .int, .int, .int, .int, .int], returnType := some .boolean }, accessFlags := 9, code := some k1c1 }
def k1c2 : Code := { maxStack := 2, maxLocals := 1, code := method_3_code, exceptionTable := #[], attributes := #[] }
def k1m2 : Method := { name := "suit", desc := "(I)Lcom/example/ruffwork/ruffwork/Suit;", sig := { parameters := [.int], returnType := some (.object "com/example/ruffwork/ruffwork/Suit") }, accessFlags := 10, code := some k1c2 }
def k1c3 : Code := { maxStack := 2, maxLocals := 1, code := method_4_code, exceptionTable := #[], attributes := #[] }
def k1m3 : Method := { name := "rank", desc := "(I)Lcom/example/ruffwork/ruffwork/Rank;", sig := { parameters := [.int], returnType := some (.object "com/example/ruffwork/ruffwork/Rank") }, accessFlags := 10, code := some k1c3 }
/-- com/example/ruffwork/ruffwork/CardEqualsPinLaw -/
def k1 : Class := { plain "com/example/ruffwork/ruffwork/CardEqualsPinLaw" (some 0) with
  accessFlags := 49
  interfaces := #[]
  cf := some (fileOf pool1 11 #[] #[{ accessFlags := 1, nameIndex := 5, descriptorIndex := 6, attributes := #[] }, { accessFlags := 9, nameIndex := 92, descriptorIndex := 93, attributes := #[] }, { accessFlags := 10, nameIndex := 14, descriptorIndex := 15, attributes := #[] }, { accessFlags := 10, nameIndex := 18, descriptorIndex := 19, attributes := #[] }] 49 2 #[] #[])
  fields := #[]
  methods := #[k1m0, k1m1, k1m2, k1m3]
  instanceTypes := #[]
  staticTypes := #[]
  resolved := Array.replicate 97 none
  statics := none }

def pool2 : Array CpInfo := pool [(1, .string 2), (0, u "suit"), (0, .methodref 4 5), (0, .class_ 6), (0, .nameAndType 7 8), (0, u "java/util/Objects"), (0, u "requireNonNull"), (0, u "(Ljava/lang/Object;Ljava/lang/String;)Ljava/lang/Object;"), (0, .class_ 10), (0, u "com/example/ruffwork/ruffwork/Suit"), (0, .string 12), (0, u "rank"), (0, .class_ 14), (0, u "com/example/ruffwork/ruffwork/Rank"), (0, .methodref 16 17), (0, .class_ 18), (0, .nameAndType 19 20), (0, u "com/example/ruffwork/ruffwork/Card"), (0, u "<init>"), (0, u "(Lcom/example/ruffwork/ruffwork/Suit;Lcom/example/ruffwork/ruffwork/Rank;Lcom/example/ruffwork/ruffwork/Joker;)V"), (0, .methodref 22 23), (0, .class_ 24), (0, .nameAndType 19 25), (0, u "java/lang/Object"), (0, u "()V"), (0, .fieldref 16 27), (0, .nameAndType 2 28), (0, u "Lcom/example/ruffwork/ruffwork/Suit;"), (0, .fieldref 16 30), (0, .nameAndType 12 31), (0, u "Lcom/example/ruffwork/ruffwork/Rank;"), (0, .fieldref 16 33), (0, .nameAndType 34 35), (0, u "joker"), (0, u "Lcom/example/ruffwork/ruffwork/Joker;"), (22, u "(Lcom/example/ruffwork/ruffwork/Suit;Lcom/example/ruffwork/ruffwork/Rank;)V"), (22, u "SUITED"), (0, u "I"), (6, u "RANKS"), (20, u "equals"), (0, u "(Ljava/lang/Object;)Z")] 22

def k2c0 : Code := { maxStack := 4, maxLocals := 3, code := prog_23_method_1_code, exceptionTable := #[], attributes := #[] }
def k2m0 : Method := { name := "<init>", desc := "(Lcom/example/ruffwork/ruffwork/Suit;Lcom/example/ruffwork/ruffwork/Rank;)V", sig := { parameters := [(.object "com/example/ruffwork/ruffwork/Suit"), (.object "com/example/ruffwork/ruffwork/Rank")], returnType := none }, accessFlags := 1, code := some k2c0 }
def k2c1 : Code := { maxStack := 2, maxLocals := 4, code := prog_23_method_2_code, exceptionTable := #[], attributes := #[] }
def k2m1 : Method := { name := "<init>", desc := "(Lcom/example/ruffwork/ruffwork/Suit;Lcom/example/ruffwork/ruffwork/Rank;Lcom/example/ruffwork/ruffwork/Joker;)V", sig := { parameters := [(.object "com/example/ruffwork/ruffwork/Suit"), (.object "com/example/ruffwork/ruffwork/Rank"), (.object "com/example/ruffwork/ruffwork/Joker")], returnType := none }, accessFlags := 2, code := some k2c1 }
def k2c2 : Code := { maxStack := 2, maxLocals := 3, code := prog_23_method_10_code, exceptionTable := #[], attributes := #[] }
def k2m2 : Method := { name := "equals", desc := "(Ljava/lang/Object;)Z", sig := { parameters := [(.object "java/lang/Object")], returnType := some .boolean }, accessFlags := 1, code := some k2c2 }
/-- com/example/ruffwork/ruffwork/Card -/
def k2 : Class := { plain "com/example/ruffwork/ruffwork/Card" (some 0) with
  accessFlags := 49
  interfaces := #[]
  cf := some (fileOf pool2 16 #[] #[{ accessFlags := 1, nameIndex := 19, descriptorIndex := 58, attributes := #[] }, { accessFlags := 2, nameIndex := 19, descriptorIndex := 20, attributes := #[] }, { accessFlags := 1, nameIndex := 110, descriptorIndex := 111, attributes := #[] }] 49 22 #[] #[{ accessFlags := 26, nameIndex := 89, descriptorIndex := 82, attributes := #[] }, { accessFlags := 26, nameIndex := 81, descriptorIndex := 82, attributes := #[] }, { accessFlags := 18, nameIndex := 2, descriptorIndex := 28, attributes := #[] }, { accessFlags := 18, nameIndex := 12, descriptorIndex := 31, attributes := #[] }, { accessFlags := 18, nameIndex := 34, descriptorIndex := 35, attributes := #[] }])
  fields := #[{ name := "RANKS", type := .int, accessFlags := 26, slot := 0, constantValue := 0 }, { name := "SUITED", type := .int, accessFlags := 26, slot := 1, constantValue := 0 }, { name := "suit", type := (.object "com/example/ruffwork/ruffwork/Suit"), accessFlags := 18, slot := 0, constantValue := 0 }, { name := "rank", type := (.object "com/example/ruffwork/ruffwork/Rank"), accessFlags := 18, slot := 1, constantValue := 0 }, { name := "joker", type := (.object "com/example/ruffwork/ruffwork/Joker"), accessFlags := 18, slot := 2, constantValue := 0 }]
  methods := #[k2m0, k2m1, k2m2]
  instanceTypes := #[(.object "com/example/ruffwork/ruffwork/Suit"), (.object "com/example/ruffwork/ruffwork/Rank"), (.object "com/example/ruffwork/ruffwork/Joker")]
  staticTypes := #[.int, .int]
  resolved := Array.replicate 134 none
  statics := none }

def pool3 : Array CpInfo := pool [(1, .class_ 2), (0, u "java/lang/constant/Constable"), (0, .class_ 4), (0, u "java/lang/Object")] 6

/-- java/lang/constant/Constable -/
def k3 : Class := { plain "java/lang/constant/Constable" (some 0) with
  accessFlags := 1537
  interfaces := #[]
  cf := some (fileOf pool3 1 #[] #[] 1537 3 #[] #[])
  fields := #[]
  methods := #[]
  instanceTypes := #[]
  staticTypes := #[]
  resolved := Array.replicate 11 none
  statics := none }

def pool4 : Array CpInfo := pool [(1, .class_ 2), (0, u "java/lang/Comparable"), (0, .class_ 4), (0, u "java/lang/Object")] 7

/-- java/lang/Comparable -/
def k4 : Class := { plain "java/lang/Comparable" (some 0) with
  accessFlags := 1537
  interfaces := #[]
  cf := some (fileOf pool4 1 #[] #[] 1537 3 #[] #[])
  fields := #[]
  methods := #[]
  instanceTypes := #[]
  staticTypes := #[]
  resolved := Array.replicate 12 none
  statics := none }

def pool5 : Array CpInfo := pool [(1, .class_ 2), (0, u "java/io/Serializable"), (0, .class_ 4), (0, u "java/lang/Object")] 2

/-- java/io/Serializable -/
def k5 : Class := { plain "java/io/Serializable" (some 0) with
  accessFlags := 1537
  interfaces := #[]
  cf := some (fileOf pool5 1 #[] #[] 1537 3 #[] #[])
  fields := #[]
  methods := #[]
  instanceTypes := #[]
  staticTypes := #[]
  resolved := Array.replicate 7 none
  statics := none }

def pool6 : Array CpInfo := pool [(2, .class_ 4), (1, u "java/lang/Enum"), (0, u "name"), (0, u "Ljava/lang/String;"), (2, u "ordinal"), (0, u "I"), (1, .class_ 14), (1, u "java/lang/Object"), (4, u "hash"), (86, .class_ 108), (1, u "java/lang/Enum$EnumDesc"), (2, .class_ 112), (0, u "java/lang/constant/Constable"), (0, .class_ 114), (0, u "java/lang/Comparable"), (0, .class_ 116), (0, u "java/io/Serializable")] 87

/-- java/lang/Enum -/
def k6 : Class := { plain "java/lang/Enum" (some 0) with
  accessFlags := 1057
  interfaces := #[3, 4, 5]
  cf := some (fileOf pool6 2 #[.nestMembers #[106]] #[] 1057 12 #[111, 113, 115] #[{ accessFlags := 18, nameIndex := 5, descriptorIndex := 6, attributes := #[] }, { accessFlags := 18, nameIndex := 9, descriptorIndex := 10, attributes := #[] }, { accessFlags := 2, nameIndex := 19, descriptorIndex := 10, attributes := #[] }])
  fields := #[{ name := "name", type := (.object "java/lang/String"), accessFlags := 18, slot := 0, constantValue := 0 }, { name := "ordinal", type := .int, accessFlags := 18, slot := 1, constantValue := 0 }, { name := "hash", type := .int, accessFlags := 2, slot := 2, constantValue := 0 }]
  methods := #[]
  instanceTypes := #[(.object "java/lang/String"), .int, .int]
  staticTypes := #[]
  resolved := Array.replicate 204 none
  statics := none }

def pool7 : Array CpInfo := pool [(1, .class_ 2), (0, u "com/example/ruffwork/ruffwork/Suit"), (2, u "SPADES"), (0, u "Lcom/example/ruffwork/ruffwork/Suit;"), (2, u "HEARTS"), (2, u "DIAMONDS"), (2, u "CLUBS"), (2, u "$VALUES"), (0, u "[Lcom/example/ruffwork/ruffwork/Suit;"), (6, .class_ 28), (1, u "java/lang/Enum"), (8, u "symbol"), (0, u "C")] 29

/-- com/example/ruffwork/ruffwork/Suit -/
def k7 : Class := { plain "com/example/ruffwork/ruffwork/Suit" (some 6) with
  accessFlags := 16433
  interfaces := #[]
  cf := some (fileOf pool7 1 #[] #[] 16433 26 #[] #[{ accessFlags := 16409, nameIndex := 5, descriptorIndex := 6, attributes := #[] }, { accessFlags := 16409, nameIndex := 9, descriptorIndex := 6, attributes := #[] }, { accessFlags := 16409, nameIndex := 12, descriptorIndex := 6, attributes := #[] }, { accessFlags := 16409, nameIndex := 15, descriptorIndex := 6, attributes := #[] }, { accessFlags := 18, nameIndex := 37, descriptorIndex := 38, attributes := #[] }, { accessFlags := 4122, nameIndex := 18, descriptorIndex := 19, attributes := #[] }])
  fields := #[{ name := "SPADES", type := (.object "com/example/ruffwork/ruffwork/Suit"), accessFlags := 16409, slot := 0, constantValue := 0 }, { name := "HEARTS", type := (.object "com/example/ruffwork/ruffwork/Suit"), accessFlags := 16409, slot := 1, constantValue := 0 }, { name := "DIAMONDS", type := (.object "com/example/ruffwork/ruffwork/Suit"), accessFlags := 16409, slot := 2, constantValue := 0 }, { name := "CLUBS", type := (.object "com/example/ruffwork/ruffwork/Suit"), accessFlags := 16409, slot := 3, constantValue := 0 }, { name := "symbol", type := .char, accessFlags := 18, slot := 3, constantValue := 0 }, { name := "$VALUES", type := (.array (.object "com/example/ruffwork/ruffwork/Suit")), accessFlags := 4122, slot := 4, constantValue := 0 }]
  methods := #[]
  instanceTypes := #[(.object "java/lang/String"), .int, .int, .char]
  staticTypes := #[(.object "com/example/ruffwork/ruffwork/Suit"), (.object "com/example/ruffwork/ruffwork/Suit"), (.object "com/example/ruffwork/ruffwork/Suit"), (.object "com/example/ruffwork/ruffwork/Suit"), (.array (.object "com/example/ruffwork/ruffwork/Suit"))]
  resolved := Array.replicate 68 none
  statics := some 0 }

def pool8 : Array CpInfo := pool [(1, .class_ 2), (0, u "com/example/ruffwork/ruffwork/Rank"), (2, u "TWO"), (0, u "Lcom/example/ruffwork/ruffwork/Rank;"), (2, u "THREE"), (2, u "FOUR"), (2, u "FIVE"), (2, u "SIX"), (2, u "SEVEN"), (2, u "EIGHT"), (2, u "NINE"), (2, u "TEN"), (2, u "JACK"), (2, u "QUEEN"), (2, u "KING"), (2, u "ACE"), (2, u "$VALUES"), (0, u "[Lcom/example/ruffwork/ruffwork/Rank;"), (6, .class_ 55), (1, u "java/lang/Enum"), (8, u "symbol"), (0, u "C")] 38

/-- com/example/ruffwork/ruffwork/Rank -/
def k8 : Class := { plain "com/example/ruffwork/ruffwork/Rank" (some 6) with
  accessFlags := 16433
  interfaces := #[]
  cf := some (fileOf pool8 1 #[] #[] 16433 53 #[] #[{ accessFlags := 16409, nameIndex := 5, descriptorIndex := 6, attributes := #[] }, { accessFlags := 16409, nameIndex := 9, descriptorIndex := 6, attributes := #[] }, { accessFlags := 16409, nameIndex := 12, descriptorIndex := 6, attributes := #[] }, { accessFlags := 16409, nameIndex := 15, descriptorIndex := 6, attributes := #[] }, { accessFlags := 16409, nameIndex := 18, descriptorIndex := 6, attributes := #[] }, { accessFlags := 16409, nameIndex := 21, descriptorIndex := 6, attributes := #[] }, { accessFlags := 16409, nameIndex := 24, descriptorIndex := 6, attributes := #[] }, { accessFlags := 16409, nameIndex := 27, descriptorIndex := 6, attributes := #[] }, { accessFlags := 16409, nameIndex := 30, descriptorIndex := 6, attributes := #[] }, { accessFlags := 16409, nameIndex := 33, descriptorIndex := 6, attributes := #[] }, { accessFlags := 16409, nameIndex := 36, descriptorIndex := 6, attributes := #[] }, { accessFlags := 16409, nameIndex := 39, descriptorIndex := 6, attributes := #[] }, { accessFlags := 16409, nameIndex := 42, descriptorIndex := 6, attributes := #[] }, { accessFlags := 18, nameIndex := 64, descriptorIndex := 65, attributes := #[] }, { accessFlags := 4122, nameIndex := 45, descriptorIndex := 46, attributes := #[] }])
  fields := #[{ name := "TWO", type := (.object "com/example/ruffwork/ruffwork/Rank"), accessFlags := 16409, slot := 0, constantValue := 0 }, { name := "THREE", type := (.object "com/example/ruffwork/ruffwork/Rank"), accessFlags := 16409, slot := 1, constantValue := 0 }, { name := "FOUR", type := (.object "com/example/ruffwork/ruffwork/Rank"), accessFlags := 16409, slot := 2, constantValue := 0 }, { name := "FIVE", type := (.object "com/example/ruffwork/ruffwork/Rank"), accessFlags := 16409, slot := 3, constantValue := 0 }, { name := "SIX", type := (.object "com/example/ruffwork/ruffwork/Rank"), accessFlags := 16409, slot := 4, constantValue := 0 }, { name := "SEVEN", type := (.object "com/example/ruffwork/ruffwork/Rank"), accessFlags := 16409, slot := 5, constantValue := 0 }, { name := "EIGHT", type := (.object "com/example/ruffwork/ruffwork/Rank"), accessFlags := 16409, slot := 6, constantValue := 0 }, { name := "NINE", type := (.object "com/example/ruffwork/ruffwork/Rank"), accessFlags := 16409, slot := 7, constantValue := 0 }, { name := "TEN", type := (.object "com/example/ruffwork/ruffwork/Rank"), accessFlags := 16409, slot := 8, constantValue := 0 }, { name := "JACK", type := (.object "com/example/ruffwork/ruffwork/Rank"), accessFlags := 16409, slot := 9, constantValue := 0 }, { name := "QUEEN", type := (.object "com/example/ruffwork/ruffwork/Rank"), accessFlags := 16409, slot := 10, constantValue := 0 }, { name := "KING", type := (.object "com/example/ruffwork/ruffwork/Rank"), accessFlags := 16409, slot := 11, constantValue := 0 }, { name := "ACE", type := (.object "com/example/ruffwork/ruffwork/Rank"), accessFlags := 16409, slot := 12, constantValue := 0 }, { name := "symbol", type := .char, accessFlags := 18, slot := 3, constantValue := 0 }, { name := "$VALUES", type := (.array (.object "com/example/ruffwork/ruffwork/Rank")), accessFlags := 4122, slot := 13, constantValue := 0 }]
  methods := #[]
  instanceTypes := #[(.object "java/lang/String"), .int, .int, .char]
  staticTypes := #[(.object "com/example/ruffwork/ruffwork/Rank"), (.object "com/example/ruffwork/ruffwork/Rank"), (.object "com/example/ruffwork/ruffwork/Rank"), (.object "com/example/ruffwork/ruffwork/Rank"), (.object "com/example/ruffwork/ruffwork/Rank"), (.object "com/example/ruffwork/ruffwork/Rank"), (.object "com/example/ruffwork/ruffwork/Rank"), (.object "com/example/ruffwork/ruffwork/Rank"), (.object "com/example/ruffwork/ruffwork/Rank"), (.object "com/example/ruffwork/ruffwork/Rank"), (.object "com/example/ruffwork/ruffwork/Rank"), (.object "com/example/ruffwork/ruffwork/Rank"), (.object "com/example/ruffwork/ruffwork/Rank"), (.array (.object "com/example/ruffwork/ruffwork/Rank"))]
  resolved := Array.replicate 104 none
  statics := some 1 }

def pool9 : Array CpInfo := pool [(2, .class_ 4), (1, u "java/lang/CharSequence"), (42, .class_ 48), (0, u "java/lang/CharSequence$1CodePointIterator"), (10, .class_ 60), (0, u "java/lang/CharSequence$1CharIterator"), (5, .class_ 67), (0, u "java/lang/Object")] 63

/-- java/lang/CharSequence -/
def k9 : Class := { plain "java/lang/CharSequence" (some 0) with
  accessFlags := 1537
  interfaces := #[]
  cf := some (fileOf pool9 2 #[.nestMembers #[47, 59]] #[] 1537 66 #[] #[])
  fields := #[]
  methods := #[]
  instanceTypes := #[]
  staticTypes := #[]
  resolved := Array.replicate 131 none
  statics := none }

def pool10 : Array CpInfo := pool [(1, .class_ 2), (0, u "java/lang/constant/ConstantDesc"), (0, .class_ 4), (0, u "java/lang/Object")] 32

/-- java/lang/constant/ConstantDesc -/
def k10 : Class := { plain "java/lang/constant/ConstantDesc" (some 0) with
  accessFlags := 1537
  interfaces := #[]
  cf := some (fileOf pool10 1 #[] #[] 1537 3 #[] #[])
  fields := #[]
  methods := #[]
  instanceTypes := #[]
  staticTypes := #[]
  resolved := Array.replicate 37 none
  statics := none }

def pool11 : Array CpInfo := pool [(1, .methodref 2 3), (0, .class_ 4), (0, .nameAndType 5 6), (0, u "java/lang/Object"), (0, u "<init>"), (0, u "()V"), (2, .fieldref 10 11), (0, .class_ 12), (0, .nameAndType 13 14), (0, u "java/lang/String"), (0, u "value"), (0, u "[B"), (0, .fieldref 10 16), (0, .nameAndType 17 18), (0, u "coder"), (0, u "B"), (2, u "hash"), (0, u "I"), (2, u "hashIsZero"), (0, u "Z"), (11, .fieldref 10 39), (0, .nameAndType 40 26), (0, u "COMPACT_STRINGS"), (12, u "toBytes"), (53, .class_ 109), (1, u "java/lang/StringLatin1"), (99, .methodref 10 210), (0, .nameAndType 5 211), (0, u "([BB)V"), (157, u "(C)Z"), (205, .class_ 576), (0, u "java/lang/CharSequence"), (22, u "CASE_INSENSITIVE_ORDER"), (0, u "Ljava/util/Comparator;"), (181, u "valueOf"), (0, u "(C)Ljava/lang/String;"), (231, .methodref 107 1016), (0, .nameAndType 1017 369), (0, u "canEncode"), (0, .methodref 107 1019), (0, .nameAndType 53 1020), (0, u "(C)[B"), (80, u "serialPersistentFields"), (0, u "[Ljava/io/ObjectStreamField;"), (0, .class_ 1104), (0, u "java/lang/String$CaseInsensitiveComparator"), (1, .class_ 1107), (0, u "java/io/Serializable"), (0, .class_ 1109), (0, u "java/lang/Comparable"), (0, .class_ 1111), (0, u "java/lang/constant/Constable"), (0, .class_ 1113), (0, u "java/lang/constant/ConstantDesc"), (2, u "serialVersionUID"), (0, u "J"), (3, u "REPL"), (0, u "C"), (2, u "LATIN1"), (1, u "UTF16")] 323

def k11m0 : Method := { name := "<init>", desc := "()V", sig := { parameters := [], returnType := none }, accessFlags := 1, code := none }
def k11c1 : Code := { maxStack := 4, maxLocals := 1, code := jdk_42_method_139_code, exceptionTable := #[], attributes := #[] }
def k11m1 : Method := { name := "valueOf", desc := "(C)Ljava/lang/String;", sig := { parameters := [.char], returnType := some (.object "java/lang/String") }, accessFlags := 9, code := some k11c1 }
def k11c2 : Code := { maxStack := 2, maxLocals := 3, code := jdk_42_method_151_code, exceptionTable := #[], attributes := #[] }
def k11m2 : Method := { name := "<init>", desc := "([BB)V", sig := { parameters := [(.array .byte), .byte], returnType := none }, accessFlags := 0, code := some k11c2 }
/-- java/lang/String -/
def k11 : Class := { plain "java/lang/String" (some 0) with
  accessFlags := 49
  interfaces := #[5, 4, 9, 3, 10]
  cf := some (fileOf pool11 10 #[.nestMembers #[1103]] #[{ accessFlags := 1, nameIndex := 5, descriptorIndex := 6, attributes := #[] }, { accessFlags := 9, nameIndex := 782, descriptorIndex := 783, attributes := #[] }, { accessFlags := 0, nameIndex := 5, descriptorIndex := 211, attributes := #[] }] 49 2 #[1106, 1108, 575, 1110, 1112] #[{ accessFlags := 18, nameIndex := 13, descriptorIndex := 14, attributes := #[] }, { accessFlags := 18, nameIndex := 17, descriptorIndex := 18, attributes := #[] }, { accessFlags := 2, nameIndex := 21, descriptorIndex := 22, attributes := #[] }, { accessFlags := 2, nameIndex := 25, descriptorIndex := 26, attributes := #[] }, { accessFlags := 26, nameIndex := 1116, descriptorIndex := 1117, attributes := #[] }, { accessFlags := 24, nameIndex := 40, descriptorIndex := 26, attributes := #[] }, { accessFlags := 26, nameIndex := 1101, descriptorIndex := 1102, attributes := #[] }, { accessFlags := 26, nameIndex := 1121, descriptorIndex := 1122, attributes := #[] }, { accessFlags := 25, nameIndex := 599, descriptorIndex := 600, attributes := #[] }, { accessFlags := 24, nameIndex := 1125, descriptorIndex := 18, attributes := #[] }, { accessFlags := 24, nameIndex := 1127, descriptorIndex := 18, attributes := #[] }])
  fields := #[{ name := "value", type := (.array .byte), accessFlags := 18, slot := 0, constantValue := 0 }, { name := "coder", type := .byte, accessFlags := 18, slot := 1, constantValue := 0 }, { name := "hash", type := .int, accessFlags := 2, slot := 2, constantValue := 0 }, { name := "hashIsZero", type := .boolean, accessFlags := 2, slot := 3, constantValue := 0 }, { name := "serialVersionUID", type := .long, accessFlags := 26, slot := 0, constantValue := 0 }, { name := "COMPACT_STRINGS", type := .boolean, accessFlags := 24, slot := 1, constantValue := 0 }, { name := "serialPersistentFields", type := (.array (.object "java/io/ObjectStreamField")), accessFlags := 26, slot := 2, constantValue := 0 }, { name := "REPL", type := .char, accessFlags := 26, slot := 3, constantValue := 0 }, { name := "CASE_INSENSITIVE_ORDER", type := (.object "java/util/Comparator"), accessFlags := 25, slot := 4, constantValue := 0 }, { name := "LATIN1", type := .byte, accessFlags := 24, slot := 5, constantValue := 0 }, { name := "UTF16", type := .byte, accessFlags := 24, slot := 6, constantValue := 0 }]
  methods := #[k11m0, k11m1, k11m2]
  instanceTypes := #[(.array .byte), .byte, .int, .boolean]
  staticTypes := #[.long, .boolean, (.array (.object "java/io/ObjectStreamField")), .char, (.object "java/util/Comparator"), .byte, .byte]
  resolved := Array.replicate 1451 none
  statics := some 2 }

def pool12 : Array CpInfo := pool [(2, .class_ 4), (1, u "java/lang/Object"), (0, u "<init>"), (0, u "()V"), (35, .class_ 44), (1, u "java/util/Objects"), (0, u "requireNonNull"), (48, u "(Ljava/lang/Object;Ljava/lang/String;)Ljava/lang/Object;")] 89

def k12m0 : Method := { name := "<init>", desc := "()V", sig := { parameters := [], returnType := none }, accessFlags := 2, code := none }
def k12c1 : Code := { maxStack := 3, maxLocals := 2, code := jdk_31_method_11_code, exceptionTable := #[], attributes := #[] }
def k12m1 : Method := { name := "requireNonNull", desc := "(Ljava/lang/Object;Ljava/lang/String;)Ljava/lang/Object;", sig := { parameters := [(.object "java/lang/Object"), (.object "java/lang/String")], returnType := some (.object "java/lang/Object") }, accessFlags := 9, code := some k12c1 }
/-- java/util/Objects -/
def k12 : Class := { plain "java/util/Objects" (some 0) with
  accessFlags := 49
  interfaces := #[]
  cf := some (fileOf pool12 42 #[] #[{ accessFlags := 2, nameIndex := 5, descriptorIndex := 6, attributes := #[] }, { accessFlags := 9, nameIndex := 45, descriptorIndex := 94, attributes := #[] }] 49 2 #[] #[])
  fields := #[]
  methods := #[k12m0, k12m1]
  instanceTypes := #[]
  staticTypes := #[]
  resolved := Array.replicate 184 none
  statics := none }

def pool13 : Array CpInfo := pool [(4, .class_ 6), (1, u "java/lang/Object"), (0, u "<init>"), (0, u "()V"), (5, .class_ 16), (1, u "java/lang/StringLatin1"), (73, u "canEncode"), (14, u "(C)Z"), (15, u "$assertionsDisabled"), (0, u "Z"), (98, .class_ 223), (1, u "java/lang/StringLatin1$LinesSpliterator"), (156, u "toBytes"), (1, u "(C)[B"), (7, .class_ 391), (0, u "java/lang/StringLatin1$CharsSpliterator")] 3

def k13m0 : Method := { name := "<init>", desc := "()V", sig := { parameters := [], returnType := none }, accessFlags := 0, code := none }
def k13c1 : Code := { maxStack := 2, maxLocals := 1, code := jdk_43_method_3_code, exceptionTable := #[], attributes := #[] }
def k13m1 : Method := { name := "canEncode", desc := "(C)Z", sig := { parameters := [.char], returnType := some .boolean }, accessFlags := 9, code := some k13c1 }
def k13c2 : Code := { maxStack := 4, maxLocals := 1, code := jdk_43_method_46_code, exceptionTable := #[], attributes := #[] }
def k13m2 : Method := { name := "toBytes", desc := "(C)[B", sig := { parameters := [.char], returnType := some (.array .byte) }, accessFlags := 9, code := some k13c2 }
/-- java/lang/StringLatin1 -/
def k13 : Class := { plain "java/lang/StringLatin1" (some 0) with
  accessFlags := 48
  interfaces := #[]
  cf := some (fileOf pool13 14 #[.nestMembers #[390, 221]] #[{ accessFlags := 0, nameIndex := 7, descriptorIndex := 8, attributes := #[] }, { accessFlags := 9, nameIndex := 90, descriptorIndex := 105, attributes := #[] }, { accessFlags := 9, nameIndex := 380, descriptorIndex := 382, attributes := #[] }] 48 4 #[] #[{ accessFlags := 4120, nameIndex := 121, descriptorIndex := 122, attributes := #[] }])
  fields := #[{ name := "$assertionsDisabled", type := .boolean, accessFlags := 4120, slot := 0, constantValue := 0 }]
  methods := #[k13m0, k13m1, k13m2]
  instanceTypes := #[]
  staticTypes := #[.boolean]
  resolved := Array.replicate 395 none
  statics := none }

def pool14 : Array CpInfo := pool [(2, .class_ 4), (1, u "java/lang/Object"), (0, u "<init>"), (0, u "()V"), (17, .class_ 26), (1, u "jdk/internal/util/Preconditions"), (28, .class_ 56), (0, u "jdk/internal/util/Preconditions$4"), (57, .class_ 115), (0, u "jdk/internal/util/Preconditions$1"), (7, u "SIOOBE_FORMATTER"), (0, u "Ljava/util/function/BiFunction;"), (0, .class_ 126), (0, u "jdk/internal/util/Preconditions$2"), (3, u "AIOOBE_FORMATTER"), (0, .class_ 132), (0, u "jdk/internal/util/Preconditions$3"), (3, u "IOOBE_FORMATTER")] 57

def k14m0 : Method := { name := "<init>", desc := "()V", sig := { parameters := [], returnType := none }, accessFlags := 1, code := none }
/-- jdk/internal/util/Preconditions -/
def k14 : Class := { plain "jdk/internal/util/Preconditions" (some 0) with
  accessFlags := 33
  interfaces := #[]
  cf := some (fileOf pool14 24 #[.nestMembers #[55, 131, 125, 114]] #[{ accessFlags := 1, nameIndex := 5, descriptorIndex := 6, attributes := #[] }] 33 2 #[] #[{ accessFlags := 25, nameIndex := 123, descriptorIndex := 124, attributes := #[] }, { accessFlags := 25, nameIndex := 130, descriptorIndex := 124, attributes := #[] }, { accessFlags := 25, nameIndex := 136, descriptorIndex := 124, attributes := #[] }])
  fields := #[{ name := "SIOOBE_FORMATTER", type := (.object "java/util/function/BiFunction"), accessFlags := 25, slot := 0, constantValue := 0 }, { name := "AIOOBE_FORMATTER", type := (.object "java/util/function/BiFunction"), accessFlags := 25, slot := 1, constantValue := 0 }, { name := "IOOBE_FORMATTER", type := (.object "java/util/function/BiFunction"), accessFlags := 25, slot := 2, constantValue := 0 }]
  methods := #[k14m0]
  instanceTypes := #[]
  staticTypes := #[(.object "java/util/function/BiFunction"), (.object "java/util/function/BiFunction"), (.object "java/util/function/BiFunction")]
  resolved := Array.replicate 194 none
  statics := some 3 }

def pool15 : Array CpInfo := pool [(9, u "<init>"), (6, .class_ 18), (1, u "java/lang/Object"), (0, u "()V"), (1, .class_ 23), (1, u "jdk/internal/util/ArraysSupport"), (0, u "LOG2_ARRAY_LONG_INDEX_SCALE"), (0, u "I"), (2, u "U"), (0, u "Ljdk/internal/misc/Unsafe;"), (8, u "BIG_ENDIAN"), (0, u "Z"), (8, u "LOG2_BYTE_BIT_SIZE"), (4, u "LOG2_ARRAY_INT_INDEX_SCALE"), (54, u "JLA"), (0, u "Ljdk/internal/access/JavaLangAccess;"), (11, u "LOG2_ARRAY_BOOLEAN_INDEX_SCALE"), (9, u "LOG2_ARRAY_BYTE_INDEX_SCALE"), (5, u "LOG2_ARRAY_CHAR_INDEX_SCALE"), (5, u "LOG2_ARRAY_SHORT_INDEX_SCALE"), (18, u "LOG2_ARRAY_FLOAT_INDEX_SCALE"), (24, u "LOG2_ARRAY_DOUBLE_INDEX_SCALE"), (89, u "T_BOOLEAN"), (2, u "T_CHAR"), (1, u "T_FLOAT"), (1, u "T_DOUBLE"), (1, u "T_BYTE"), (1, u "T_SHORT"), (1, u "T_INT"), (1, u "T_LONG"), (1, u "SOFT_MAX_ARRAY_LENGTH")] 83

def k15m0 : Method := { name := "<init>", desc := "()V", sig := { parameters := [], returnType := none }, accessFlags := 2, code := none }
/-- jdk/internal/util/ArraysSupport -/
def k15 : Class := { plain "jdk/internal/util/ArraysSupport" (some 0) with
  accessFlags := 33
  interfaces := #[]
  cf := some (fileOf pool15 21 #[] #[{ accessFlags := 2, nameIndex := 9, descriptorIndex := 19, attributes := #[] }] 33 16 #[] #[{ accessFlags := 24, nameIndex := 28, descriptorIndex := 29, attributes := #[] }, { accessFlags := 26, nameIndex := 38, descriptorIndex := 39, attributes := #[] }, { accessFlags := 25, nameIndex := 121, descriptorIndex := 25, attributes := #[] }, { accessFlags := 25, nameIndex := 131, descriptorIndex := 25, attributes := #[] }, { accessFlags := 25, nameIndex := 137, descriptorIndex := 25, attributes := #[] }, { accessFlags := 25, nameIndex := 143, descriptorIndex := 25, attributes := #[] }, { accessFlags := 25, nameIndex := 53, descriptorIndex := 25, attributes := #[] }, { accessFlags := 25, nameIndex := 24, descriptorIndex := 25, attributes := #[] }, { accessFlags := 25, nameIndex := 162, descriptorIndex := 25, attributes := #[] }, { accessFlags := 25, nameIndex := 187, descriptorIndex := 25, attributes := #[] }, { accessFlags := 26, nameIndex := 48, descriptorIndex := 25, attributes := #[] }, { accessFlags := 25, nameIndex := 277, descriptorIndex := 25, attributes := #[] }, { accessFlags := 25, nameIndex := 280, descriptorIndex := 25, attributes := #[] }, { accessFlags := 25, nameIndex := 282, descriptorIndex := 25, attributes := #[] }, { accessFlags := 25, nameIndex := 284, descriptorIndex := 25, attributes := #[] }, { accessFlags := 25, nameIndex := 286, descriptorIndex := 25, attributes := #[] }, { accessFlags := 25, nameIndex := 288, descriptorIndex := 25, attributes := #[] }, { accessFlags := 25, nameIndex := 290, descriptorIndex := 25, attributes := #[] }, { accessFlags := 25, nameIndex := 292, descriptorIndex := 25, attributes := #[] }, { accessFlags := 26, nameIndex := 108, descriptorIndex := 109, attributes := #[] }, { accessFlags := 25, nameIndex := 294, descriptorIndex := 25, attributes := #[] }])
  fields := #[{ name := "U", type := (.object "jdk/internal/misc/Unsafe"), accessFlags := 24, slot := 0, constantValue := 0 }, { name := "BIG_ENDIAN", type := .boolean, accessFlags := 26, slot := 1, constantValue := 0 }, { name := "LOG2_ARRAY_BOOLEAN_INDEX_SCALE", type := .int, accessFlags := 25, slot := 2, constantValue := 0 }, { name := "LOG2_ARRAY_BYTE_INDEX_SCALE", type := .int, accessFlags := 25, slot := 3, constantValue := 0 }, { name := "LOG2_ARRAY_CHAR_INDEX_SCALE", type := .int, accessFlags := 25, slot := 4, constantValue := 0 }, { name := "LOG2_ARRAY_SHORT_INDEX_SCALE", type := .int, accessFlags := 25, slot := 5, constantValue := 0 }, { name := "LOG2_ARRAY_INT_INDEX_SCALE", type := .int, accessFlags := 25, slot := 6, constantValue := 0 }, { name := "LOG2_ARRAY_LONG_INDEX_SCALE", type := .int, accessFlags := 25, slot := 7, constantValue := 0 }, { name := "LOG2_ARRAY_FLOAT_INDEX_SCALE", type := .int, accessFlags := 25, slot := 8, constantValue := 0 }, { name := "LOG2_ARRAY_DOUBLE_INDEX_SCALE", type := .int, accessFlags := 25, slot := 9, constantValue := 0 }, { name := "LOG2_BYTE_BIT_SIZE", type := .int, accessFlags := 26, slot := 10, constantValue := 0 }, { name := "T_BOOLEAN", type := .int, accessFlags := 25, slot := 11, constantValue := 0 }, { name := "T_CHAR", type := .int, accessFlags := 25, slot := 12, constantValue := 0 }, { name := "T_FLOAT", type := .int, accessFlags := 25, slot := 13, constantValue := 0 }, { name := "T_DOUBLE", type := .int, accessFlags := 25, slot := 14, constantValue := 0 }, { name := "T_BYTE", type := .int, accessFlags := 25, slot := 15, constantValue := 0 }, { name := "T_SHORT", type := .int, accessFlags := 25, slot := 16, constantValue := 0 }, { name := "T_INT", type := .int, accessFlags := 25, slot := 17, constantValue := 0 }, { name := "T_LONG", type := .int, accessFlags := 25, slot := 18, constantValue := 0 }, { name := "JLA", type := (.object "jdk/internal/access/JavaLangAccess"), accessFlags := 26, slot := 19, constantValue := 0 }, { name := "SOFT_MAX_ARRAY_LENGTH", type := .int, accessFlags := 25, slot := 20, constantValue := 0 }]
  methods := #[k15m0]
  instanceTypes := #[]
  staticTypes := #[(.object "jdk/internal/misc/Unsafe"), .boolean, .int, .int, .int, .int, .int, .int, .int, .int, .int, .int, .int, .int, .int, .int, .int, .int, .int, (.object "jdk/internal/access/JavaLangAccess"), .int]
  resolved := Array.replicate 378 none
  statics := none }

def pool16 : Array CpInfo := pool [(1, u "java/lang/Cloneable"), (0, .class_ 1), (0, u "java/lang/Object"), (0, .class_ 3)] 3

/-- java/lang/Cloneable -/
def k16 : Class := { plain "java/lang/Cloneable" (some 0) with
  accessFlags := 1537
  interfaces := #[]
  cf := some (fileOf pool16 2 #[] #[] 1537 4 #[] #[])
  fields := #[]
  methods := #[]
  instanceTypes := #[]
  staticTypes := #[]
  resolved := Array.replicate 8 none
  statics := none }

/-- the primitive byte -/
def k17 : Class := { plain "byte" none with kind := .primitive 'B', accessFlags := 0x411 }
/-- [B -/
def k18 : Class := { plain "[B" (some 0) with kind := .array 17 .byte, interfaces := #[16, 5], accessFlags := 1041 }

/-- the primitive int -/
def k19 : Class := { plain "int" none with kind := .primitive 'I', accessFlags := 0x411 }
/-- [I -/
def k20 : Class := { plain "[I" (some 0) with kind := .array 19 .int, interfaces := #[16, 5], accessFlags := 1041 }

def heap : Heap := #[{ cls := 7, slots := #[.ref 4, .ref 5, .ref 6, .ref 7, .null], vm := .statics 7 },
  { cls := 8, slots := #[.ref 8, .ref 9, .ref 10, .ref 11, .ref 12, .ref 13, .ref 14, .ref 15, .ref 16, .ref 17, .ref 18, .ref 19, .ref 20, .null], vm := .statics 8 },
  { cls := 11, slots := #[.long 0, .int 1, .null, .int 0, .null, .int 0, .int 0], vm := .statics 11 },
  { cls := 14, slots := #[.null, .null, .null], vm := .statics 14 },
  { cls := 7, slots := #[.null, .int 0, .int 0, .int 65], vm := .none },
  { cls := 7, slots := #[.null, .int 1, .int 0, .int 65], vm := .none },
  { cls := 7, slots := #[.null, .int 2, .int 0, .int 65], vm := .none },
  { cls := 7, slots := #[.null, .int 3, .int 0, .int 65], vm := .none },
  { cls := 8, slots := #[.null, .int 0, .int 0, .int 65], vm := .none },
  { cls := 8, slots := #[.null, .int 1, .int 0, .int 65], vm := .none },
  { cls := 8, slots := #[.null, .int 2, .int 0, .int 65], vm := .none },
  { cls := 8, slots := #[.null, .int 3, .int 0, .int 65], vm := .none },
  { cls := 8, slots := #[.null, .int 4, .int 0, .int 65], vm := .none },
  { cls := 8, slots := #[.null, .int 5, .int 0, .int 65], vm := .none },
  { cls := 8, slots := #[.null, .int 6, .int 0, .int 65], vm := .none },
  { cls := 8, slots := #[.null, .int 7, .int 0, .int 65], vm := .none },
  { cls := 8, slots := #[.null, .int 8, .int 0, .int 65], vm := .none },
  { cls := 8, slots := #[.null, .int 9, .int 0, .int 65], vm := .none },
  { cls := 8, slots := #[.null, .int 10, .int 0, .int 65], vm := .none },
  { cls := 8, slots := #[.null, .int 11, .int 0, .int 65], vm := .none },
  { cls := 8, slots := #[.null, .int 12, .int 0, .int 65], vm := .none }]
def classes : Array Class := #[k0, k1, k2, k3, k4, k5, k6, k7, k8, k9, k10, k11, k12, k13, k14, k15, k16, k17, k18, k19, k20]
def interned : List (Array UInt16 × Addr) := []
def slotsUsed : Nat := 97
def theMethod : MethodId := ⟨1, 1⟩
def args0 : Array Value := #[.int 0, .int 3, .int 2, .int 1, .int 0, .int 3]
def aboutOver (below : List Frame) : State where
  vm := { classes := classes, interned := interned.toArray }
  heap := heap
  slotsUsed := slotsUsed
  threads := #[{ frames := .invoking theMethod args0 :: below }]
def below0 : List Frame := [.native { method := ⟨0, 0⟩, args := #[] }]
def about1 : State := aboutOver below0
def p0 : Program := .bare "" "" ""
def e0 : Env := launch0.env 0 0 0
theorem w_frames : about1.frames = Frame.invoking theMethod args0 :: below0 := rfl
set_option maxRecDepth 65536 in
theorem w_args : argsFit about1.vm theMethod args0 = true := by decide +kernel
set_option maxRecDepth 65536 in
theorem w_heap : heapFits about1 = true := by decide +kernel
set_option maxRecDepth 65536 in
theorem w_runnable : about1.curStatus? = some .runnable := by decide +kernel
set_option maxRecDepth 65536 in
theorem w_alone : about1.alone = true := by decide +kernel
set_option maxRecDepth 65536 in
theorem w_named : about1.methodNamed? x = some theMethod := by decide +kernel
set_option maxRecDepth 65536 in
theorem w_hears : about1.hears theMethod below0 = true := by decide +kernel
set_option maxRecDepth 65536 in
theorem w_ripe : about1.ripe theMethod args0 below0 = true := by decide +kernel
theorem w_running : about1.status = .running := rfl
set_option maxRecDepth 65536 in
theorem w_room : about1.hasRoom e0.platform room_1 = true :=
  launch0.hasRoom_least _ room_1 (by decide +kernel) (by decide +kernel) (by decide +kernel) (by decide +kernel) (by decide +kernel) (by decide +kernel)
theorem allAtoms_all (ts : List Jvm.Cond) (a : Array Jvm.Value) (st : Jvm.State) : (allAtoms ts).before a st = ts.all (fun c => c.before a st) := by
  induction ts with
  | nil => rfl
  | cons c t ih =>
    show (Jvm.Cond.and c (allAtoms t)).before a st = _
    rw [Jvm.Cond.before_and, ih, List.all_cons]
def words1 : List Jvm.Cond := Jvm.Cond.code x code maxLocals ret :: tables_1
/-- a 'code' word, met by the world's own term for the bytes: nothing is compared byte by byte -/
theorem code_word {y : MethodName} {bytes : ByteArray} {mx : Nat} {rt : Option FieldType} {a : Array Value} {s : State} {m : MethodId} {meth : Method} {c : Code} (h1 : s.methodNamed? y = some m) (h2 : s.vm.method? m = some meth) (h3 : meth.code = some c) (h4 : c.code = bytes)
    (h5 : (c.maxLocals == mx && c.exceptionTable.isEmpty && decide (c.maxStack ≤ mostOperands) && decide (meth.sig.returnType = rt) && !meth.locks && decide (parseMethodDescriptor y.desc = some meth.sig)) = true) : (Jvm.Cond.code y bytes mx rt).before a s = true := by
  simp only [Bool.and_eq_true, beq_iff_eq, Bool.not_eq_true', decide_eq_true_eq] at h5
  obtain ⟨⟨⟨⟨⟨g1, g2⟩, g3⟩, g4⟩, g5⟩, g6⟩ := h5
  simp [Cond.before, Cond.holds, Cond.value, h1, h2, h3, h4, g1, g2, g3, g4, g5, g6]
def isCode : Jvm.Cond → Bool
  | .code _ _ _ _ => true
  | _ => false
theorem all_split {L : List Jvm.Cond} {P : Jvm.Cond → Bool} (h1 : L.all (fun c => isCode c || P c) = true) (h2 : ∀ c ∈ L.filter isCode, P c = true) : L.all P = true := by
  refine List.all_eq_true.mpr fun c hc => ?_
  have h := List.all_eq_true.mp h1 c hc
  rcases Bool.eq_false_or_eq_true (isCode c) with hi | hi
  · exact h2 c (List.mem_filter.mpr ⟨hc, hi⟩)
  · simpa [hi] using h
set_option maxRecDepth 65536 in
theorem w_c0 : (Jvm.Cond.code x code maxLocals ret).before args0 about1 = true := code_word (m := ⟨1, 1⟩) (meth := k1m1) (c := k1c1) (by decide +kernel) rfl rfl rfl (by decide +kernel)
set_option maxRecDepth 65536 in
theorem w_c1 : (Jvm.Cond.code ({ cls := "com/example/ruffwork/ruffwork/CardEqualsPinLaw", name := "suit", desc := "(I)Lcom/example/ruffwork/ruffwork/Suit;" } : Jvm.MethodName) method_3_code (1 : Nat) (Option.some (Jvm.ClassFile.FieldType.object "com/example/ruffwork/ruffwork/Suit"))).before args0 about1 = true := code_word (m := ⟨1, 2⟩) (meth := k1m2) (c := k1c2) (by decide +kernel) rfl rfl rfl (by decide +kernel)
set_option maxRecDepth 65536 in
theorem w_c2 : (Jvm.Cond.code ({ cls := "com/example/ruffwork/ruffwork/CardEqualsPinLaw", name := "rank", desc := "(I)Lcom/example/ruffwork/ruffwork/Rank;" } : Jvm.MethodName) method_4_code (1 : Nat) (Option.some (Jvm.ClassFile.FieldType.object "com/example/ruffwork/ruffwork/Rank"))).before args0 about1 = true := code_word (m := ⟨1, 3⟩) (meth := k1m3) (c := k1c3) (by decide +kernel) rfl rfl rfl (by decide +kernel)
set_option maxRecDepth 65536 in
theorem w_c3 : (Jvm.Cond.code ({ cls := "com/example/ruffwork/ruffwork/Card", name := "<init>", desc := "(Lcom/example/ruffwork/ruffwork/Suit;Lcom/example/ruffwork/ruffwork/Rank;)V" } : Jvm.MethodName) prog_23_method_1_code (3 : Nat) (Option.none : Option Jvm.ClassFile.FieldType)).before args0 about1 = true := code_word (m := ⟨2, 0⟩) (meth := k2m0) (c := k2c0) (by decide +kernel) rfl rfl rfl (by decide +kernel)
set_option maxRecDepth 65536 in
theorem w_c4 : (Jvm.Cond.code ({ cls := "java/util/Objects", name := "requireNonNull", desc := "(Ljava/lang/Object;Ljava/lang/String;)Ljava/lang/Object;" } : Jvm.MethodName) jdk_31_method_11_code (2 : Nat) (Option.some (Jvm.ClassFile.FieldType.object "java/lang/Object"))).before args0 about1 = true := code_word (m := ⟨12, 1⟩) (meth := k12m1) (c := k12c1) (by decide +kernel) rfl rfl rfl (by decide +kernel)
set_option maxRecDepth 65536 in
theorem w_c5 : (Jvm.Cond.code ({ cls := "com/example/ruffwork/ruffwork/Card", name := "<init>", desc := "(Lcom/example/ruffwork/ruffwork/Suit;Lcom/example/ruffwork/ruffwork/Rank;Lcom/example/ruffwork/ruffwork/Joker;)V" } : Jvm.MethodName) prog_23_method_2_code (4 : Nat) (Option.none : Option Jvm.ClassFile.FieldType)).before args0 about1 = true := code_word (m := ⟨2, 1⟩) (meth := k2m1) (c := k2c1) (by decide +kernel) rfl rfl rfl (by decide +kernel)
set_option maxRecDepth 65536 in
theorem w_c6 : (Jvm.Cond.code ({ cls := "java/lang/Object", name := "<init>", desc := "()V" } : Jvm.MethodName) object_method_1_code (1 : Nat) (Option.none : Option Jvm.ClassFile.FieldType)).before args0 about1 = true := code_word (m := ⟨0, 0⟩) (meth := k0m0) (c := k0c0) (by decide +kernel) rfl rfl rfl (by decide +kernel)
set_option maxRecDepth 65536 in
theorem w_c7 : (Jvm.Cond.code ({ cls := "com/example/ruffwork/ruffwork/Card", name := "equals", desc := "(Ljava/lang/Object;)Z" } : Jvm.MethodName) prog_23_method_10_code (3 : Nat) (Option.some Jvm.ClassFile.FieldType.boolean)).before args0 about1 = true := code_word (m := ⟨2, 2⟩) (meth := k2m2) (c := k2c2) (by decide +kernel) rfl rfl rfl (by decide +kernel)
set_option maxRecDepth 65536 in
theorem w_c8 : (Jvm.Cond.code ({ cls := "java/lang/String", name := "valueOf", desc := "(C)Ljava/lang/String;" } : Jvm.MethodName) jdk_42_method_139_code (1 : Nat) (Option.some (Jvm.ClassFile.FieldType.object "java/lang/String"))).before args0 about1 = true := code_word (m := ⟨11, 1⟩) (meth := k11m1) (c := k11c1) (by decide +kernel) rfl rfl rfl (by decide +kernel)
set_option maxRecDepth 65536 in
theorem w_c9 : (Jvm.Cond.code ({ cls := "java/lang/StringLatin1", name := "canEncode", desc := "(C)Z" } : Jvm.MethodName) jdk_43_method_3_code (1 : Nat) (Option.some Jvm.ClassFile.FieldType.boolean)).before args0 about1 = true := code_word (m := ⟨13, 1⟩) (meth := k13m1) (c := k13c1) (by decide +kernel) rfl rfl rfl (by decide +kernel)
set_option maxRecDepth 65536 in
theorem w_c10 : (Jvm.Cond.code ({ cls := "java/lang/StringLatin1", name := "toBytes", desc := "(C)[B" } : Jvm.MethodName) jdk_43_method_46_code (1 : Nat) (Option.some (Jvm.ClassFile.FieldType.array Jvm.ClassFile.FieldType.byte))).before args0 about1 = true := code_word (m := ⟨13, 2⟩) (meth := k13m2) (c := k13c2) (by decide +kernel) rfl rfl rfl (by decide +kernel)
set_option maxRecDepth 65536 in
theorem w_c11 : (Jvm.Cond.code ({ cls := "java/lang/String", name := "<init>", desc := "([BB)V" } : Jvm.MethodName) jdk_42_method_151_code (3 : Nat) (Option.none : Option Jvm.ClassFile.FieldType)).before args0 about1 = true := code_word (m := ⟨11, 2⟩) (meth := k11m2) (c := k11c2) (by decide +kernel) rfl rfl rfl (by decide +kernel)
def codes1 : List Jvm.Cond := [Jvm.Cond.code x code maxLocals ret, Jvm.Cond.code ({ cls := "com/example/ruffwork/ruffwork/CardEqualsPinLaw", name := "suit", desc := "(I)Lcom/example/ruffwork/ruffwork/Suit;" } : Jvm.MethodName) method_3_code (1 : Nat) (Option.some (Jvm.ClassFile.FieldType.object "com/example/ruffwork/ruffwork/Suit")), Jvm.Cond.code ({ cls := "com/example/ruffwork/ruffwork/CardEqualsPinLaw", name := "rank", desc := "(I)Lcom/example/ruffwork/ruffwork/Rank;" } : Jvm.MethodName) method_4_code (1 : Nat) (Option.some (Jvm.ClassFile.FieldType.object "com/example/ruffwork/ruffwork/Rank")), Jvm.Cond.code ({ cls := "com/example/ruffwork/ruffwork/Card", name := "<init>", desc := "(Lcom/example/ruffwork/ruffwork/Suit;Lcom/example/ruffwork/ruffwork/Rank;)V" } : Jvm.MethodName) prog_23_method_1_code (3 : Nat) (Option.none : Option Jvm.ClassFile.FieldType), Jvm.Cond.code ({ cls := "java/util/Objects", name := "requireNonNull", desc := "(Ljava/lang/Object;Ljava/lang/String;)Ljava/lang/Object;" } : Jvm.MethodName) jdk_31_method_11_code (2 : Nat) (Option.some (Jvm.ClassFile.FieldType.object "java/lang/Object")), Jvm.Cond.code ({ cls := "com/example/ruffwork/ruffwork/Card", name := "<init>", desc := "(Lcom/example/ruffwork/ruffwork/Suit;Lcom/example/ruffwork/ruffwork/Rank;Lcom/example/ruffwork/ruffwork/Joker;)V" } : Jvm.MethodName) prog_23_method_2_code (4 : Nat) (Option.none : Option Jvm.ClassFile.FieldType), Jvm.Cond.code ({ cls := "java/lang/Object", name := "<init>", desc := "()V" } : Jvm.MethodName) object_method_1_code (1 : Nat) (Option.none : Option Jvm.ClassFile.FieldType), Jvm.Cond.code ({ cls := "com/example/ruffwork/ruffwork/Card", name := "equals", desc := "(Ljava/lang/Object;)Z" } : Jvm.MethodName) prog_23_method_10_code (3 : Nat) (Option.some Jvm.ClassFile.FieldType.boolean), Jvm.Cond.code ({ cls := "java/lang/String", name := "valueOf", desc := "(C)Ljava/lang/String;" } : Jvm.MethodName) jdk_42_method_139_code (1 : Nat) (Option.some (Jvm.ClassFile.FieldType.object "java/lang/String")), Jvm.Cond.code ({ cls := "java/lang/StringLatin1", name := "canEncode", desc := "(C)Z" } : Jvm.MethodName) jdk_43_method_3_code (1 : Nat) (Option.some Jvm.ClassFile.FieldType.boolean), Jvm.Cond.code ({ cls := "java/lang/StringLatin1", name := "toBytes", desc := "(C)[B" } : Jvm.MethodName) jdk_43_method_46_code (1 : Nat) (Option.some (Jvm.ClassFile.FieldType.array Jvm.ClassFile.FieldType.byte)), Jvm.Cond.code ({ cls := "java/lang/String", name := "<init>", desc := "([BB)V" } : Jvm.MethodName) jdk_42_method_151_code (3 : Nat) (Option.none : Option Jvm.ClassFile.FieldType)]
set_option maxRecDepth 65536 in
theorem codes_eq : words1.filter isCode = codes1 := rfl
theorem w_codes : ∀ c ∈ words1.filter isCode, c.before args0 about1 = true := by
  rw [codes_eq]
  intro c hc
  simp only [codes1, List.mem_cons, List.not_mem_nil, or_false] at hc
  rcases hc with rfl | rfl | rfl | rfl | rfl | rfl | rfl | rfl | rfl | rfl | rfl | rfl
  · exact w_c0
  · exact w_c1
  · exact w_c2
  · exact w_c3
  · exact w_c4
  · exact w_c5
  · exact w_c6
  · exact w_c7
  · exact w_c8
  · exact w_c9
  · exact w_c10
  · exact w_c11
set_option maxRecDepth 65536 in
theorem w_t1 : (words1.take 24).all (fun c => isCode c || c.before args0 about1) = true := by decide +kernel
set_option maxRecDepth 65536 in
theorem w_t2 : ((words1.drop 24).take 24).all (fun c => isCode c || c.before args0 about1) = true := by decide +kernel
set_option maxRecDepth 65536 in
theorem w_t3 : (((words1.drop 24).drop 24).take 24).all (fun c => isCode c || c.before args0 about1) = true := by decide +kernel
set_option maxRecDepth 65536 in
theorem w_t4 : ((((words1.drop 24).drop 24).drop 24).take 24).all (fun c => isCode c || c.before args0 about1) = true := by decide +kernel
set_option maxRecDepth 65536 in
theorem w_t5 : ((((words1.drop 24).drop 24).drop 24).drop 24).all (fun c => isCode c || c.before args0 about1) = true := by decide +kernel
theorem w_tables : (allAtoms (Jvm.Cond.code x code maxLocals ret :: tables_1)).before args0 about1 = true := by
  rw [allAtoms_all]
  show words1.all (fun c => c.before args0 about1) = true
  refine all_split ?_ w_codes
  rw [← List.take_append_drop 24 words1, List.all_append, w_t1, ← List.take_append_drop 24 (words1.drop 24), List.all_append, w_t2, ← List.take_append_drop 24 ((words1.drop 24).drop 24), List.all_append, w_t3, ← List.take_append_drop 24 (((words1.drop 24).drop 24).drop 24), List.all_append, w_t4, w_t5]
  rfl
set_option maxRecDepth 65536 in
theorem w_rest : rest_1_c.before args0 about1 = true := by decide +kernel
set_option maxRecDepth 65536 in
theorem w_case : (Jvm.Cond.and given_1 narrow_1).before args0 about1 = true := by decide +kernel
theorem w_applies : (headSpec (Jvm.Cond.code x code maxLocals ret :: tables_1) room_1).applies x e0.platform about1 = true :=
  (Spec.applies_iff w_frames).mpr ⟨w_running, w_runnable, w_alone, w_named, w_hears, w_ripe, w_room, w_tables⟩
theorem atStart : AtStart classFile x code maxLocals ret World_1 tables_1 room_1 Calls_1 rest_1 Pre_1 launch0 p0 e0 about1 theMethod args0 below0 :=
  ⟨lists_1, trivial, launch0.admits_env _ _ _, launch0.least_env, fairChoices_fair.cas, fairChoices_fair.clock, w_frames, w_args, w_heap, w_applies, trivial, w_rest, w_case⟩
end start1
theorem witness_1 : WitnessClaimed_1 := ⟨start1.p0, start1.e0, start1.about1, start1.theMethod, start1.args0, start1.below0, start1.atStart⟩
end Jvm.Pilot.@@N@@
