import JvmDerived
import JvmDerived.Pilot.@@N@@Statement
import JvmDerived.Pilot.@@N@@Code
set_option linter.unusedVariables false
set_option linter.unusedSimpArgs false
namespace Jvm.RoadKit
open Sem ClassFile Op Lib Jvm.Stand Jvm.Free Jvm.LawKit
section New
variable {p : Program} {l : Launch} {e : Env} {R : Room} {s : State} {m : MethodId} {args : Array Value} {below : List Frame} {meth : Method} {c : Code} {T : State} {locs : List Loc} {cells slots : Nat}
theorem retI (X : Stand p l e R s m args below meth c T locs cells slots) (hx : p.tables.exec = Jvm.exec) {pc : Nat} {Ls : Array Slot} {z : Int32} {rest : List Value} (hret : meth.sig.returnType = some .int) (hd : decode c.code pc = .ok (.ireturn, 1)) {fs : List Frame}
    (hl : ∀ (f : JFrame) (acts : List Action), f.method = m → f.locked = none → f.entered = [] → (doReturn e (T.setTop f) acts (some (.int z))).1 = T.setFrames fs) : Steps p.tables e below (T.setTop (mkF m pc Ls (.int z :: rest))) (T.setFrames fs) :=
  retOut X hx hret rfl (Or.inl ⟨rfl, Or.inl rfl, _, rfl⟩) hd hl
end New
end Jvm.RoadKit
namespace Jvm.Pilot.@@N@@
open Jvm Jvm.ClassFile Sem Op Lib Jvm.Free Jvm.Stand Jvm.LawKit Jvm.RoadKit Bundle Jvm.Pilot.@@N@@.Jvm.D
theorem d1_0 : decode prog_15_method_5_code 0 = .ok (.aload_n 0, 1) := by decide +kernel
theorem d1_1 : decode prog_15_method_5_code 1 = .ok (.getfield 35, 3) := by decide +kernel
theorem d1_4 : decode prog_15_method_5_code 4 = .ok (.ifCond .eq 10, 3) := by decide +kernel
theorem d1_14 : decode prog_15_method_5_code 14 = .ok (.lconst 0, 1) := by decide +kernel
theorem d1_15 : decode prog_15_method_5_code 15 = .ok (.aload_n 0, 1) := by decide +kernel
theorem d1_16 : decode prog_15_method_5_code 16 = .ok (.getfield 39, 3) := by decide +kernel
theorem d1_19 : decode prog_15_method_5_code 19 = .ok (.ifCond .eq 8, 3) := by decide +kernel
theorem d1_27 : decode prog_15_method_5_code 27 = .ok (.lconst 0, 1) := by decide +kernel
theorem d1_28 : decode prog_15_method_5_code 28 = .ok (.ladd, 1) := by decide +kernel
theorem d1_29 : decode prog_15_method_5_code 29 = .ok (.aload_n 0, 1) := by decide +kernel
theorem d1_30 : decode prog_15_method_5_code 30 = .ok (.getfield 42, 3) := by decide +kernel
theorem d1_33 : decode prog_15_method_5_code 33 = .ok (.ifCond .eq 10, 3) := by decide +kernel
theorem d1_43 : decode prog_15_method_5_code 43 = .ok (.lconst 0, 1) := by decide +kernel
theorem d1_44 : decode prog_15_method_5_code 44 = .ok (.ladd, 1) := by decide +kernel
theorem d1_45 : decode prog_15_method_5_code 45 = .ok (.lreturn, 1) := by decide +kernel
theorem d1_36 : decode prog_15_method_5_code 36 = .ok (.lload_n 3, 1) := by decide +kernel
theorem d1_37 : decode prog_15_method_5_code 37 = .ok (.lload 5, 2) := by decide +kernel
theorem d1_39 : decode prog_15_method_5_code 39 = .ok (.lsub, 1) := by decide +kernel
theorem d1_40 : decode prog_15_method_5_code 40 = .ok (.goto 4, 3) := by decide +kernel
theorem d1_22 : decode prog_15_method_5_code 22 = .ok (.lload 5, 2) := by decide +kernel
theorem d1_24 : decode prog_15_method_5_code 24 = .ok (.goto 4, 3) := by decide +kernel
theorem d1_7 : decode prog_15_method_5_code 7 = .ok (.lload_n 1, 1) := by decide +kernel
theorem d1_8 : decode prog_15_method_5_code 8 = .ok (.lload 5, 2) := by decide +kernel
theorem d1_10 : decode prog_15_method_5_code 10 = .ok (.lsub, 1) := by decide +kernel
theorem d1_11 : decode prog_15_method_5_code 11 = .ok (.goto 4, 3) := by decide +kernel
theorem pn_0 : plainName "com/example/bitgrove/bitgrove/Combination" = true := by first | (simp [plainName, overriddenIn]; done) | decide +kernel
theorem ef_rm1 (m : MethodId) (x0 : Addr) (x1 : Int64) (x2 : Int64) (x3 : Int64) : entryFrame m #[(.ref x0), (.long x1), (.long x2), (.long x3)] 7 = mkF m 0 #[.val (.ref x0), .val (.long x1), .second, .val (.long x2), .second, .val (.long x3), .second] [] := by first | (simp [entryFrame, mkF, argsToLocals, Value.category]; done) | rfl
def cardF (pf : Int64) (ps : Int64) (ph : Int64) (b0 : Int32) (b1 : Int32) (b2 : Int32) : Int64 :=
  if b0 = (0 : Int32) then (if b1 = (0 : Int32) then (if b2 = (0 : Int32) then (0 : Int64)
      else ((0 : Int64) + (ps - ph)))
    else if b2 = (0 : Int32) then (((0 : Int64) + ph) + (0 : Int64))
      else (((0 : Int64) + ph) + (ps - ph)))
  else if b1 = (0 : Int32) then (if b2 = (0 : Int32) then (((pf - ph) + (0 : Int64)) + (0 : Int64))
      else (((pf - ph) + (0 : Int64)) + (ps - ph)))
    else if b2 = (0 : Int32) then (((pf - ph) + ph) + (0 : Int64))
      else (((pf - ph) + ph) + (ps - ph))
def Q1 (Z : State) (pc_ : Addr) (pf : Int64) (ps : Int64) (ph : Int64) (b0 : Int32) (b1 : Int32) (b2 : Int32) (h0 : Heap) (n0 : Nat) (v : Option Value) (h : Heap) (L : List Loc) : Prop := v = some (.long (cardF pf ps ph b0 b1 b2)) ∧ Fr n0 L ∧ h = h0
set_option maxRecDepth 65536 in
set_option maxHeartbeats 40000000 in
theorem rm1 (l : Launch) (Z : State) (a0 : Array Value) (hw : ∀ d ∈ tables_1, d.before a0 Z = true) (ws : List Jvm.Cond) (pc_ : Addr) (pf : Int64) (ps : Int64) (ph : Int64) (b0 : Int32) (b1 : Int32) (b2 : Int32) (h0 : Heap) (n0 : Nat) (Z0 : n0 ≤ h0.size) (F0 : Fld Z h0 pc_ "com/example/bitgrove/bitgrove/Combination" "keepsFirstOnly" "Z" (.int b0)) (F1 : Fld Z h0 pc_ "com/example/bitgrove/bitgrove/Combination" "keepsBoth" "Z" (.int b1)) (F2 : Fld Z h0 pc_ "com/example/bitgrove/bitgrove/Combination" "keepsSecondOnly" "Z" (.int b2)) :
    MetFree l (⟨"com/example/bitgrove/bitgrove/Combination", "cardinality", "(JJJ)J"⟩ : MethodName) (head1 (Jvm.Cond.code (⟨"com/example/bitgrove/bitgrove/Combination", "cardinality", "(JJJ)J"⟩ : MethodName) prog_15_method_5_code 7 (some .long) :: ws) ({ frames := 0, cells := 0, slots := 0, locals := 0 } : Room)) (fun a U => a = #[(.ref pc_), (.long pf), (.long ps), (.long ph)] ∧ Z.Warmed39 U.vm ∧ U.heap = h0) (fun _ _ _ _ _ => True) (fun _ U o U' => ∃ v L, o = .returned v ∧ Q1 Z pc_ pf ps ph b0 b1 b2 h0 n0 v U'.heap L ∧ FrameEnd U o U' L ({ frames := 0, cells := 0, slots := 0, locals := 0 } : Room).cells ({ frames := 0, cells := 0, slots := 0, locals := 0 } : Room).slots) := by
  refine MetFree.of_bodySF (plainFor_of_name pn_0) hisR ?_
  intro p e s m args below meth c s₁ Bd hml0 hP hK
  obtain ⟨rfl, hZ, hh⟩ := hP
  have hx := Bd.exec
  have hby := Bd.bytes
  have hml : c.maxLocals = 7 := hml0
  have hown : s.vm.findClass "com/example/bitgrove/bitgrove/Combination" = some m.cls := findClass_of_methodNamed Bd.named
  have hnm := (name_of_methodNamed Bd.named Bd.method).1
  have X0 : Stand p l e ({ frames := 0, cells := 0, slots := 0, locals := 0 } : Room) s m #[(.ref pc_), (.long pf), (.long ps), (.long ph)] below meth c s₁ [] 0 0 := Stand.of_body Bd
  have e0 : s₁.heap = h0 := by rw [← hh, Bd.state]; rfl
  have N0 := Fr.nil n0
  have pre0 : ∀ t, Steps p.tables e below (s₁.setTop (mkF m 0 #[.val (.ref pc_), .val (.long pf), .second, .val (.long ps), .second, .val (.long ph), .second] [])) t → Steps p.tables e below (s₁.setTop (entryFrame m #[(.ref pc_), (.long pf), (.long ps), (.long ph)] 7)) t := fun t k => castTop (ef_rm1 m pc_ pf ps ph) k
  obtain ⟨T1, X1, e1, st1⟩ := getF X0 hx hZ hown (host := "") (Or.inl (hw _ (List.mem_of_getElem? (i := 8) rfl))) Via.refl e0 F0 (g := (mkF m 1 #[.val (.ref pc_), .val (.long pf), .second, .val (.long ps), .second, .val (.long ph), .second] [(.ref pc_)])) rfl rfl (hb hby d1_1)
  have pre2 : ∀ t, Steps p.tables e below (T1.setTop (mkF m 4 #[.val (.ref pc_), .val (.long pf), .second, .val (.long ps), .second, .val (.long ph), .second] [(.int b0)])) t → Steps p.tables e below (s₁.setTop (entryFrame m #[(.ref pc_), (.long pf), (.long ps), (.long ph)] 7)) t := by
    intro t kt
    refine pre0 t ?_
    show Steps p.tables e below (s₁.setTop (mkF m 0 #[.val (.ref pc_), .val (.long pf), .second, .val (.long ps), .second, .val (.long ph), .second] [])) _
    refine XS.aloadN X0.here hx rfl (hb hby d1_0) rfl rfl ?_
    show Steps p.tables e below (s₁.setTop (mkF m 1 #[.val (.ref pc_), .val (.long pf), .second, .val (.long ps), .second, .val (.long ph), .second] [(.ref pc_)])) _
    refine st1 _ ?_
    show Steps p.tables e below (T1.setTop (mkF m 4 #[.val (.ref pc_), .val (.long pf), .second, .val (.long ps), .second, .val (.long ph), .second] [(.int b0)])) _
    exact kt
  by_cases hc4_3 : b0 = (0 : Int32)
  · obtain ⟨T4, X4, e4, st4⟩ := getF X1 hx hZ hown (host := "") (Or.inl (hw _ (List.mem_of_getElem? (i := 10) rfl))) Via.refl e1 F1 (g := (mkF m 16 #[.val (.ref pc_), .val (.long pf), .second, .val (.long ps), .second, .val (.long ph), .second] [(.ref pc_), (.long (0 : Int64))])) rfl rfl (hb hby d1_16)
    have pre5 : ∀ t, Steps p.tables e below (T4.setTop (mkF m 19 #[.val (.ref pc_), .val (.long pf), .second, .val (.long ps), .second, .val (.long ph), .second] [(.int b1), (.long (0 : Int64))])) t → Steps p.tables e below (s₁.setTop (entryFrame m #[(.ref pc_), (.long pf), (.long ps), (.long ph)] 7)) t := by
      intro t kt
      refine pre2 t ?_
      show Steps p.tables e below (T1.setTop (mkF m 4 #[.val (.ref pc_), .val (.long pf), .second, .val (.long ps), .second, .val (.long ph), .second] [(.int b0)])) _
      refine XS.ifYes X1.here hx rfl (pc0 := 4) (pc' := 14) rfl (hb hby d1_4) rfl ((if0 _ _).trans (teq hc4_3).1) (by decide) (by decide) ?_
      show Steps p.tables e below (T1.setTop (mkF m 14 #[.val (.ref pc_), .val (.long pf), .second, .val (.long ps), .second, .val (.long ph), .second] [])) _
      refine XS.lconst X1.here hx rfl (hb hby d1_14) ?_
      show Steps p.tables e below (T1.setTop (mkF m 15 #[.val (.ref pc_), .val (.long pf), .second, .val (.long ps), .second, .val (.long ph), .second] [(.long (0 : Int64))])) _
      refine XS.aloadN X1.here hx rfl (hb hby d1_15) rfl rfl ?_
      show Steps p.tables e below (T1.setTop (mkF m 16 #[.val (.ref pc_), .val (.long pf), .second, .val (.long ps), .second, .val (.long ph), .second] [(.ref pc_), (.long (0 : Int64))])) _
      refine st4 _ ?_
      show Steps p.tables e below (T4.setTop (mkF m 19 #[.val (.ref pc_), .val (.long pf), .second, .val (.long ps), .second, .val (.long ph), .second] [(.int b1), (.long (0 : Int64))])) _
      exact kt
    by_cases hc19_6 : b1 = (0 : Int32)
    · obtain ⟨T7, X7, e7, st7⟩ := getF X4 hx hZ hown (host := "") (Or.inl (hw _ (List.mem_of_getElem? (i := 12) rfl))) Via.refl e4 F2 (g := (mkF m 30 #[.val (.ref pc_), .val (.long pf), .second, .val (.long ps), .second, .val (.long ph), .second] [(.ref pc_), (.long (0 : Int64))])) rfl rfl (hb hby d1_30)
      have pre8 : ∀ t, Steps p.tables e below (T7.setTop (mkF m 33 #[.val (.ref pc_), .val (.long pf), .second, .val (.long ps), .second, .val (.long ph), .second] [(.int b2), (.long (0 : Int64))])) t → Steps p.tables e below (s₁.setTop (entryFrame m #[(.ref pc_), (.long pf), (.long ps), (.long ph)] 7)) t := by
        intro t kt
        refine pre5 t ?_
        show Steps p.tables e below (T4.setTop (mkF m 19 #[.val (.ref pc_), .val (.long pf), .second, .val (.long ps), .second, .val (.long ph), .second] [(.int b1), (.long (0 : Int64))])) _
        refine XS.ifYes X4.here hx rfl (pc0 := 19) (pc' := 27) rfl (hb hby d1_19) rfl ((if0 _ _).trans (teq hc19_6).1) (by decide) (by decide) ?_
        show Steps p.tables e below (T4.setTop (mkF m 27 #[.val (.ref pc_), .val (.long pf), .second, .val (.long ps), .second, .val (.long ph), .second] [(.long (0 : Int64))])) _
        refine XS.lconst X4.here hx rfl (hb hby d1_27) ?_
        show Steps p.tables e below (T4.setTop (mkF m 28 #[.val (.ref pc_), .val (.long pf), .second, .val (.long ps), .second, .val (.long ph), .second] [(.long (0 : Int64)), (.long (0 : Int64))])) _
        refine XS.ladd X4.here hx rfl (hb hby d1_28) rfl ?_
        show Steps p.tables e below (T4.setTop (mkF m 29 #[.val (.ref pc_), .val (.long pf), .second, .val (.long ps), .second, .val (.long ph), .second] [(.long (0 : Int64))])) _
        refine XS.aloadN X4.here hx rfl (hb hby d1_29) rfl rfl ?_
        show Steps p.tables e below (T4.setTop (mkF m 30 #[.val (.ref pc_), .val (.long pf), .second, .val (.long ps), .second, .val (.long ph), .second] [(.ref pc_), (.long (0 : Int64))])) _
        refine st7 _ ?_
        show Steps p.tables e below (T7.setTop (mkF m 33 #[.val (.ref pc_), .val (.long pf), .second, .val (.long ps), .second, .val (.long ph), .second] [(.int b2), (.long (0 : Int64))])) _
        exact kt
      by_cases hc33_9 : b2 = (0 : Int32)
      · obtain ⟨fs, hr, hrun, hended, hW, hsame⟩ := X7.leave (v := some (.long (0 : Int64))) (fun h => by rw [Bd.returns] at h; cases h)
        refine ⟨_, _, pre8 _ ?_, hrun, hended, _, _, rfl, ?_, ⟨_, rfl⟩, hW, hsame.mono (by decide) (by decide)⟩
        · show Steps p.tables e below (T7.setTop (mkF m 33 #[.val (.ref pc_), .val (.long pf), .second, .val (.long ps), .second, .val (.long ph), .second] [(.int b2), (.long (0 : Int64))])) _
          refine XS.ifYes X7.here hx rfl (pc0 := 33) (pc' := 43) rfl (hb hby d1_33) rfl ((if0 _ _).trans (teq hc33_9).1) (by decide) (by decide) ?_
          show Steps p.tables e below (T7.setTop (mkF m 43 #[.val (.ref pc_), .val (.long pf), .second, .val (.long ps), .second, .val (.long ph), .second] [(.long (0 : Int64))])) _
          refine XS.lconst X7.here hx rfl (hb hby d1_43) ?_
          show Steps p.tables e below (T7.setTop (mkF m 44 #[.val (.ref pc_), .val (.long pf), .second, .val (.long ps), .second, .val (.long ph), .second] [(.long (0 : Int64)), (.long (0 : Int64))])) _
          refine XS.ladd X7.here hx rfl (hb hby d1_44) rfl ?_
          show Steps p.tables e below (T7.setTop (mkF m 45 #[.val (.ref pc_), .val (.long pf), .second, .val (.long ps), .second, .val (.long ph), .second] [(.long (0 : Int64))])) _
          exact retOut X7 hx Bd.returns rfl (Or.inr (Or.inl ⟨rfl, rfl, _, rfl⟩)) (hb hby d1_45) hr
        · show Q1 Z pc_ pf ps ph b0 b1 b2 h0 n0 _ T7.heap _
          rw [e7]
          refine ⟨?_, N0, rfl⟩
          show (some (.long (0 : Int64)) : Option Value) = some (.long (cardF pf ps ph b0 b1 b2))
          rw [show (cardF pf ps ph b0 b1 b2) = (0 : Int64) from by unfold cardF; rw [if_pos hc4_3, if_pos hc19_6, if_pos hc33_9]]
      · obtain ⟨fs, hr, hrun, hended, hW, hsame⟩ := X7.leave (v := some (.long ((0 : Int64) + (ps - ph)))) (fun h => by rw [Bd.returns] at h; cases h)
        refine ⟨_, _, pre8 _ ?_, hrun, hended, _, _, rfl, ?_, ⟨_, rfl⟩, hW, hsame.mono (by decide) (by decide)⟩
        · show Steps p.tables e below (T7.setTop (mkF m 33 #[.val (.ref pc_), .val (.long pf), .second, .val (.long ps), .second, .val (.long ph), .second] [(.int b2), (.long (0 : Int64))])) _
          refine XS.ifNo X7.here hx rfl (hb hby d1_33) rfl ((if0 _ _).trans (feq hc33_9).1) ?_
          show Steps p.tables e below (T7.setTop (mkF m 36 #[.val (.ref pc_), .val (.long pf), .second, .val (.long ps), .second, .val (.long ph), .second] [(.long (0 : Int64))])) _
          refine XS.lloadN X7.here hx rfl (hb hby d1_36) rfl ?_
          show Steps p.tables e below (T7.setTop (mkF m 37 #[.val (.ref pc_), .val (.long pf), .second, .val (.long ps), .second, .val (.long ph), .second] [(.long ps), (.long (0 : Int64))])) _
          refine XS.lload X7.here hx rfl (hb hby d1_37) rfl ?_
          show Steps p.tables e below (T7.setTop (mkF m 39 #[.val (.ref pc_), .val (.long pf), .second, .val (.long ps), .second, .val (.long ph), .second] [(.long ph), (.long ps), (.long (0 : Int64))])) _
          refine XS.lsub X7.here hx rfl (hb hby d1_39) rfl ?_
          show Steps p.tables e below (T7.setTop (mkF m 40 #[.val (.ref pc_), .val (.long pf), .second, .val (.long ps), .second, .val (.long ph), .second] [(.long (ps - ph)), (.long (0 : Int64))])) _
          refine XS.goto X7.here hx rfl (pc0 := 40) (pc' := 44) rfl (hb hby d1_40) (by decide) (by decide) ?_
          show Steps p.tables e below (T7.setTop (mkF m 44 #[.val (.ref pc_), .val (.long pf), .second, .val (.long ps), .second, .val (.long ph), .second] [(.long (ps - ph)), (.long (0 : Int64))])) _
          refine XS.ladd X7.here hx rfl (hb hby d1_44) rfl ?_
          show Steps p.tables e below (T7.setTop (mkF m 45 #[.val (.ref pc_), .val (.long pf), .second, .val (.long ps), .second, .val (.long ph), .second] [(.long ((0 : Int64) + (ps - ph)))])) _
          exact retOut X7 hx Bd.returns rfl (Or.inr (Or.inl ⟨rfl, rfl, _, rfl⟩)) (hb hby d1_45) hr
        · show Q1 Z pc_ pf ps ph b0 b1 b2 h0 n0 _ T7.heap _
          rw [e7]
          refine ⟨?_, N0, rfl⟩
          show (some (.long ((0 : Int64) + (ps - ph))) : Option Value) = some (.long (cardF pf ps ph b0 b1 b2))
          rw [show (cardF pf ps ph b0 b1 b2) = ((0 : Int64) + (ps - ph)) from by unfold cardF; rw [if_pos hc4_3, if_pos hc19_6, if_neg hc33_9]]
    · obtain ⟨T12, X12, e12, st12⟩ := getF X4 hx hZ hown (host := "") (Or.inl (hw _ (List.mem_of_getElem? (i := 12) rfl))) Via.refl e4 F2 (g := (mkF m 30 #[.val (.ref pc_), .val (.long pf), .second, .val (.long ps), .second, .val (.long ph), .second] [(.ref pc_), (.long ((0 : Int64) + ph))])) rfl rfl (hb hby d1_30)
      have pre13 : ∀ t, Steps p.tables e below (T12.setTop (mkF m 33 #[.val (.ref pc_), .val (.long pf), .second, .val (.long ps), .second, .val (.long ph), .second] [(.int b2), (.long ((0 : Int64) + ph))])) t → Steps p.tables e below (s₁.setTop (entryFrame m #[(.ref pc_), (.long pf), (.long ps), (.long ph)] 7)) t := by
        intro t kt
        refine pre5 t ?_
        show Steps p.tables e below (T4.setTop (mkF m 19 #[.val (.ref pc_), .val (.long pf), .second, .val (.long ps), .second, .val (.long ph), .second] [(.int b1), (.long (0 : Int64))])) _
        refine XS.ifNo X4.here hx rfl (hb hby d1_19) rfl ((if0 _ _).trans (feq hc19_6).1) ?_
        show Steps p.tables e below (T4.setTop (mkF m 22 #[.val (.ref pc_), .val (.long pf), .second, .val (.long ps), .second, .val (.long ph), .second] [(.long (0 : Int64))])) _
        refine XS.lload X4.here hx rfl (hb hby d1_22) rfl ?_
        show Steps p.tables e below (T4.setTop (mkF m 24 #[.val (.ref pc_), .val (.long pf), .second, .val (.long ps), .second, .val (.long ph), .second] [(.long ph), (.long (0 : Int64))])) _
        refine XS.goto X4.here hx rfl (pc0 := 24) (pc' := 28) rfl (hb hby d1_24) (by decide) (by decide) ?_
        show Steps p.tables e below (T4.setTop (mkF m 28 #[.val (.ref pc_), .val (.long pf), .second, .val (.long ps), .second, .val (.long ph), .second] [(.long ph), (.long (0 : Int64))])) _
        refine XS.ladd X4.here hx rfl (hb hby d1_28) rfl ?_
        show Steps p.tables e below (T4.setTop (mkF m 29 #[.val (.ref pc_), .val (.long pf), .second, .val (.long ps), .second, .val (.long ph), .second] [(.long ((0 : Int64) + ph))])) _
        refine XS.aloadN X4.here hx rfl (hb hby d1_29) rfl rfl ?_
        show Steps p.tables e below (T4.setTop (mkF m 30 #[.val (.ref pc_), .val (.long pf), .second, .val (.long ps), .second, .val (.long ph), .second] [(.ref pc_), (.long ((0 : Int64) + ph))])) _
        refine st12 _ ?_
        show Steps p.tables e below (T12.setTop (mkF m 33 #[.val (.ref pc_), .val (.long pf), .second, .val (.long ps), .second, .val (.long ph), .second] [(.int b2), (.long ((0 : Int64) + ph))])) _
        exact kt
      by_cases hc33_14 : b2 = (0 : Int32)
      · obtain ⟨fs, hr, hrun, hended, hW, hsame⟩ := X12.leave (v := some (.long (((0 : Int64) + ph) + (0 : Int64)))) (fun h => by rw [Bd.returns] at h; cases h)
        refine ⟨_, _, pre13 _ ?_, hrun, hended, _, _, rfl, ?_, ⟨_, rfl⟩, hW, hsame.mono (by decide) (by decide)⟩
        · show Steps p.tables e below (T12.setTop (mkF m 33 #[.val (.ref pc_), .val (.long pf), .second, .val (.long ps), .second, .val (.long ph), .second] [(.int b2), (.long ((0 : Int64) + ph))])) _
          refine XS.ifYes X12.here hx rfl (pc0 := 33) (pc' := 43) rfl (hb hby d1_33) rfl ((if0 _ _).trans (teq hc33_14).1) (by decide) (by decide) ?_
          show Steps p.tables e below (T12.setTop (mkF m 43 #[.val (.ref pc_), .val (.long pf), .second, .val (.long ps), .second, .val (.long ph), .second] [(.long ((0 : Int64) + ph))])) _
          refine XS.lconst X12.here hx rfl (hb hby d1_43) ?_
          show Steps p.tables e below (T12.setTop (mkF m 44 #[.val (.ref pc_), .val (.long pf), .second, .val (.long ps), .second, .val (.long ph), .second] [(.long (0 : Int64)), (.long ((0 : Int64) + ph))])) _
          refine XS.ladd X12.here hx rfl (hb hby d1_44) rfl ?_
          show Steps p.tables e below (T12.setTop (mkF m 45 #[.val (.ref pc_), .val (.long pf), .second, .val (.long ps), .second, .val (.long ph), .second] [(.long (((0 : Int64) + ph) + (0 : Int64)))])) _
          exact retOut X12 hx Bd.returns rfl (Or.inr (Or.inl ⟨rfl, rfl, _, rfl⟩)) (hb hby d1_45) hr
        · show Q1 Z pc_ pf ps ph b0 b1 b2 h0 n0 _ T12.heap _
          rw [e12]
          refine ⟨?_, N0, rfl⟩
          show (some (.long (((0 : Int64) + ph) + (0 : Int64))) : Option Value) = some (.long (cardF pf ps ph b0 b1 b2))
          rw [show (cardF pf ps ph b0 b1 b2) = (((0 : Int64) + ph) + (0 : Int64)) from by unfold cardF; rw [if_pos hc4_3, if_neg hc19_6, if_pos hc33_14]]
      · obtain ⟨fs, hr, hrun, hended, hW, hsame⟩ := X12.leave (v := some (.long (((0 : Int64) + ph) + (ps - ph)))) (fun h => by rw [Bd.returns] at h; cases h)
        refine ⟨_, _, pre13 _ ?_, hrun, hended, _, _, rfl, ?_, ⟨_, rfl⟩, hW, hsame.mono (by decide) (by decide)⟩
        · show Steps p.tables e below (T12.setTop (mkF m 33 #[.val (.ref pc_), .val (.long pf), .second, .val (.long ps), .second, .val (.long ph), .second] [(.int b2), (.long ((0 : Int64) + ph))])) _
          refine XS.ifNo X12.here hx rfl (hb hby d1_33) rfl ((if0 _ _).trans (feq hc33_14).1) ?_
          show Steps p.tables e below (T12.setTop (mkF m 36 #[.val (.ref pc_), .val (.long pf), .second, .val (.long ps), .second, .val (.long ph), .second] [(.long ((0 : Int64) + ph))])) _
          refine XS.lloadN X12.here hx rfl (hb hby d1_36) rfl ?_
          show Steps p.tables e below (T12.setTop (mkF m 37 #[.val (.ref pc_), .val (.long pf), .second, .val (.long ps), .second, .val (.long ph), .second] [(.long ps), (.long ((0 : Int64) + ph))])) _
          refine XS.lload X12.here hx rfl (hb hby d1_37) rfl ?_
          show Steps p.tables e below (T12.setTop (mkF m 39 #[.val (.ref pc_), .val (.long pf), .second, .val (.long ps), .second, .val (.long ph), .second] [(.long ph), (.long ps), (.long ((0 : Int64) + ph))])) _
          refine XS.lsub X12.here hx rfl (hb hby d1_39) rfl ?_
          show Steps p.tables e below (T12.setTop (mkF m 40 #[.val (.ref pc_), .val (.long pf), .second, .val (.long ps), .second, .val (.long ph), .second] [(.long (ps - ph)), (.long ((0 : Int64) + ph))])) _
          refine XS.goto X12.here hx rfl (pc0 := 40) (pc' := 44) rfl (hb hby d1_40) (by decide) (by decide) ?_
          show Steps p.tables e below (T12.setTop (mkF m 44 #[.val (.ref pc_), .val (.long pf), .second, .val (.long ps), .second, .val (.long ph), .second] [(.long (ps - ph)), (.long ((0 : Int64) + ph))])) _
          refine XS.ladd X12.here hx rfl (hb hby d1_44) rfl ?_
          show Steps p.tables e below (T12.setTop (mkF m 45 #[.val (.ref pc_), .val (.long pf), .second, .val (.long ps), .second, .val (.long ph), .second] [(.long (((0 : Int64) + ph) + (ps - ph)))])) _
          exact retOut X12 hx Bd.returns rfl (Or.inr (Or.inl ⟨rfl, rfl, _, rfl⟩)) (hb hby d1_45) hr
        · show Q1 Z pc_ pf ps ph b0 b1 b2 h0 n0 _ T12.heap _
          rw [e12]
          refine ⟨?_, N0, rfl⟩
          show (some (.long (((0 : Int64) + ph) + (ps - ph))) : Option Value) = some (.long (cardF pf ps ph b0 b1 b2))
          rw [show (cardF pf ps ph b0 b1 b2) = (((0 : Int64) + ph) + (ps - ph)) from by unfold cardF; rw [if_pos hc4_3, if_neg hc19_6, if_neg hc33_14]]
  · obtain ⟨T17, X17, e17, st17⟩ := getF X1 hx hZ hown (host := "") (Or.inl (hw _ (List.mem_of_getElem? (i := 10) rfl))) Via.refl e1 F1 (g := (mkF m 16 #[.val (.ref pc_), .val (.long pf), .second, .val (.long ps), .second, .val (.long ph), .second] [(.ref pc_), (.long (pf - ph))])) rfl rfl (hb hby d1_16)
    have pre18 : ∀ t, Steps p.tables e below (T17.setTop (mkF m 19 #[.val (.ref pc_), .val (.long pf), .second, .val (.long ps), .second, .val (.long ph), .second] [(.int b1), (.long (pf - ph))])) t → Steps p.tables e below (s₁.setTop (entryFrame m #[(.ref pc_), (.long pf), (.long ps), (.long ph)] 7)) t := by
      intro t kt
      refine pre2 t ?_
      show Steps p.tables e below (T1.setTop (mkF m 4 #[.val (.ref pc_), .val (.long pf), .second, .val (.long ps), .second, .val (.long ph), .second] [(.int b0)])) _
      refine XS.ifNo X1.here hx rfl (hb hby d1_4) rfl ((if0 _ _).trans (feq hc4_3).1) ?_
      show Steps p.tables e below (T1.setTop (mkF m 7 #[.val (.ref pc_), .val (.long pf), .second, .val (.long ps), .second, .val (.long ph), .second] [])) _
      refine XS.lloadN X1.here hx rfl (hb hby d1_7) rfl ?_
      show Steps p.tables e below (T1.setTop (mkF m 8 #[.val (.ref pc_), .val (.long pf), .second, .val (.long ps), .second, .val (.long ph), .second] [(.long pf)])) _
      refine XS.lload X1.here hx rfl (hb hby d1_8) rfl ?_
      show Steps p.tables e below (T1.setTop (mkF m 10 #[.val (.ref pc_), .val (.long pf), .second, .val (.long ps), .second, .val (.long ph), .second] [(.long ph), (.long pf)])) _
      refine XS.lsub X1.here hx rfl (hb hby d1_10) rfl ?_
      show Steps p.tables e below (T1.setTop (mkF m 11 #[.val (.ref pc_), .val (.long pf), .second, .val (.long ps), .second, .val (.long ph), .second] [(.long (pf - ph))])) _
      refine XS.goto X1.here hx rfl (pc0 := 11) (pc' := 15) rfl (hb hby d1_11) (by decide) (by decide) ?_
      show Steps p.tables e below (T1.setTop (mkF m 15 #[.val (.ref pc_), .val (.long pf), .second, .val (.long ps), .second, .val (.long ph), .second] [(.long (pf - ph))])) _
      refine XS.aloadN X1.here hx rfl (hb hby d1_15) rfl rfl ?_
      show Steps p.tables e below (T1.setTop (mkF m 16 #[.val (.ref pc_), .val (.long pf), .second, .val (.long ps), .second, .val (.long ph), .second] [(.ref pc_), (.long (pf - ph))])) _
      refine st17 _ ?_
      show Steps p.tables e below (T17.setTop (mkF m 19 #[.val (.ref pc_), .val (.long pf), .second, .val (.long ps), .second, .val (.long ph), .second] [(.int b1), (.long (pf - ph))])) _
      exact kt
    by_cases hc19_19 : b1 = (0 : Int32)
    · obtain ⟨T20, X20, e20, st20⟩ := getF X17 hx hZ hown (host := "") (Or.inl (hw _ (List.mem_of_getElem? (i := 12) rfl))) Via.refl e17 F2 (g := (mkF m 30 #[.val (.ref pc_), .val (.long pf), .second, .val (.long ps), .second, .val (.long ph), .second] [(.ref pc_), (.long ((pf - ph) + (0 : Int64)))])) rfl rfl (hb hby d1_30)
      have pre21 : ∀ t, Steps p.tables e below (T20.setTop (mkF m 33 #[.val (.ref pc_), .val (.long pf), .second, .val (.long ps), .second, .val (.long ph), .second] [(.int b2), (.long ((pf - ph) + (0 : Int64)))])) t → Steps p.tables e below (s₁.setTop (entryFrame m #[(.ref pc_), (.long pf), (.long ps), (.long ph)] 7)) t := by
        intro t kt
        refine pre18 t ?_
        show Steps p.tables e below (T17.setTop (mkF m 19 #[.val (.ref pc_), .val (.long pf), .second, .val (.long ps), .second, .val (.long ph), .second] [(.int b1), (.long (pf - ph))])) _
        refine XS.ifYes X17.here hx rfl (pc0 := 19) (pc' := 27) rfl (hb hby d1_19) rfl ((if0 _ _).trans (teq hc19_19).1) (by decide) (by decide) ?_
        show Steps p.tables e below (T17.setTop (mkF m 27 #[.val (.ref pc_), .val (.long pf), .second, .val (.long ps), .second, .val (.long ph), .second] [(.long (pf - ph))])) _
        refine XS.lconst X17.here hx rfl (hb hby d1_27) ?_
        show Steps p.tables e below (T17.setTop (mkF m 28 #[.val (.ref pc_), .val (.long pf), .second, .val (.long ps), .second, .val (.long ph), .second] [(.long (0 : Int64)), (.long (pf - ph))])) _
        refine XS.ladd X17.here hx rfl (hb hby d1_28) rfl ?_
        show Steps p.tables e below (T17.setTop (mkF m 29 #[.val (.ref pc_), .val (.long pf), .second, .val (.long ps), .second, .val (.long ph), .second] [(.long ((pf - ph) + (0 : Int64)))])) _
        refine XS.aloadN X17.here hx rfl (hb hby d1_29) rfl rfl ?_
        show Steps p.tables e below (T17.setTop (mkF m 30 #[.val (.ref pc_), .val (.long pf), .second, .val (.long ps), .second, .val (.long ph), .second] [(.ref pc_), (.long ((pf - ph) + (0 : Int64)))])) _
        refine st20 _ ?_
        show Steps p.tables e below (T20.setTop (mkF m 33 #[.val (.ref pc_), .val (.long pf), .second, .val (.long ps), .second, .val (.long ph), .second] [(.int b2), (.long ((pf - ph) + (0 : Int64)))])) _
        exact kt
      by_cases hc33_22 : b2 = (0 : Int32)
      · obtain ⟨fs, hr, hrun, hended, hW, hsame⟩ := X20.leave (v := some (.long (((pf - ph) + (0 : Int64)) + (0 : Int64)))) (fun h => by rw [Bd.returns] at h; cases h)
        refine ⟨_, _, pre21 _ ?_, hrun, hended, _, _, rfl, ?_, ⟨_, rfl⟩, hW, hsame.mono (by decide) (by decide)⟩
        · show Steps p.tables e below (T20.setTop (mkF m 33 #[.val (.ref pc_), .val (.long pf), .second, .val (.long ps), .second, .val (.long ph), .second] [(.int b2), (.long ((pf - ph) + (0 : Int64)))])) _
          refine XS.ifYes X20.here hx rfl (pc0 := 33) (pc' := 43) rfl (hb hby d1_33) rfl ((if0 _ _).trans (teq hc33_22).1) (by decide) (by decide) ?_
          show Steps p.tables e below (T20.setTop (mkF m 43 #[.val (.ref pc_), .val (.long pf), .second, .val (.long ps), .second, .val (.long ph), .second] [(.long ((pf - ph) + (0 : Int64)))])) _
          refine XS.lconst X20.here hx rfl (hb hby d1_43) ?_
          show Steps p.tables e below (T20.setTop (mkF m 44 #[.val (.ref pc_), .val (.long pf), .second, .val (.long ps), .second, .val (.long ph), .second] [(.long (0 : Int64)), (.long ((pf - ph) + (0 : Int64)))])) _
          refine XS.ladd X20.here hx rfl (hb hby d1_44) rfl ?_
          show Steps p.tables e below (T20.setTop (mkF m 45 #[.val (.ref pc_), .val (.long pf), .second, .val (.long ps), .second, .val (.long ph), .second] [(.long (((pf - ph) + (0 : Int64)) + (0 : Int64)))])) _
          exact retOut X20 hx Bd.returns rfl (Or.inr (Or.inl ⟨rfl, rfl, _, rfl⟩)) (hb hby d1_45) hr
        · show Q1 Z pc_ pf ps ph b0 b1 b2 h0 n0 _ T20.heap _
          rw [e20]
          refine ⟨?_, N0, rfl⟩
          show (some (.long (((pf - ph) + (0 : Int64)) + (0 : Int64))) : Option Value) = some (.long (cardF pf ps ph b0 b1 b2))
          rw [show (cardF pf ps ph b0 b1 b2) = (((pf - ph) + (0 : Int64)) + (0 : Int64)) from by unfold cardF; rw [if_neg hc4_3, if_pos hc19_19, if_pos hc33_22]]
      · obtain ⟨fs, hr, hrun, hended, hW, hsame⟩ := X20.leave (v := some (.long (((pf - ph) + (0 : Int64)) + (ps - ph)))) (fun h => by rw [Bd.returns] at h; cases h)
        refine ⟨_, _, pre21 _ ?_, hrun, hended, _, _, rfl, ?_, ⟨_, rfl⟩, hW, hsame.mono (by decide) (by decide)⟩
        · show Steps p.tables e below (T20.setTop (mkF m 33 #[.val (.ref pc_), .val (.long pf), .second, .val (.long ps), .second, .val (.long ph), .second] [(.int b2), (.long ((pf - ph) + (0 : Int64)))])) _
          refine XS.ifNo X20.here hx rfl (hb hby d1_33) rfl ((if0 _ _).trans (feq hc33_22).1) ?_
          show Steps p.tables e below (T20.setTop (mkF m 36 #[.val (.ref pc_), .val (.long pf), .second, .val (.long ps), .second, .val (.long ph), .second] [(.long ((pf - ph) + (0 : Int64)))])) _
          refine XS.lloadN X20.here hx rfl (hb hby d1_36) rfl ?_
          show Steps p.tables e below (T20.setTop (mkF m 37 #[.val (.ref pc_), .val (.long pf), .second, .val (.long ps), .second, .val (.long ph), .second] [(.long ps), (.long ((pf - ph) + (0 : Int64)))])) _
          refine XS.lload X20.here hx rfl (hb hby d1_37) rfl ?_
          show Steps p.tables e below (T20.setTop (mkF m 39 #[.val (.ref pc_), .val (.long pf), .second, .val (.long ps), .second, .val (.long ph), .second] [(.long ph), (.long ps), (.long ((pf - ph) + (0 : Int64)))])) _
          refine XS.lsub X20.here hx rfl (hb hby d1_39) rfl ?_
          show Steps p.tables e below (T20.setTop (mkF m 40 #[.val (.ref pc_), .val (.long pf), .second, .val (.long ps), .second, .val (.long ph), .second] [(.long (ps - ph)), (.long ((pf - ph) + (0 : Int64)))])) _
          refine XS.goto X20.here hx rfl (pc0 := 40) (pc' := 44) rfl (hb hby d1_40) (by decide) (by decide) ?_
          show Steps p.tables e below (T20.setTop (mkF m 44 #[.val (.ref pc_), .val (.long pf), .second, .val (.long ps), .second, .val (.long ph), .second] [(.long (ps - ph)), (.long ((pf - ph) + (0 : Int64)))])) _
          refine XS.ladd X20.here hx rfl (hb hby d1_44) rfl ?_
          show Steps p.tables e below (T20.setTop (mkF m 45 #[.val (.ref pc_), .val (.long pf), .second, .val (.long ps), .second, .val (.long ph), .second] [(.long (((pf - ph) + (0 : Int64)) + (ps - ph)))])) _
          exact retOut X20 hx Bd.returns rfl (Or.inr (Or.inl ⟨rfl, rfl, _, rfl⟩)) (hb hby d1_45) hr
        · show Q1 Z pc_ pf ps ph b0 b1 b2 h0 n0 _ T20.heap _
          rw [e20]
          refine ⟨?_, N0, rfl⟩
          show (some (.long (((pf - ph) + (0 : Int64)) + (ps - ph))) : Option Value) = some (.long (cardF pf ps ph b0 b1 b2))
          rw [show (cardF pf ps ph b0 b1 b2) = (((pf - ph) + (0 : Int64)) + (ps - ph)) from by unfold cardF; rw [if_neg hc4_3, if_pos hc19_19, if_neg hc33_22]]
    · obtain ⟨T25, X25, e25, st25⟩ := getF X17 hx hZ hown (host := "") (Or.inl (hw _ (List.mem_of_getElem? (i := 12) rfl))) Via.refl e17 F2 (g := (mkF m 30 #[.val (.ref pc_), .val (.long pf), .second, .val (.long ps), .second, .val (.long ph), .second] [(.ref pc_), (.long ((pf - ph) + ph))])) rfl rfl (hb hby d1_30)
      have pre26 : ∀ t, Steps p.tables e below (T25.setTop (mkF m 33 #[.val (.ref pc_), .val (.long pf), .second, .val (.long ps), .second, .val (.long ph), .second] [(.int b2), (.long ((pf - ph) + ph))])) t → Steps p.tables e below (s₁.setTop (entryFrame m #[(.ref pc_), (.long pf), (.long ps), (.long ph)] 7)) t := by
        intro t kt
        refine pre18 t ?_
        show Steps p.tables e below (T17.setTop (mkF m 19 #[.val (.ref pc_), .val (.long pf), .second, .val (.long ps), .second, .val (.long ph), .second] [(.int b1), (.long (pf - ph))])) _
        refine XS.ifNo X17.here hx rfl (hb hby d1_19) rfl ((if0 _ _).trans (feq hc19_19).1) ?_
        show Steps p.tables e below (T17.setTop (mkF m 22 #[.val (.ref pc_), .val (.long pf), .second, .val (.long ps), .second, .val (.long ph), .second] [(.long (pf - ph))])) _
        refine XS.lload X17.here hx rfl (hb hby d1_22) rfl ?_
        show Steps p.tables e below (T17.setTop (mkF m 24 #[.val (.ref pc_), .val (.long pf), .second, .val (.long ps), .second, .val (.long ph), .second] [(.long ph), (.long (pf - ph))])) _
        refine XS.goto X17.here hx rfl (pc0 := 24) (pc' := 28) rfl (hb hby d1_24) (by decide) (by decide) ?_
        show Steps p.tables e below (T17.setTop (mkF m 28 #[.val (.ref pc_), .val (.long pf), .second, .val (.long ps), .second, .val (.long ph), .second] [(.long ph), (.long (pf - ph))])) _
        refine XS.ladd X17.here hx rfl (hb hby d1_28) rfl ?_
        show Steps p.tables e below (T17.setTop (mkF m 29 #[.val (.ref pc_), .val (.long pf), .second, .val (.long ps), .second, .val (.long ph), .second] [(.long ((pf - ph) + ph))])) _
        refine XS.aloadN X17.here hx rfl (hb hby d1_29) rfl rfl ?_
        show Steps p.tables e below (T17.setTop (mkF m 30 #[.val (.ref pc_), .val (.long pf), .second, .val (.long ps), .second, .val (.long ph), .second] [(.ref pc_), (.long ((pf - ph) + ph))])) _
        refine st25 _ ?_
        show Steps p.tables e below (T25.setTop (mkF m 33 #[.val (.ref pc_), .val (.long pf), .second, .val (.long ps), .second, .val (.long ph), .second] [(.int b2), (.long ((pf - ph) + ph))])) _
        exact kt
      by_cases hc33_27 : b2 = (0 : Int32)
      · obtain ⟨fs, hr, hrun, hended, hW, hsame⟩ := X25.leave (v := some (.long (((pf - ph) + ph) + (0 : Int64)))) (fun h => by rw [Bd.returns] at h; cases h)
        refine ⟨_, _, pre26 _ ?_, hrun, hended, _, _, rfl, ?_, ⟨_, rfl⟩, hW, hsame.mono (by decide) (by decide)⟩
        · show Steps p.tables e below (T25.setTop (mkF m 33 #[.val (.ref pc_), .val (.long pf), .second, .val (.long ps), .second, .val (.long ph), .second] [(.int b2), (.long ((pf - ph) + ph))])) _
          refine XS.ifYes X25.here hx rfl (pc0 := 33) (pc' := 43) rfl (hb hby d1_33) rfl ((if0 _ _).trans (teq hc33_27).1) (by decide) (by decide) ?_
          show Steps p.tables e below (T25.setTop (mkF m 43 #[.val (.ref pc_), .val (.long pf), .second, .val (.long ps), .second, .val (.long ph), .second] [(.long ((pf - ph) + ph))])) _
          refine XS.lconst X25.here hx rfl (hb hby d1_43) ?_
          show Steps p.tables e below (T25.setTop (mkF m 44 #[.val (.ref pc_), .val (.long pf), .second, .val (.long ps), .second, .val (.long ph), .second] [(.long (0 : Int64)), (.long ((pf - ph) + ph))])) _
          refine XS.ladd X25.here hx rfl (hb hby d1_44) rfl ?_
          show Steps p.tables e below (T25.setTop (mkF m 45 #[.val (.ref pc_), .val (.long pf), .second, .val (.long ps), .second, .val (.long ph), .second] [(.long (((pf - ph) + ph) + (0 : Int64)))])) _
          exact retOut X25 hx Bd.returns rfl (Or.inr (Or.inl ⟨rfl, rfl, _, rfl⟩)) (hb hby d1_45) hr
        · show Q1 Z pc_ pf ps ph b0 b1 b2 h0 n0 _ T25.heap _
          rw [e25]
          refine ⟨?_, N0, rfl⟩
          show (some (.long (((pf - ph) + ph) + (0 : Int64))) : Option Value) = some (.long (cardF pf ps ph b0 b1 b2))
          rw [show (cardF pf ps ph b0 b1 b2) = (((pf - ph) + ph) + (0 : Int64)) from by unfold cardF; rw [if_neg hc4_3, if_neg hc19_19, if_pos hc33_27]]
      · obtain ⟨fs, hr, hrun, hended, hW, hsame⟩ := X25.leave (v := some (.long (((pf - ph) + ph) + (ps - ph)))) (fun h => by rw [Bd.returns] at h; cases h)
        refine ⟨_, _, pre26 _ ?_, hrun, hended, _, _, rfl, ?_, ⟨_, rfl⟩, hW, hsame.mono (by decide) (by decide)⟩
        · show Steps p.tables e below (T25.setTop (mkF m 33 #[.val (.ref pc_), .val (.long pf), .second, .val (.long ps), .second, .val (.long ph), .second] [(.int b2), (.long ((pf - ph) + ph))])) _
          refine XS.ifNo X25.here hx rfl (hb hby d1_33) rfl ((if0 _ _).trans (feq hc33_27).1) ?_
          show Steps p.tables e below (T25.setTop (mkF m 36 #[.val (.ref pc_), .val (.long pf), .second, .val (.long ps), .second, .val (.long ph), .second] [(.long ((pf - ph) + ph))])) _
          refine XS.lloadN X25.here hx rfl (hb hby d1_36) rfl ?_
          show Steps p.tables e below (T25.setTop (mkF m 37 #[.val (.ref pc_), .val (.long pf), .second, .val (.long ps), .second, .val (.long ph), .second] [(.long ps), (.long ((pf - ph) + ph))])) _
          refine XS.lload X25.here hx rfl (hb hby d1_37) rfl ?_
          show Steps p.tables e below (T25.setTop (mkF m 39 #[.val (.ref pc_), .val (.long pf), .second, .val (.long ps), .second, .val (.long ph), .second] [(.long ph), (.long ps), (.long ((pf - ph) + ph))])) _
          refine XS.lsub X25.here hx rfl (hb hby d1_39) rfl ?_
          show Steps p.tables e below (T25.setTop (mkF m 40 #[.val (.ref pc_), .val (.long pf), .second, .val (.long ps), .second, .val (.long ph), .second] [(.long (ps - ph)), (.long ((pf - ph) + ph))])) _
          refine XS.goto X25.here hx rfl (pc0 := 40) (pc' := 44) rfl (hb hby d1_40) (by decide) (by decide) ?_
          show Steps p.tables e below (T25.setTop (mkF m 44 #[.val (.ref pc_), .val (.long pf), .second, .val (.long ps), .second, .val (.long ph), .second] [(.long (ps - ph)), (.long ((pf - ph) + ph))])) _
          refine XS.ladd X25.here hx rfl (hb hby d1_44) rfl ?_
          show Steps p.tables e below (T25.setTop (mkF m 45 #[.val (.ref pc_), .val (.long pf), .second, .val (.long ps), .second, .val (.long ph), .second] [(.long (((pf - ph) + ph) + (ps - ph)))])) _
          exact retOut X25 hx Bd.returns rfl (Or.inr (Or.inl ⟨rfl, rfl, _, rfl⟩)) (hb hby d1_45) hr
        · show Q1 Z pc_ pf ps ph b0 b1 b2 h0 n0 _ T25.heap _
          rw [e25]
          refine ⟨?_, N0, rfl⟩
          show (some (.long (((pf - ph) + ph) + (ps - ph))) : Option Value) = some (.long (cardF pf ps ph b0 b1 b2))
          rw [show (cardF pf ps ph b0 b1 b2) = (((pf - ph) + ph) + (ps - ph)) from by unfold cardF; rw [if_neg hc4_3, if_neg hc19_19, if_neg hc33_27]]
theorem own_c0 (pf ps ph : Int64) : lcmpW (cardF pf ps ph (1 : Int32) (1 : Int32) (1 : Int32)) ((pf + ps) - ph) = 0 := by
  rw [lw_eq]
  unfold cardF
  simp only [show ¬ ((1 : Int32) = 0) from by decide, if_true, if_false]
  rw [Int64.sub_add_cancel, Int64.sub_eq_add_neg, Int64.sub_eq_add_neg, Int64.add_assoc]
theorem own_c1 (pf ps ph : Int64) : lcmpW (cardF pf ps ph (0 : Int32) (1 : Int32) (0 : Int32)) ph = 0 := by
  rw [lw_eq]
  unfold cardF
  simp only [show ¬ ((1 : Int32) = 0) from by decide, if_true, if_false]
  rw [Int64.add_zero, Int64.zero_add]
theorem own_c2 (pf ps ph : Int64) : lcmpW (cardF pf ps ph (1 : Int32) (0 : Int32) (0 : Int32)) (pf - ph) = 0 := by
  rw [lw_eq]
  unfold cardF
  simp only [show ¬ ((1 : Int32) = 0) from by decide, if_true, if_false]
  rw [Int64.add_zero, Int64.add_zero]
theorem own_c3 (pf ps ph : Int64) : lcmpW (cardF pf ps ph (1 : Int32) (0 : Int32) (1 : Int32)) ((pf + ps) - ((2 : Int64) * ph)) = 0 := by
  rw [lw_eq]
  unfold cardF
  simp only [show ¬ ((1 : Int32) = 0) from by decide, if_true, if_false]
  rw [show (2 : Int64) * ph = ph + ph from by rw [show (2 : Int64) = 1 + 1 from rfl, Int64.add_mul, Int64.one_mul], Int64.add_zero, Int64.sub_eq_add_neg, Int64.sub_eq_add_neg, Int64.sub_eq_add_neg, Int64.neg_add, Int64.sub_eq_add_neg, Int64.add_assoc, Int64.add_assoc, ← Int64.add_assoc (-ph) ps (-ph), Int64.add_comm (-ph) ps, Int64.add_assoc]
theorem pd_0 : parseMethodDescriptor "(JJJ)J" = some ⟨[.long, .long, .long], some .long⟩ := by decide +kernel
theorem pn_1 : plainName "com/example/bitgrove/bitgrove/CombinationCardinalityPinLaw" = true := by first | (simp [plainName, overriddenIn]; done) | decide +kernel
theorem ef_rm0 (m : MethodId) (x0 : Int32) (x1 : Int64) (x2 : Int64) (x3 : Int64) : entryFrame m #[(.int x0), (.long x1), (.long x2), (.long x3)] maxLocals = mkF m 0 #[.val (.int x0), .val (.long x1), .second, .val (.long x2), .second, .val (.long x3), .second, .unset, .unset, .unset, .unset] [] := by first | (simp [entryFrame, mkF, argsToLocals, Value.category, maxLocals]; done) | rfl
def Q0 (Z : State) (pk : Int32) (pf : Int64) (ps : Int64) (ph : Int64) (w0 : Addr) (w1 : Addr) (w2 : Addr) (w3 : Addr) (h0 : Heap) (n0 : Nat) (v : Option Value) (h : Heap) (L : List Loc) : Prop := v = some (.int 1) ∧ Fr n0 L
set_option maxRecDepth 65536 in
set_option maxHeartbeats 40000000 in
theorem rm0 (l : Launch) (Z : State) (a0 : Array Value) (hw : ∀ d ∈ tables_1, d.before a0 Z = true) (ws : List Jvm.Cond) (pk : Int32) (pf : Int64) (ps : Int64) (ph : Int64) (w0 : Addr) (w1 : Addr) (w2 : Addr) (w3 : Addr) (h0 : Heap) (n0 : Nat) (Z0 : n0 ≤ h0.size) (S0 : Sta Z h0 "com/example/bitgrove/bitgrove/Combination" "UNION" "Lcom/example/bitgrove/bitgrove/Combination;" (.ref w0)) (E0 : Exa Z h0 w0 "com/example/bitgrove/bitgrove/Combination$1") (F0_0 : Fld Z h0 w0 "com/example/bitgrove/bitgrove/Combination" "keepsFirstOnly" "Z" (.int (1 : Int32))) (F0_1 : Fld Z h0 w0 "com/example/bitgrove/bitgrove/Combination" "keepsBoth" "Z" (.int (1 : Int32))) (F0_2 : Fld Z h0 w0 "com/example/bitgrove/bitgrove/Combination" "keepsSecondOnly" "Z" (.int (1 : Int32))) (S1 : Sta Z h0 "com/example/bitgrove/bitgrove/Combination" "INTERSECTION" "Lcom/example/bitgrove/bitgrove/Combination;" (.ref w1)) (E1 : Exa Z h0 w1 "com/example/bitgrove/bitgrove/Combination$2") (F1_0 : Fld Z h0 w1 "com/example/bitgrove/bitgrove/Combination" "keepsFirstOnly" "Z" (.int (0 : Int32))) (F1_1 : Fld Z h0 w1 "com/example/bitgrove/bitgrove/Combination" "keepsBoth" "Z" (.int (1 : Int32))) (F1_2 : Fld Z h0 w1 "com/example/bitgrove/bitgrove/Combination" "keepsSecondOnly" "Z" (.int (0 : Int32))) (S2 : Sta Z h0 "com/example/bitgrove/bitgrove/Combination" "DIFFERENCE" "Lcom/example/bitgrove/bitgrove/Combination;" (.ref w2)) (E2 : Exa Z h0 w2 "com/example/bitgrove/bitgrove/Combination$3") (F2_0 : Fld Z h0 w2 "com/example/bitgrove/bitgrove/Combination" "keepsFirstOnly" "Z" (.int (1 : Int32))) (F2_1 : Fld Z h0 w2 "com/example/bitgrove/bitgrove/Combination" "keepsBoth" "Z" (.int (0 : Int32))) (F2_2 : Fld Z h0 w2 "com/example/bitgrove/bitgrove/Combination" "keepsSecondOnly" "Z" (.int (0 : Int32))) (S3 : Sta Z h0 "com/example/bitgrove/bitgrove/Combination" "SYMMETRIC_DIFFERENCE" "Lcom/example/bitgrove/bitgrove/Combination;" (.ref w3)) (E3 : Exa Z h0 w3 "com/example/bitgrove/bitgrove/Combination$4") (F3_0 : Fld Z h0 w3 "com/example/bitgrove/bitgrove/Combination" "keepsFirstOnly" "Z" (.int (1 : Int32))) (F3_1 : Fld Z h0 w3 "com/example/bitgrove/bitgrove/Combination" "keepsBoth" "Z" (.int (0 : Int32))) (F3_2 : Fld Z h0 w3 "com/example/bitgrove/bitgrove/Combination" "keepsSecondOnly" "Z" (.int (1 : Int32))) :
    MetFree l x (head1 (Jvm.Cond.code x code maxLocals ret :: ws) room_1) (fun a U => a = #[(.int pk), (.long pf), (.long ps), (.long ph)] ∧ Z.Warmed39 U.vm ∧ U.heap = h0) (fun _ _ _ _ _ => True) (fun _ U o U' => ∃ v L, o = .returned v ∧ Q0 Z pk pf ps ph w0 w1 w2 w3 h0 n0 v U'.heap L ∧ FrameEnd U o U' L room_1.cells room_1.slots) := by
  refine MetFree.of_bodySF (plainFor_of_name pn_1) hisR ?_
  intro p e s m args below meth c s₁ Bd hml0 hP hK
  obtain ⟨rfl, hZ, hh⟩ := hP
  have hx := Bd.exec
  have hby := Bd.bytes
  have hml : c.maxLocals = 11 := hml0
  have hown : s.vm.findClass "com/example/bitgrove/bitgrove/CombinationCardinalityPinLaw" = some m.cls := findClass_of_methodNamed Bd.named
  have hnm := (name_of_methodNamed Bd.named Bd.method).1
  have X0 : Stand p l e room_1 s m #[(.int pk), (.long pf), (.long ps), (.long ph)] below meth c s₁ [] 0 0 := Stand.of_body Bd
  have e0 : s₁.heap = h0 := by rw [← hh, Bd.state]; rfl
  have N0 := Fr.nil n0
  have pre0 : ∀ t, Steps p.tables e below (s₁.setTop (mkF m 0 #[.val (.int pk), .val (.long pf), .second, .val (.long ps), .second, .val (.long ph), .second, .unset, .unset, .unset, .unset] [])) t → Steps p.tables e below (s₁.setTop (entryFrame m #[(.int pk), (.long pf), (.long ps), (.long ph)] maxLocals)) t := fun t k => castTop (ef_rm0 m pk pf ps ph) k
  have pre1 : ∀ t, Steps p.tables e below (s₁.setTop (mkF m 7 #[.val (.int pk), .val (.long pf), .second, .val (.long ps), .second, .val (.long ph), .second, .val (.int (pk &&& (3 : Int32))), .unset, .unset, .unset] [(.int (pk &&& (3 : Int32)))])) t → Steps p.tables e below (s₁.setTop (entryFrame m #[(.int pk), (.long pf), (.long ps), (.long ph)] maxLocals)) t := by
    intro t kt
    refine pre0 t ?_
    show Steps p.tables e below (s₁.setTop (mkF m 0 #[.val (.int pk), .val (.long pf), .second, .val (.long ps), .second, .val (.long ph), .second, .unset, .unset, .unset, .unset] [])) _
    refine XS.iloadN X0.here hx rfl (hb hby at_0) rfl ?_
    show Steps p.tables e below (s₁.setTop (mkF m 1 #[.val (.int pk), .val (.long pf), .second, .val (.long ps), .second, .val (.long ph), .second, .unset, .unset, .unset, .unset] [(.int pk)])) _
    refine XS.iconst X0.here hx rfl (hb hby at_1) ?_
    show Steps p.tables e below (s₁.setTop (mkF m 2 #[.val (.int pk), .val (.long pf), .second, .val (.long ps), .second, .val (.long ph), .second, .unset, .unset, .unset, .unset] [(.int (3 : Int32)), (.int pk)])) _
    refine XS.iand X0.here hx rfl (hb hby at_2) rfl ?_
    show Steps p.tables e below (s₁.setTop (mkF m 3 #[.val (.int pk), .val (.long pf), .second, .val (.long ps), .second, .val (.long ph), .second, .unset, .unset, .unset, .unset] [(.int (pk &&& (3 : Int32)))])) _
    refine XS.istore X0.here hx rfl (hb hby at_3) rfl (l' := #[.val (.int pk), .val (.long pf), .second, .val (.long ps), .second, .val (.long ph), .second, .val (.int (pk &&& (3 : Int32))), .unset, .unset, .unset]) rfl ?_
    show Steps p.tables e below (s₁.setTop (mkF m 5 #[.val (.int pk), .val (.long pf), .second, .val (.long ps), .second, .val (.long ph), .second, .val (.int (pk &&& (3 : Int32))), .unset, .unset, .unset] [])) _
    refine XS.iload X0.here hx rfl (hb hby at_5) rfl ?_
    show Steps p.tables e below (s₁.setTop (mkF m 7 #[.val (.int pk), .val (.long pf), .second, .val (.long ps), .second, .val (.long ph), .second, .val (.int (pk &&& (3 : Int32))), .unset, .unset, .unset] [(.int (pk &&& (3 : Int32)))])) _
    exact kt
  by_cases hc7_2 : (pk &&& (3 : Int32)) = (0 : Int32)
  · obtain ⟨T3, X3, e3, st3⟩ := getS2 X0 hx hZ hown (host := "") (Or.inl (hw _ (List.mem_of_getElem? (i := 0) rfl))) Via.refl e0 S0 (g := (mkF m 10 #[.val (.int pk), .val (.long pf), .second, .val (.long ps), .second, .val (.long ph), .second, .val (.int (pk &&& (3 : Int32))), .unset, .unset, .unset] [])) rfl (hb hby at_10)
    obtain ⟨cq4, kq4, q4a, q4b, q4c⟩ := isOf hZ e3 E0
    obtain ⟨_, _, ⟨T4, L4, k4, n4⟩, -, X4, ⟨Lc4, hQ4, l4, y4, z4⟩, st4⟩ := X3.virtualBack hx (y := (⟨"com/example/bitgrove/bitgrove/Combination", "cardinality", "(JJJ)J"⟩ : MethodName)) (z := (⟨"com/example/bitgrove/bitgrove/Combination", "cardinality", "(JJJ)J"⟩ : MethodName)) hown (mvT hZ (hw _ (List.mem_of_getElem? (i := 3) rfl))) (mvT hZ (hw _ (List.mem_of_getElem? (i := 4) rfl))) (notFace_of_selects (args := #[]) (mvT hZ (hw _ (List.mem_of_getElem? (i := 6) rfl)))) (mvT hZ (hw _ (List.mem_of_getElem? (i := 6) rfl))) (mvT hZ (hw _ (List.mem_of_getElem? (i := 5) rfl))) (by decide) (backOf (W := 0) (rm1 l Z a0 hw [] w0 pf ps ph (1 : Int32) (1 : Int32) (1 : Int32) h0 n0 Z0 F0_0 F0_1 F0_2) hZ (hw _ (List.mem_of_getElem? (i := 7) rfl)) (hw _ (List.mem_of_getElem? (i := 1) rfl)) (by decide) (by decide)) q4a q4c (g := (mkF m 87 #[.val (.int pk), .val (.long pf), .second, .val (.long ps), .second, .val (.long ph), .second, .val (.int (pk &&& (3 : Int32))), .val (.ref w0), .val (.long ((pf + ps) - ph)), .second] [(.long ph), (.long ps), (.long pf), (.ref w0)])) rfl (by rw [hml]; rfl) (Steps.refl _) (argsL := [(.long pf), (.long ps), (.long ph)]) (rest := []) (lenOf pd_0 rfl) rfl (by show 2 * 0 + _ ≤ _; exact Nat.le_of_eq rfl) (hb hby at_87) (fun _ _ => ⟨rfl, e3, (by decide : 0 + 0 ≤ _), (by decide : 0 + 0 ≤ _)⟩)
    dsimp only [Pt.U, Pt.locs, Pt.cells, Pt.slots] at X4 l4 y4 z4 st4 hQ4
    subst l4 y4 z4
    obtain ⟨rfl, N4q, e4⟩ := hQ4
    have N4 := Fr.app N0 N4q
    obtain ⟨cv, h_cv⟩ : ∃ z : Int64, z = (cardF pf ps ph (1 : Int32) (1 : Int32) (1 : Int32)) := ⟨_, rfl⟩
    rw [← h_cv] at st4
    obtain ⟨fs, hr, hrun, hended, hW, hsame⟩ := X4.leave (v := some (.int (1 : Int32))) (fun h => by rw [Bd.returns] at h; cases h)
    refine ⟨_, _, pre1 _ ?_, hrun, hended, _, _, rfl, ?_, ⟨_, rfl⟩, hW, hsame.mono (by decide) (by decide)⟩
    · show Steps p.tables e below (s₁.setTop (mkF m 7 #[.val (.int pk), .val (.long pf), .second, .val (.long ps), .second, .val (.long ph), .second, .val (.int (pk &&& (3 : Int32))), .unset, .unset, .unset] [(.int (pk &&& (3 : Int32)))])) _
      refine XS.ifNo X0.here hx rfl (hb hby at_7) rfl ((if0 _ _).trans (teq hc7_2).2) ?_
      show Steps p.tables e below (s₁.setTop (mkF m 10 #[.val (.int pk), .val (.long pf), .second, .val (.long ps), .second, .val (.long ph), .second, .val (.int (pk &&& (3 : Int32))), .unset, .unset, .unset] [])) _
      refine st3 _ ?_
      show Steps p.tables e below (T3.setTop (mkF m 13 #[.val (.int pk), .val (.long pf), .second, .val (.long ps), .second, .val (.long ph), .second, .val (.int (pk &&& (3 : Int32))), .unset, .unset, .unset] [(.ref w0)])) _
      refine XS.astore X3.here hx rfl (hb hby at_13) rfl rfl (l' := #[.val (.int pk), .val (.long pf), .second, .val (.long ps), .second, .val (.long ph), .second, .val (.int (pk &&& (3 : Int32))), .val (.ref w0), .unset, .unset]) rfl ?_
      show Steps p.tables e below (T3.setTop (mkF m 15 #[.val (.int pk), .val (.long pf), .second, .val (.long ps), .second, .val (.long ph), .second, .val (.int (pk &&& (3 : Int32))), .val (.ref w0), .unset, .unset] [])) _
      refine XS.lloadN X3.here hx rfl (hb hby at_15) rfl ?_
      show Steps p.tables e below (T3.setTop (mkF m 16 #[.val (.int pk), .val (.long pf), .second, .val (.long ps), .second, .val (.long ph), .second, .val (.int (pk &&& (3 : Int32))), .val (.ref w0), .unset, .unset] [(.long pf)])) _
      refine XS.lloadN X3.here hx rfl (hb hby at_16) rfl ?_
      show Steps p.tables e below (T3.setTop (mkF m 17 #[.val (.int pk), .val (.long pf), .second, .val (.long ps), .second, .val (.long ph), .second, .val (.int (pk &&& (3 : Int32))), .val (.ref w0), .unset, .unset] [(.long ps), (.long pf)])) _
      refine XS.ladd X3.here hx rfl (hb hby at_17) rfl ?_
      show Steps p.tables e below (T3.setTop (mkF m 18 #[.val (.int pk), .val (.long pf), .second, .val (.long ps), .second, .val (.long ph), .second, .val (.int (pk &&& (3 : Int32))), .val (.ref w0), .unset, .unset] [(.long (pf + ps))])) _
      refine XS.lload X3.here hx rfl (hb hby at_18) rfl ?_
      show Steps p.tables e below (T3.setTop (mkF m 20 #[.val (.int pk), .val (.long pf), .second, .val (.long ps), .second, .val (.long ph), .second, .val (.int (pk &&& (3 : Int32))), .val (.ref w0), .unset, .unset] [(.long ph), (.long (pf + ps))])) _
      refine XS.lsub X3.here hx rfl (hb hby at_20) rfl ?_
      show Steps p.tables e below (T3.setTop (mkF m 21 #[.val (.int pk), .val (.long pf), .second, .val (.long ps), .second, .val (.long ph), .second, .val (.int (pk &&& (3 : Int32))), .val (.ref w0), .unset, .unset] [(.long ((pf + ps) - ph))])) _
      refine XS.lstore X3.here hx rfl (hb hby at_21) rfl (l' := #[.val (.int pk), .val (.long pf), .second, .val (.long ps), .second, .val (.long ph), .second, .val (.int (pk &&& (3 : Int32))), .val (.ref w0), .val (.long ((pf + ps) - ph)), .second]) rfl ?_
      show Steps p.tables e below (T3.setTop (mkF m 23 #[.val (.int pk), .val (.long pf), .second, .val (.long ps), .second, .val (.long ph), .second, .val (.int (pk &&& (3 : Int32))), .val (.ref w0), .val (.long ((pf + ps) - ph)), .second] [])) _
      refine XS.goto X3.here hx rfl (pc0 := 23) (pc' := 81) rfl (hb hby at_23) (by decide) (by decide) ?_
      show Steps p.tables e below (T3.setTop (mkF m 81 #[.val (.int pk), .val (.long pf), .second, .val (.long ps), .second, .val (.long ph), .second, .val (.int (pk &&& (3 : Int32))), .val (.ref w0), .val (.long ((pf + ps) - ph)), .second] [])) _
      refine XS.aload X3.here hx rfl (hb hby at_81) rfl rfl ?_
      show Steps p.tables e below (T3.setTop (mkF m 83 #[.val (.int pk), .val (.long pf), .second, .val (.long ps), .second, .val (.long ph), .second, .val (.int (pk &&& (3 : Int32))), .val (.ref w0), .val (.long ((pf + ps) - ph)), .second] [(.ref w0)])) _
      refine XS.lloadN X3.here hx rfl (hb hby at_83) rfl ?_
      show Steps p.tables e below (T3.setTop (mkF m 84 #[.val (.int pk), .val (.long pf), .second, .val (.long ps), .second, .val (.long ph), .second, .val (.int (pk &&& (3 : Int32))), .val (.ref w0), .val (.long ((pf + ps) - ph)), .second] [(.long pf), (.ref w0)])) _
      refine XS.lloadN X3.here hx rfl (hb hby at_84) rfl ?_
      show Steps p.tables e below (T3.setTop (mkF m 85 #[.val (.int pk), .val (.long pf), .second, .val (.long ps), .second, .val (.long ph), .second, .val (.int (pk &&& (3 : Int32))), .val (.ref w0), .val (.long ((pf + ps) - ph)), .second] [(.long ps), (.long pf), (.ref w0)])) _
      refine XS.lload X3.here hx rfl (hb hby at_85) rfl ?_
      show Steps p.tables e below (T3.setTop (mkF m 87 #[.val (.int pk), .val (.long pf), .second, .val (.long ps), .second, .val (.long ph), .second, .val (.int (pk &&& (3 : Int32))), .val (.ref w0), .val (.long ((pf + ps) - ph)), .second] [(.long ph), (.long ps), (.long pf), (.ref w0)])) _
      refine st4.trans ?_
      show Steps p.tables e below (T4.setTop (mkF m 90 #[.val (.int pk), .val (.long pf), .second, .val (.long ps), .second, .val (.long ph), .second, .val (.int (pk &&& (3 : Int32))), .val (.ref w0), .val (.long ((pf + ps) - ph)), .second] [(.long cv)])) _
      refine XS.lload X4.here hx rfl (hb hby at_90) rfl ?_
      show Steps p.tables e below (T4.setTop (mkF m 92 #[.val (.int pk), .val (.long pf), .second, .val (.long ps), .second, .val (.long ph), .second, .val (.int (pk &&& (3 : Int32))), .val (.ref w0), .val (.long ((pf + ps) - ph)), .second] [(.long ((pf + ps) - ph)), (.long cv)])) _
      refine XS.lcmp X4.here hx rfl (hb hby at_92) rfl ?_
      show Steps p.tables e below (T4.setTop (mkF m 93 #[.val (.int pk), .val (.long pf), .second, .val (.long ps), .second, .val (.long ph), .second, .val (.int (pk &&& (3 : Int32))), .val (.ref w0), .val (.long ((pf + ps) - ph)), .second] [(.int (lcmpW cv ((pf + ps) - ph)))])) _
      refine XS.ifNo X4.here hx rfl (hb hby at_93) rfl ((if0 _ _).trans (teq (by rw [h_cv]; exact own_c0 _ _ _ : (lcmpW cv ((pf + ps) - ph)) = (0 : Int32))).2) ?_
      show Steps p.tables e below (T4.setTop (mkF m 96 #[.val (.int pk), .val (.long pf), .second, .val (.long ps), .second, .val (.long ph), .second, .val (.int (pk &&& (3 : Int32))), .val (.ref w0), .val (.long ((pf + ps) - ph)), .second] [])) _
      refine XS.iconst X4.here hx rfl (hb hby at_96) ?_
      show Steps p.tables e below (T4.setTop (mkF m 97 #[.val (.int pk), .val (.long pf), .second, .val (.long ps), .second, .val (.long ph), .second, .val (.int (pk &&& (3 : Int32))), .val (.ref w0), .val (.long ((pf + ps) - ph)), .second] [(.int (1 : Int32))])) _
      refine XS.goto X4.here hx rfl (pc0 := 97) (pc' := 101) rfl (hb hby at_97) (by decide) (by decide) ?_
      show Steps p.tables e below (T4.setTop (mkF m 101 #[.val (.int pk), .val (.long pf), .second, .val (.long ps), .second, .val (.long ph), .second, .val (.int (pk &&& (3 : Int32))), .val (.ref w0), .val (.long ((pf + ps) - ph)), .second] [(.int (1 : Int32))])) _
      exact retN X4 hx (t := .boolean) Bd.returns (by simp) (hb hby at_101) hr
    · show Q0 Z pk pf ps ph w0 w1 w2 w3 h0 n0 _ T4.heap _
      rw [e4]
      exact ⟨rfl, N4⟩
  · have pre6 : ∀ t, Steps p.tables e below (s₁.setTop (mkF m 29 #[.val (.int pk), .val (.long pf), .second, .val (.long ps), .second, .val (.long ph), .second, .val (.int (pk &&& (3 : Int32))), .unset, .unset, .unset] [(.int (1 : Int32)), (.int (pk &&& (3 : Int32)))])) t → Steps p.tables e below (s₁.setTop (entryFrame m #[(.int pk), (.long pf), (.long ps), (.long ph)] maxLocals)) t := by
      intro t kt
      refine pre1 t ?_
      show Steps p.tables e below (s₁.setTop (mkF m 7 #[.val (.int pk), .val (.long pf), .second, .val (.long ps), .second, .val (.long ph), .second, .val (.int (pk &&& (3 : Int32))), .unset, .unset, .unset] [(.int (pk &&& (3 : Int32)))])) _
      refine XS.ifYes X0.here hx rfl (pc0 := 7) (pc' := 26) rfl (hb hby at_7) rfl ((if0 _ _).trans (feq hc7_2).2) (by decide) (by decide) ?_
      show Steps p.tables e below (s₁.setTop (mkF m 26 #[.val (.int pk), .val (.long pf), .second, .val (.long ps), .second, .val (.long ph), .second, .val (.int (pk &&& (3 : Int32))), .unset, .unset, .unset] [])) _
      refine XS.iload X0.here hx rfl (hb hby at_26) rfl ?_
      show Steps p.tables e below (s₁.setTop (mkF m 28 #[.val (.int pk), .val (.long pf), .second, .val (.long ps), .second, .val (.long ph), .second, .val (.int (pk &&& (3 : Int32))), .unset, .unset, .unset] [(.int (pk &&& (3 : Int32)))])) _
      refine XS.iconst X0.here hx rfl (hb hby at_28) ?_
      show Steps p.tables e below (s₁.setTop (mkF m 29 #[.val (.int pk), .val (.long pf), .second, .val (.long ps), .second, .val (.long ph), .second, .val (.int (pk &&& (3 : Int32))), .unset, .unset, .unset] [(.int (1 : Int32)), (.int (pk &&& (3 : Int32)))])) _
      exact kt
    by_cases hc29_7 : (pk &&& (3 : Int32)) = (1 : Int32)
    · obtain ⟨T8, X8, e8, st8⟩ := getS2 X0 hx hZ hown (host := "") (Or.inl (hw _ (List.mem_of_getElem? (i := 21) rfl))) Via.refl e0 S1 (g := (mkF m 32 #[.val (.int pk), .val (.long pf), .second, .val (.long ps), .second, .val (.long ph), .second, .val (.int (pk &&& (3 : Int32))), .unset, .unset, .unset] [])) rfl (hb hby at_32)
      obtain ⟨cq9, kq9, q9a, q9b, q9c⟩ := isOf hZ e8 E1
      obtain ⟨_, _, ⟨T9, L9, k9, n9⟩, -, X9, ⟨Lc9, hQ9, l9, y9, z9⟩, st9⟩ := X8.virtualBack hx (y := (⟨"com/example/bitgrove/bitgrove/Combination", "cardinality", "(JJJ)J"⟩ : MethodName)) (z := (⟨"com/example/bitgrove/bitgrove/Combination", "cardinality", "(JJJ)J"⟩ : MethodName)) hown (mvT hZ (hw _ (List.mem_of_getElem? (i := 3) rfl))) (mvT hZ (hw _ (List.mem_of_getElem? (i := 4) rfl))) (notFace_of_selects (args := #[]) (mvT hZ (hw _ (List.mem_of_getElem? (i := 23) rfl)))) (mvT hZ (hw _ (List.mem_of_getElem? (i := 23) rfl))) (mvT hZ (hw _ (List.mem_of_getElem? (i := 5) rfl))) (by decide) (backOf (W := 0) (rm1 l Z a0 hw [] w1 pf ps ph (0 : Int32) (1 : Int32) (0 : Int32) h0 n0 Z0 F1_0 F1_1 F1_2) hZ (hw _ (List.mem_of_getElem? (i := 7) rfl)) (hw _ (List.mem_of_getElem? (i := 1) rfl)) (by decide) (by decide)) q9a q9c (g := (mkF m 87 #[.val (.int pk), .val (.long pf), .second, .val (.long ps), .second, .val (.long ph), .second, .val (.int (pk &&& (3 : Int32))), .val (.ref w1), .val (.long ph), .second] [(.long ph), (.long ps), (.long pf), (.ref w1)])) rfl (by rw [hml]; rfl) (Steps.refl _) (argsL := [(.long pf), (.long ps), (.long ph)]) (rest := []) (lenOf pd_0 rfl) rfl (by show 2 * 0 + _ ≤ _; exact Nat.le_of_eq rfl) (hb hby at_87) (fun _ _ => ⟨rfl, e8, (by decide : 0 + 0 ≤ _), (by decide : 0 + 0 ≤ _)⟩)
      dsimp only [Pt.U, Pt.locs, Pt.cells, Pt.slots] at X9 l9 y9 z9 st9 hQ9
      subst l9 y9 z9
      obtain ⟨rfl, N9q, e9⟩ := hQ9
      have N9 := Fr.app N0 N9q
      obtain ⟨cv, h_cv⟩ : ∃ z : Int64, z = (cardF pf ps ph (0 : Int32) (1 : Int32) (0 : Int32)) := ⟨_, rfl⟩
      rw [← h_cv] at st9
      obtain ⟨fs, hr, hrun, hended, hW, hsame⟩ := X9.leave (v := some (.int (1 : Int32))) (fun h => by rw [Bd.returns] at h; cases h)
      refine ⟨_, _, pre6 _ ?_, hrun, hended, _, _, rfl, ?_, ⟨_, rfl⟩, hW, hsame.mono (by decide) (by decide)⟩
      · show Steps p.tables e below (s₁.setTop (mkF m 29 #[.val (.int pk), .val (.long pf), .second, .val (.long ps), .second, .val (.long ph), .second, .val (.int (pk &&& (3 : Int32))), .unset, .unset, .unset] [(.int (1 : Int32)), (.int (pk &&& (3 : Int32)))])) _
        refine XS.icmpNo X0.here hx rfl (hb hby at_29) rfl (teq hc29_7).2 ?_
        show Steps p.tables e below (s₁.setTop (mkF m 32 #[.val (.int pk), .val (.long pf), .second, .val (.long ps), .second, .val (.long ph), .second, .val (.int (pk &&& (3 : Int32))), .unset, .unset, .unset] [])) _
        refine st8 _ ?_
        show Steps p.tables e below (T8.setTop (mkF m 35 #[.val (.int pk), .val (.long pf), .second, .val (.long ps), .second, .val (.long ph), .second, .val (.int (pk &&& (3 : Int32))), .unset, .unset, .unset] [(.ref w1)])) _
        refine XS.astore X8.here hx rfl (hb hby at_35) rfl rfl (l' := #[.val (.int pk), .val (.long pf), .second, .val (.long ps), .second, .val (.long ph), .second, .val (.int (pk &&& (3 : Int32))), .val (.ref w1), .unset, .unset]) rfl ?_
        show Steps p.tables e below (T8.setTop (mkF m 37 #[.val (.int pk), .val (.long pf), .second, .val (.long ps), .second, .val (.long ph), .second, .val (.int (pk &&& (3 : Int32))), .val (.ref w1), .unset, .unset] [])) _
        refine XS.lload X8.here hx rfl (hb hby at_37) rfl ?_
        show Steps p.tables e below (T8.setTop (mkF m 39 #[.val (.int pk), .val (.long pf), .second, .val (.long ps), .second, .val (.long ph), .second, .val (.int (pk &&& (3 : Int32))), .val (.ref w1), .unset, .unset] [(.long ph)])) _
        refine XS.lstore X8.here hx rfl (hb hby at_39) rfl (l' := #[.val (.int pk), .val (.long pf), .second, .val (.long ps), .second, .val (.long ph), .second, .val (.int (pk &&& (3 : Int32))), .val (.ref w1), .val (.long ph), .second]) rfl ?_
        show Steps p.tables e below (T8.setTop (mkF m 41 #[.val (.int pk), .val (.long pf), .second, .val (.long ps), .second, .val (.long ph), .second, .val (.int (pk &&& (3 : Int32))), .val (.ref w1), .val (.long ph), .second] [])) _
        refine XS.goto X8.here hx rfl (pc0 := 41) (pc' := 81) rfl (hb hby at_41) (by decide) (by decide) ?_
        show Steps p.tables e below (T8.setTop (mkF m 81 #[.val (.int pk), .val (.long pf), .second, .val (.long ps), .second, .val (.long ph), .second, .val (.int (pk &&& (3 : Int32))), .val (.ref w1), .val (.long ph), .second] [])) _
        refine XS.aload X8.here hx rfl (hb hby at_81) rfl rfl ?_
        show Steps p.tables e below (T8.setTop (mkF m 83 #[.val (.int pk), .val (.long pf), .second, .val (.long ps), .second, .val (.long ph), .second, .val (.int (pk &&& (3 : Int32))), .val (.ref w1), .val (.long ph), .second] [(.ref w1)])) _
        refine XS.lloadN X8.here hx rfl (hb hby at_83) rfl ?_
        show Steps p.tables e below (T8.setTop (mkF m 84 #[.val (.int pk), .val (.long pf), .second, .val (.long ps), .second, .val (.long ph), .second, .val (.int (pk &&& (3 : Int32))), .val (.ref w1), .val (.long ph), .second] [(.long pf), (.ref w1)])) _
        refine XS.lloadN X8.here hx rfl (hb hby at_84) rfl ?_
        show Steps p.tables e below (T8.setTop (mkF m 85 #[.val (.int pk), .val (.long pf), .second, .val (.long ps), .second, .val (.long ph), .second, .val (.int (pk &&& (3 : Int32))), .val (.ref w1), .val (.long ph), .second] [(.long ps), (.long pf), (.ref w1)])) _
        refine XS.lload X8.here hx rfl (hb hby at_85) rfl ?_
        show Steps p.tables e below (T8.setTop (mkF m 87 #[.val (.int pk), .val (.long pf), .second, .val (.long ps), .second, .val (.long ph), .second, .val (.int (pk &&& (3 : Int32))), .val (.ref w1), .val (.long ph), .second] [(.long ph), (.long ps), (.long pf), (.ref w1)])) _
        refine st9.trans ?_
        show Steps p.tables e below (T9.setTop (mkF m 90 #[.val (.int pk), .val (.long pf), .second, .val (.long ps), .second, .val (.long ph), .second, .val (.int (pk &&& (3 : Int32))), .val (.ref w1), .val (.long ph), .second] [(.long cv)])) _
        refine XS.lload X9.here hx rfl (hb hby at_90) rfl ?_
        show Steps p.tables e below (T9.setTop (mkF m 92 #[.val (.int pk), .val (.long pf), .second, .val (.long ps), .second, .val (.long ph), .second, .val (.int (pk &&& (3 : Int32))), .val (.ref w1), .val (.long ph), .second] [(.long ph), (.long cv)])) _
        refine XS.lcmp X9.here hx rfl (hb hby at_92) rfl ?_
        show Steps p.tables e below (T9.setTop (mkF m 93 #[.val (.int pk), .val (.long pf), .second, .val (.long ps), .second, .val (.long ph), .second, .val (.int (pk &&& (3 : Int32))), .val (.ref w1), .val (.long ph), .second] [(.int (lcmpW cv ph))])) _
        refine XS.ifNo X9.here hx rfl (hb hby at_93) rfl ((if0 _ _).trans (teq (by rw [h_cv]; exact own_c1 _ _ _ : (lcmpW cv ph) = (0 : Int32))).2) ?_
        show Steps p.tables e below (T9.setTop (mkF m 96 #[.val (.int pk), .val (.long pf), .second, .val (.long ps), .second, .val (.long ph), .second, .val (.int (pk &&& (3 : Int32))), .val (.ref w1), .val (.long ph), .second] [])) _
        refine XS.iconst X9.here hx rfl (hb hby at_96) ?_
        show Steps p.tables e below (T9.setTop (mkF m 97 #[.val (.int pk), .val (.long pf), .second, .val (.long ps), .second, .val (.long ph), .second, .val (.int (pk &&& (3 : Int32))), .val (.ref w1), .val (.long ph), .second] [(.int (1 : Int32))])) _
        refine XS.goto X9.here hx rfl (pc0 := 97) (pc' := 101) rfl (hb hby at_97) (by decide) (by decide) ?_
        show Steps p.tables e below (T9.setTop (mkF m 101 #[.val (.int pk), .val (.long pf), .second, .val (.long ps), .second, .val (.long ph), .second, .val (.int (pk &&& (3 : Int32))), .val (.ref w1), .val (.long ph), .second] [(.int (1 : Int32))])) _
        exact retN X9 hx (t := .boolean) Bd.returns (by simp) (hb hby at_101) hr
      · show Q0 Z pk pf ps ph w0 w1 w2 w3 h0 n0 _ T9.heap _
        rw [e9]
        exact ⟨rfl, N9⟩
    · have pre11 : ∀ t, Steps p.tables e below (s₁.setTop (mkF m 47 #[.val (.int pk), .val (.long pf), .second, .val (.long ps), .second, .val (.long ph), .second, .val (.int (pk &&& (3 : Int32))), .unset, .unset, .unset] [(.int (2 : Int32)), (.int (pk &&& (3 : Int32)))])) t → Steps p.tables e below (s₁.setTop (entryFrame m #[(.int pk), (.long pf), (.long ps), (.long ph)] maxLocals)) t := by
        intro t kt
        refine pre6 t ?_
        show Steps p.tables e below (s₁.setTop (mkF m 29 #[.val (.int pk), .val (.long pf), .second, .val (.long ps), .second, .val (.long ph), .second, .val (.int (pk &&& (3 : Int32))), .unset, .unset, .unset] [(.int (1 : Int32)), (.int (pk &&& (3 : Int32)))])) _
        refine XS.icmpYes X0.here hx rfl (pc0 := 29) (pc' := 44) rfl (hb hby at_29) rfl (feq hc29_7).2 (by decide) (by decide) ?_
        show Steps p.tables e below (s₁.setTop (mkF m 44 #[.val (.int pk), .val (.long pf), .second, .val (.long ps), .second, .val (.long ph), .second, .val (.int (pk &&& (3 : Int32))), .unset, .unset, .unset] [])) _
        refine XS.iload X0.here hx rfl (hb hby at_44) rfl ?_
        show Steps p.tables e below (s₁.setTop (mkF m 46 #[.val (.int pk), .val (.long pf), .second, .val (.long ps), .second, .val (.long ph), .second, .val (.int (pk &&& (3 : Int32))), .unset, .unset, .unset] [(.int (pk &&& (3 : Int32)))])) _
        refine XS.iconst X0.here hx rfl (hb hby at_46) ?_
        show Steps p.tables e below (s₁.setTop (mkF m 47 #[.val (.int pk), .val (.long pf), .second, .val (.long ps), .second, .val (.long ph), .second, .val (.int (pk &&& (3 : Int32))), .unset, .unset, .unset] [(.int (2 : Int32)), (.int (pk &&& (3 : Int32)))])) _
        exact kt
      by_cases hc47_12 : (pk &&& (3 : Int32)) = (2 : Int32)
      · obtain ⟨T13, X13, e13, st13⟩ := getS2 X0 hx hZ hown (host := "") (Or.inl (hw _ (List.mem_of_getElem? (i := 27) rfl))) Via.refl e0 S2 (g := (mkF m 50 #[.val (.int pk), .val (.long pf), .second, .val (.long ps), .second, .val (.long ph), .second, .val (.int (pk &&& (3 : Int32))), .unset, .unset, .unset] [])) rfl (hb hby at_50)
        obtain ⟨cq14, kq14, q14a, q14b, q14c⟩ := isOf hZ e13 E2
        obtain ⟨_, _, ⟨T14, L14, k14, n14⟩, -, X14, ⟨Lc14, hQ14, l14, y14, z14⟩, st14⟩ := X13.virtualBack hx (y := (⟨"com/example/bitgrove/bitgrove/Combination", "cardinality", "(JJJ)J"⟩ : MethodName)) (z := (⟨"com/example/bitgrove/bitgrove/Combination", "cardinality", "(JJJ)J"⟩ : MethodName)) hown (mvT hZ (hw _ (List.mem_of_getElem? (i := 3) rfl))) (mvT hZ (hw _ (List.mem_of_getElem? (i := 4) rfl))) (notFace_of_selects (args := #[]) (mvT hZ (hw _ (List.mem_of_getElem? (i := 29) rfl)))) (mvT hZ (hw _ (List.mem_of_getElem? (i := 29) rfl))) (mvT hZ (hw _ (List.mem_of_getElem? (i := 5) rfl))) (by decide) (backOf (W := 0) (rm1 l Z a0 hw [] w2 pf ps ph (1 : Int32) (0 : Int32) (0 : Int32) h0 n0 Z0 F2_0 F2_1 F2_2) hZ (hw _ (List.mem_of_getElem? (i := 7) rfl)) (hw _ (List.mem_of_getElem? (i := 1) rfl)) (by decide) (by decide)) q14a q14c (g := (mkF m 87 #[.val (.int pk), .val (.long pf), .second, .val (.long ps), .second, .val (.long ph), .second, .val (.int (pk &&& (3 : Int32))), .val (.ref w2), .val (.long (pf - ph)), .second] [(.long ph), (.long ps), (.long pf), (.ref w2)])) rfl (by rw [hml]; rfl) (Steps.refl _) (argsL := [(.long pf), (.long ps), (.long ph)]) (rest := []) (lenOf pd_0 rfl) rfl (by show 2 * 0 + _ ≤ _; exact Nat.le_of_eq rfl) (hb hby at_87) (fun _ _ => ⟨rfl, e13, (by decide : 0 + 0 ≤ _), (by decide : 0 + 0 ≤ _)⟩)
        dsimp only [Pt.U, Pt.locs, Pt.cells, Pt.slots] at X14 l14 y14 z14 st14 hQ14
        subst l14 y14 z14
        obtain ⟨rfl, N14q, e14⟩ := hQ14
        have N14 := Fr.app N0 N14q
        obtain ⟨cv, h_cv⟩ : ∃ z : Int64, z = (cardF pf ps ph (1 : Int32) (0 : Int32) (0 : Int32)) := ⟨_, rfl⟩
        rw [← h_cv] at st14
        obtain ⟨fs, hr, hrun, hended, hW, hsame⟩ := X14.leave (v := some (.int (1 : Int32))) (fun h => by rw [Bd.returns] at h; cases h)
        refine ⟨_, _, pre11 _ ?_, hrun, hended, _, _, rfl, ?_, ⟨_, rfl⟩, hW, hsame.mono (by decide) (by decide)⟩
        · show Steps p.tables e below (s₁.setTop (mkF m 47 #[.val (.int pk), .val (.long pf), .second, .val (.long ps), .second, .val (.long ph), .second, .val (.int (pk &&& (3 : Int32))), .unset, .unset, .unset] [(.int (2 : Int32)), (.int (pk &&& (3 : Int32)))])) _
          refine XS.icmpNo X0.here hx rfl (hb hby at_47) rfl (teq hc47_12).2 ?_
          show Steps p.tables e below (s₁.setTop (mkF m 50 #[.val (.int pk), .val (.long pf), .second, .val (.long ps), .second, .val (.long ph), .second, .val (.int (pk &&& (3 : Int32))), .unset, .unset, .unset] [])) _
          refine st13 _ ?_
          show Steps p.tables e below (T13.setTop (mkF m 53 #[.val (.int pk), .val (.long pf), .second, .val (.long ps), .second, .val (.long ph), .second, .val (.int (pk &&& (3 : Int32))), .unset, .unset, .unset] [(.ref w2)])) _
          refine XS.astore X13.here hx rfl (hb hby at_53) rfl rfl (l' := #[.val (.int pk), .val (.long pf), .second, .val (.long ps), .second, .val (.long ph), .second, .val (.int (pk &&& (3 : Int32))), .val (.ref w2), .unset, .unset]) rfl ?_
          show Steps p.tables e below (T13.setTop (mkF m 55 #[.val (.int pk), .val (.long pf), .second, .val (.long ps), .second, .val (.long ph), .second, .val (.int (pk &&& (3 : Int32))), .val (.ref w2), .unset, .unset] [])) _
          refine XS.lloadN X13.here hx rfl (hb hby at_55) rfl ?_
          show Steps p.tables e below (T13.setTop (mkF m 56 #[.val (.int pk), .val (.long pf), .second, .val (.long ps), .second, .val (.long ph), .second, .val (.int (pk &&& (3 : Int32))), .val (.ref w2), .unset, .unset] [(.long pf)])) _
          refine XS.lload X13.here hx rfl (hb hby at_56) rfl ?_
          show Steps p.tables e below (T13.setTop (mkF m 58 #[.val (.int pk), .val (.long pf), .second, .val (.long ps), .second, .val (.long ph), .second, .val (.int (pk &&& (3 : Int32))), .val (.ref w2), .unset, .unset] [(.long ph), (.long pf)])) _
          refine XS.lsub X13.here hx rfl (hb hby at_58) rfl ?_
          show Steps p.tables e below (T13.setTop (mkF m 59 #[.val (.int pk), .val (.long pf), .second, .val (.long ps), .second, .val (.long ph), .second, .val (.int (pk &&& (3 : Int32))), .val (.ref w2), .unset, .unset] [(.long (pf - ph))])) _
          refine XS.lstore X13.here hx rfl (hb hby at_59) rfl (l' := #[.val (.int pk), .val (.long pf), .second, .val (.long ps), .second, .val (.long ph), .second, .val (.int (pk &&& (3 : Int32))), .val (.ref w2), .val (.long (pf - ph)), .second]) rfl ?_
          show Steps p.tables e below (T13.setTop (mkF m 61 #[.val (.int pk), .val (.long pf), .second, .val (.long ps), .second, .val (.long ph), .second, .val (.int (pk &&& (3 : Int32))), .val (.ref w2), .val (.long (pf - ph)), .second] [])) _
          refine XS.goto X13.here hx rfl (pc0 := 61) (pc' := 81) rfl (hb hby at_61) (by decide) (by decide) ?_
          show Steps p.tables e below (T13.setTop (mkF m 81 #[.val (.int pk), .val (.long pf), .second, .val (.long ps), .second, .val (.long ph), .second, .val (.int (pk &&& (3 : Int32))), .val (.ref w2), .val (.long (pf - ph)), .second] [])) _
          refine XS.aload X13.here hx rfl (hb hby at_81) rfl rfl ?_
          show Steps p.tables e below (T13.setTop (mkF m 83 #[.val (.int pk), .val (.long pf), .second, .val (.long ps), .second, .val (.long ph), .second, .val (.int (pk &&& (3 : Int32))), .val (.ref w2), .val (.long (pf - ph)), .second] [(.ref w2)])) _
          refine XS.lloadN X13.here hx rfl (hb hby at_83) rfl ?_
          show Steps p.tables e below (T13.setTop (mkF m 84 #[.val (.int pk), .val (.long pf), .second, .val (.long ps), .second, .val (.long ph), .second, .val (.int (pk &&& (3 : Int32))), .val (.ref w2), .val (.long (pf - ph)), .second] [(.long pf), (.ref w2)])) _
          refine XS.lloadN X13.here hx rfl (hb hby at_84) rfl ?_
          show Steps p.tables e below (T13.setTop (mkF m 85 #[.val (.int pk), .val (.long pf), .second, .val (.long ps), .second, .val (.long ph), .second, .val (.int (pk &&& (3 : Int32))), .val (.ref w2), .val (.long (pf - ph)), .second] [(.long ps), (.long pf), (.ref w2)])) _
          refine XS.lload X13.here hx rfl (hb hby at_85) rfl ?_
          show Steps p.tables e below (T13.setTop (mkF m 87 #[.val (.int pk), .val (.long pf), .second, .val (.long ps), .second, .val (.long ph), .second, .val (.int (pk &&& (3 : Int32))), .val (.ref w2), .val (.long (pf - ph)), .second] [(.long ph), (.long ps), (.long pf), (.ref w2)])) _
          refine st14.trans ?_
          show Steps p.tables e below (T14.setTop (mkF m 90 #[.val (.int pk), .val (.long pf), .second, .val (.long ps), .second, .val (.long ph), .second, .val (.int (pk &&& (3 : Int32))), .val (.ref w2), .val (.long (pf - ph)), .second] [(.long cv)])) _
          refine XS.lload X14.here hx rfl (hb hby at_90) rfl ?_
          show Steps p.tables e below (T14.setTop (mkF m 92 #[.val (.int pk), .val (.long pf), .second, .val (.long ps), .second, .val (.long ph), .second, .val (.int (pk &&& (3 : Int32))), .val (.ref w2), .val (.long (pf - ph)), .second] [(.long (pf - ph)), (.long cv)])) _
          refine XS.lcmp X14.here hx rfl (hb hby at_92) rfl ?_
          show Steps p.tables e below (T14.setTop (mkF m 93 #[.val (.int pk), .val (.long pf), .second, .val (.long ps), .second, .val (.long ph), .second, .val (.int (pk &&& (3 : Int32))), .val (.ref w2), .val (.long (pf - ph)), .second] [(.int (lcmpW cv (pf - ph)))])) _
          refine XS.ifNo X14.here hx rfl (hb hby at_93) rfl ((if0 _ _).trans (teq (by rw [h_cv]; exact own_c2 _ _ _ : (lcmpW cv (pf - ph)) = (0 : Int32))).2) ?_
          show Steps p.tables e below (T14.setTop (mkF m 96 #[.val (.int pk), .val (.long pf), .second, .val (.long ps), .second, .val (.long ph), .second, .val (.int (pk &&& (3 : Int32))), .val (.ref w2), .val (.long (pf - ph)), .second] [])) _
          refine XS.iconst X14.here hx rfl (hb hby at_96) ?_
          show Steps p.tables e below (T14.setTop (mkF m 97 #[.val (.int pk), .val (.long pf), .second, .val (.long ps), .second, .val (.long ph), .second, .val (.int (pk &&& (3 : Int32))), .val (.ref w2), .val (.long (pf - ph)), .second] [(.int (1 : Int32))])) _
          refine XS.goto X14.here hx rfl (pc0 := 97) (pc' := 101) rfl (hb hby at_97) (by decide) (by decide) ?_
          show Steps p.tables e below (T14.setTop (mkF m 101 #[.val (.int pk), .val (.long pf), .second, .val (.long ps), .second, .val (.long ph), .second, .val (.int (pk &&& (3 : Int32))), .val (.ref w2), .val (.long (pf - ph)), .second] [(.int (1 : Int32))])) _
          exact retN X14 hx (t := .boolean) Bd.returns (by simp) (hb hby at_101) hr
        · show Q0 Z pk pf ps ph w0 w1 w2 w3 h0 n0 _ T14.heap _
          rw [e14]
          exact ⟨rfl, N14⟩
      · obtain ⟨T16, X16, e16, st16⟩ := getS2 X0 hx hZ hown (host := "") (Or.inl (hw _ (List.mem_of_getElem? (i := 14) rfl))) Via.refl e0 S3 (g := (mkF m 64 #[.val (.int pk), .val (.long pf), .second, .val (.long ps), .second, .val (.long ph), .second, .val (.int (pk &&& (3 : Int32))), .unset, .unset, .unset] [])) rfl (hb hby at_64)
        obtain ⟨cq17, kq17, q17a, q17b, q17c⟩ := isOf hZ e16 E3
        obtain ⟨_, _, ⟨T17, L17, k17, n17⟩, -, X17, ⟨Lc17, hQ17, l17, y17, z17⟩, st17⟩ := X16.virtualBack hx (y := (⟨"com/example/bitgrove/bitgrove/Combination", "cardinality", "(JJJ)J"⟩ : MethodName)) (z := (⟨"com/example/bitgrove/bitgrove/Combination", "cardinality", "(JJJ)J"⟩ : MethodName)) hown (mvT hZ (hw _ (List.mem_of_getElem? (i := 3) rfl))) (mvT hZ (hw _ (List.mem_of_getElem? (i := 4) rfl))) (notFace_of_selects (args := #[]) (mvT hZ (hw _ (List.mem_of_getElem? (i := 17) rfl)))) (mvT hZ (hw _ (List.mem_of_getElem? (i := 17) rfl))) (mvT hZ (hw _ (List.mem_of_getElem? (i := 5) rfl))) (by decide) (backOf (W := 0) (rm1 l Z a0 hw [] w3 pf ps ph (1 : Int32) (0 : Int32) (1 : Int32) h0 n0 Z0 F3_0 F3_1 F3_2) hZ (hw _ (List.mem_of_getElem? (i := 7) rfl)) (hw _ (List.mem_of_getElem? (i := 1) rfl)) (by decide) (by decide)) q17a q17c (g := (mkF m 87 #[.val (.int pk), .val (.long pf), .second, .val (.long ps), .second, .val (.long ph), .second, .val (.int (pk &&& (3 : Int32))), .val (.ref w3), .val (.long ((pf + ps) - ((2 : Int64) * ph))), .second] [(.long ph), (.long ps), (.long pf), (.ref w3)])) rfl (by rw [hml]; rfl) (Steps.refl _) (argsL := [(.long pf), (.long ps), (.long ph)]) (rest := []) (lenOf pd_0 rfl) rfl (by show 2 * 0 + _ ≤ _; exact Nat.le_of_eq rfl) (hb hby at_87) (fun _ _ => ⟨rfl, e16, (by decide : 0 + 0 ≤ _), (by decide : 0 + 0 ≤ _)⟩)
        dsimp only [Pt.U, Pt.locs, Pt.cells, Pt.slots] at X17 l17 y17 z17 st17 hQ17
        subst l17 y17 z17
        obtain ⟨rfl, N17q, e17⟩ := hQ17
        have N17 := Fr.app N0 N17q
        obtain ⟨cv, h_cv⟩ : ∃ z : Int64, z = (cardF pf ps ph (1 : Int32) (0 : Int32) (1 : Int32)) := ⟨_, rfl⟩
        rw [← h_cv] at st17
        obtain ⟨fs, hr, hrun, hended, hW, hsame⟩ := X17.leave (v := some (.int (1 : Int32))) (fun h => by rw [Bd.returns] at h; cases h)
        refine ⟨_, _, pre11 _ ?_, hrun, hended, _, _, rfl, ?_, ⟨_, rfl⟩, hW, hsame.mono (by decide) (by decide)⟩
        · show Steps p.tables e below (s₁.setTop (mkF m 47 #[.val (.int pk), .val (.long pf), .second, .val (.long ps), .second, .val (.long ph), .second, .val (.int (pk &&& (3 : Int32))), .unset, .unset, .unset] [(.int (2 : Int32)), (.int (pk &&& (3 : Int32)))])) _
          refine XS.icmpYes X0.here hx rfl (pc0 := 47) (pc' := 64) rfl (hb hby at_47) rfl (feq hc47_12).2 (by decide) (by decide) ?_
          show Steps p.tables e below (s₁.setTop (mkF m 64 #[.val (.int pk), .val (.long pf), .second, .val (.long ps), .second, .val (.long ph), .second, .val (.int (pk &&& (3 : Int32))), .unset, .unset, .unset] [])) _
          refine st16 _ ?_
          show Steps p.tables e below (T16.setTop (mkF m 67 #[.val (.int pk), .val (.long pf), .second, .val (.long ps), .second, .val (.long ph), .second, .val (.int (pk &&& (3 : Int32))), .unset, .unset, .unset] [(.ref w3)])) _
          refine XS.astore X16.here hx rfl (hb hby at_67) rfl rfl (l' := #[.val (.int pk), .val (.long pf), .second, .val (.long ps), .second, .val (.long ph), .second, .val (.int (pk &&& (3 : Int32))), .val (.ref w3), .unset, .unset]) rfl ?_
          show Steps p.tables e below (T16.setTop (mkF m 69 #[.val (.int pk), .val (.long pf), .second, .val (.long ps), .second, .val (.long ph), .second, .val (.int (pk &&& (3 : Int32))), .val (.ref w3), .unset, .unset] [])) _
          refine XS.lloadN X16.here hx rfl (hb hby at_69) rfl ?_
          show Steps p.tables e below (T16.setTop (mkF m 70 #[.val (.int pk), .val (.long pf), .second, .val (.long ps), .second, .val (.long ph), .second, .val (.int (pk &&& (3 : Int32))), .val (.ref w3), .unset, .unset] [(.long pf)])) _
          refine XS.lloadN X16.here hx rfl (hb hby at_70) rfl ?_
          show Steps p.tables e below (T16.setTop (mkF m 71 #[.val (.int pk), .val (.long pf), .second, .val (.long ps), .second, .val (.long ph), .second, .val (.int (pk &&& (3 : Int32))), .val (.ref w3), .unset, .unset] [(.long ps), (.long pf)])) _
          refine XS.ladd X16.here hx rfl (hb hby at_71) rfl ?_
          show Steps p.tables e below (T16.setTop (mkF m 72 #[.val (.int pk), .val (.long pf), .second, .val (.long ps), .second, .val (.long ph), .second, .val (.int (pk &&& (3 : Int32))), .val (.ref w3), .unset, .unset] [(.long (pf + ps))])) _
          refine X16.ldc2Long hx hown (mvT hZ (hw _ (List.mem_of_getElem? (i := 16) rfl))) (g := (mkF m 72 #[.val (.int pk), .val (.long pf), .second, .val (.long ps), .second, .val (.long ph), .second, .val (.int (pk &&& (3 : Int32))), .val (.ref w3), .unset, .unset] [(.long (pf + ps))])) rfl (hb hby at_72) _ ?_
          show Steps p.tables e below (T16.setTop (mkF m 75 #[.val (.int pk), .val (.long pf), .second, .val (.long ps), .second, .val (.long ph), .second, .val (.int (pk &&& (3 : Int32))), .val (.ref w3), .unset, .unset] [(.long (2 : Int64)), (.long (pf + ps))])) _
          refine XS.lload X16.here hx rfl (hb hby at_75) rfl ?_
          show Steps p.tables e below (T16.setTop (mkF m 77 #[.val (.int pk), .val (.long pf), .second, .val (.long ps), .second, .val (.long ph), .second, .val (.int (pk &&& (3 : Int32))), .val (.ref w3), .unset, .unset] [(.long ph), (.long (2 : Int64)), (.long (pf + ps))])) _
          refine XS.lmul X16.here hx rfl (hb hby at_77) rfl ?_
          show Steps p.tables e below (T16.setTop (mkF m 78 #[.val (.int pk), .val (.long pf), .second, .val (.long ps), .second, .val (.long ph), .second, .val (.int (pk &&& (3 : Int32))), .val (.ref w3), .unset, .unset] [(.long ((2 : Int64) * ph)), (.long (pf + ps))])) _
          refine XS.lsub X16.here hx rfl (hb hby at_78) rfl ?_
          show Steps p.tables e below (T16.setTop (mkF m 79 #[.val (.int pk), .val (.long pf), .second, .val (.long ps), .second, .val (.long ph), .second, .val (.int (pk &&& (3 : Int32))), .val (.ref w3), .unset, .unset] [(.long ((pf + ps) - ((2 : Int64) * ph)))])) _
          refine XS.lstore X16.here hx rfl (hb hby at_79) rfl (l' := #[.val (.int pk), .val (.long pf), .second, .val (.long ps), .second, .val (.long ph), .second, .val (.int (pk &&& (3 : Int32))), .val (.ref w3), .val (.long ((pf + ps) - ((2 : Int64) * ph))), .second]) rfl ?_
          show Steps p.tables e below (T16.setTop (mkF m 81 #[.val (.int pk), .val (.long pf), .second, .val (.long ps), .second, .val (.long ph), .second, .val (.int (pk &&& (3 : Int32))), .val (.ref w3), .val (.long ((pf + ps) - ((2 : Int64) * ph))), .second] [])) _
          refine XS.aload X16.here hx rfl (hb hby at_81) rfl rfl ?_
          show Steps p.tables e below (T16.setTop (mkF m 83 #[.val (.int pk), .val (.long pf), .second, .val (.long ps), .second, .val (.long ph), .second, .val (.int (pk &&& (3 : Int32))), .val (.ref w3), .val (.long ((pf + ps) - ((2 : Int64) * ph))), .second] [(.ref w3)])) _
          refine XS.lloadN X16.here hx rfl (hb hby at_83) rfl ?_
          show Steps p.tables e below (T16.setTop (mkF m 84 #[.val (.int pk), .val (.long pf), .second, .val (.long ps), .second, .val (.long ph), .second, .val (.int (pk &&& (3 : Int32))), .val (.ref w3), .val (.long ((pf + ps) - ((2 : Int64) * ph))), .second] [(.long pf), (.ref w3)])) _
          refine XS.lloadN X16.here hx rfl (hb hby at_84) rfl ?_
          show Steps p.tables e below (T16.setTop (mkF m 85 #[.val (.int pk), .val (.long pf), .second, .val (.long ps), .second, .val (.long ph), .second, .val (.int (pk &&& (3 : Int32))), .val (.ref w3), .val (.long ((pf + ps) - ((2 : Int64) * ph))), .second] [(.long ps), (.long pf), (.ref w3)])) _
          refine XS.lload X16.here hx rfl (hb hby at_85) rfl ?_
          show Steps p.tables e below (T16.setTop (mkF m 87 #[.val (.int pk), .val (.long pf), .second, .val (.long ps), .second, .val (.long ph), .second, .val (.int (pk &&& (3 : Int32))), .val (.ref w3), .val (.long ((pf + ps) - ((2 : Int64) * ph))), .second] [(.long ph), (.long ps), (.long pf), (.ref w3)])) _
          refine st17.trans ?_
          show Steps p.tables e below (T17.setTop (mkF m 90 #[.val (.int pk), .val (.long pf), .second, .val (.long ps), .second, .val (.long ph), .second, .val (.int (pk &&& (3 : Int32))), .val (.ref w3), .val (.long ((pf + ps) - ((2 : Int64) * ph))), .second] [(.long cv)])) _
          refine XS.lload X17.here hx rfl (hb hby at_90) rfl ?_
          show Steps p.tables e below (T17.setTop (mkF m 92 #[.val (.int pk), .val (.long pf), .second, .val (.long ps), .second, .val (.long ph), .second, .val (.int (pk &&& (3 : Int32))), .val (.ref w3), .val (.long ((pf + ps) - ((2 : Int64) * ph))), .second] [(.long ((pf + ps) - ((2 : Int64) * ph))), (.long cv)])) _
          refine XS.lcmp X17.here hx rfl (hb hby at_92) rfl ?_
          show Steps p.tables e below (T17.setTop (mkF m 93 #[.val (.int pk), .val (.long pf), .second, .val (.long ps), .second, .val (.long ph), .second, .val (.int (pk &&& (3 : Int32))), .val (.ref w3), .val (.long ((pf + ps) - ((2 : Int64) * ph))), .second] [(.int (lcmpW cv ((pf + ps) - ((2 : Int64) * ph))))])) _
          refine XS.ifNo X17.here hx rfl (hb hby at_93) rfl ((if0 _ _).trans (teq (by rw [h_cv]; exact own_c3 _ _ _ : (lcmpW cv ((pf + ps) - ((2 : Int64) * ph))) = (0 : Int32))).2) ?_
          show Steps p.tables e below (T17.setTop (mkF m 96 #[.val (.int pk), .val (.long pf), .second, .val (.long ps), .second, .val (.long ph), .second, .val (.int (pk &&& (3 : Int32))), .val (.ref w3), .val (.long ((pf + ps) - ((2 : Int64) * ph))), .second] [])) _
          refine XS.iconst X17.here hx rfl (hb hby at_96) ?_
          show Steps p.tables e below (T17.setTop (mkF m 97 #[.val (.int pk), .val (.long pf), .second, .val (.long ps), .second, .val (.long ph), .second, .val (.int (pk &&& (3 : Int32))), .val (.ref w3), .val (.long ((pf + ps) - ((2 : Int64) * ph))), .second] [(.int (1 : Int32))])) _
          refine XS.goto X17.here hx rfl (pc0 := 97) (pc' := 101) rfl (hb hby at_97) (by decide) (by decide) ?_
          show Steps p.tables e below (T17.setTop (mkF m 101 #[.val (.int pk), .val (.long pf), .second, .val (.long ps), .second, .val (.long ph), .second, .val (.int (pk &&& (3 : Int32))), .val (.ref w3), .val (.long ((pf + ps) - ((2 : Int64) * ph))), .second] [(.int (1 : Int32))])) _
          exact retN X17 hx (t := .boolean) Bd.returns (by simp) (hb hby at_101) hr
        · show Q0 Z pk pf ps ph w0 w1 w2 w3 h0 n0 _ T17.heap _
          rw [e17]
          exact ⟨rfl, N17⟩
set_option maxRecDepth 65536 in
set_option maxHeartbeats 40000000 in
theorem comes_1 {Post : Tables → Env → Array Value → State → Outcome → State → Prop} (hpost : ∀ tb e args s v u, (limb_1_1.after args s (.returned v) u = true ∧ limb_1_2.after args s (.returned v) u = true ∧ True) → FrameEnd s (.returned v) u (Jvm.fieldLocs frame_1_writes args s ++ Jvm.arrayLocs frame_1_arrays args s ++ Jvm.staticLocs frame_1_statics s) 0 0 → Post tb e args s (.returned v) u) :
    ArmFor flags0 classFile x code maxLocals ret World_1 tables_1 room_1 Calls_1 rest_1 Pre_1 Post := by
  intro l hfl _ _ p e ha hc hk s m args below hf hA hF happ hP
  obtain ⟨hcalls, hrest, hpre⟩ := hP
  obtain ⟨-, -, -, hnamed, -, -, -, hat⟩ := (Spec.applies_iff hf).mp happ
  obtain ⟨hg, hn⟩ := and_e (Cond.before_iff.mp (show (Jvm.Cond.and given_1 narrow_1).before args s = true from hpre))
  obtain ⟨g1, g2⟩ := and_e hg
  obtain ⟨g3, g4⟩ := and_e g2
  obtain ⟨g5, g6⟩ := and_e g4
  obtain ⟨g7, g8⟩ := and_e g6
  obtain ⟨w0, w1, w2, w3, rfl⟩ : ∃ w0 w1 w2 w3 : Value, args = #[w0, w1, w2, w3] := by
    have hs : args.size = 4 := by simpa [Cond.value, given_1] using g1
    obtain ⟨L⟩ := args
    match L, hs with
    | [w0, w1, w2, w3], _ => exact ⟨w0, w1, w2, w3, rfl⟩
  have hw := fun d (hd : d ∈ tables_1) => atoms_spec (ws := Jvm.Cond.code x code maxLocals ret :: tables_1) hat d (List.mem_cons_of_mem _ hd)
  have hfit : Fit s := fun {y c} hc i hi => by
    obtain ⟨ha, rfl⟩ := Array.getElem?_eq_some_iff.mp hc
    have q := List.all_eq_true.mp ((Array.all_eq_true_iff_forall_mem.mp hF) _ (Array.getElem_mem ha)) i (List.mem_range.mpr hi)
    simpa [Array.getElem?_eq_getElem hi] using q
  obtain ⟨i0, ei0⟩ := is_v g3
  obtain rfl : w0 = (.int i0) := Option.some.inj ei0
  obtain ⟨i1, ei1⟩ := isL_v g5
  obtain rfl : w1 = (.long i1) := Option.some.inj ei1
  obtain ⟨i2, ei2⟩ := isL_v g7
  obtain rfl : w2 = (.long i2) := Option.some.inj ei2
  obtain ⟨i3, ei3⟩ := isL_v g8
  obtain rfl : w3 = (.long i3) := Option.some.inj ei3
  obtain ⟨k9, k10⟩ := and_e hn
  obtain ⟨k11, k12⟩ := and_e k10
  obtain ⟨k13, k14⟩ := and_e k12
  obtain ⟨k15, k16⟩ := and_e k14
  obtain ⟨k17, k18⟩ := and_e k16
  obtain ⟨k19, k20⟩ := and_e k18
  obtain ⟨k21, k22⟩ := and_e k20
  obtain ⟨k23, k24⟩ := and_e k22
  obtain ⟨k25, k26⟩ := and_e k24
  obtain ⟨k27, k28⟩ := and_e k26
  obtain ⟨k29, k30⟩ := and_e k28
  obtain ⟨k31, k32⟩ := and_e k30
  obtain ⟨k33, k34⟩ := and_e k32
  obtain ⟨k35, k36⟩ := and_e k34
  obtain ⟨k37, k38⟩ := and_e k36
  obtain ⟨a0, e0⟩ := exa_v k9
  have E0 := Exa.start e0 k9
  have S0 := Sta.start e0 (Or.inr ⟨(hw _ (List.mem_of_getElem? (i := 1) rfl)), (hw _ (List.mem_of_getElem? (i := 2) rfl))⟩)
  have F0_0 := Fld.start ((fld_at e0).symm.trans (eqv_i (Term.int_eval 1) k11))
  have F0_1 := Fld.start ((fld_at e0).symm.trans (eqv_i (Term.int_eval 1) k13))
  have F0_2 := Fld.start ((fld_at e0).symm.trans (eqv_i (Term.int_eval 1) k15))
  obtain ⟨a1, e1⟩ := exa_v k25
  have E1 := Exa.start e1 k25
  have S1 := Sta.start e1 (Or.inr ⟨(hw _ (List.mem_of_getElem? (i := 1) rfl)), (hw _ (List.mem_of_getElem? (i := 22) rfl))⟩)
  have F1_0 := Fld.start ((fld_at e1).symm.trans (eqv_i (Term.int_eval 0) k27))
  have F1_1 := Fld.start ((fld_at e1).symm.trans (eqv_i (Term.int_eval 1) k29))
  have F1_2 := Fld.start ((fld_at e1).symm.trans (eqv_i (Term.int_eval 0) k31))
  obtain ⟨a2, e2⟩ := exa_v k33
  have E2 := Exa.start e2 k33
  have S2 := Sta.start e2 (Or.inr ⟨(hw _ (List.mem_of_getElem? (i := 1) rfl)), (hw _ (List.mem_of_getElem? (i := 28) rfl))⟩)
  have F2_0 := Fld.start ((fld_at e2).symm.trans (eqv_i (Term.int_eval 1) k35))
  have F2_1 := Fld.start ((fld_at e2).symm.trans (eqv_i (Term.int_eval 0) k37))
  have F2_2 := Fld.start ((fld_at e2).symm.trans (eqv_i (Term.int_eval 0) k38))
  obtain ⟨a3, e3⟩ := exa_v k17
  have E3 := Exa.start e3 k17
  have S3 := Sta.start e3 (Or.inr ⟨(hw _ (List.mem_of_getElem? (i := 1) rfl)), (hw _ (List.mem_of_getElem? (i := 15) rfl))⟩)
  have F3_0 := Fld.start ((fld_at e3).symm.trans (eqv_i (Term.int_eval 1) k19))
  have F3_1 := Fld.start ((fld_at e3).symm.trans (eqv_i (Term.int_eval 0) k21))
  have F3_2 := Fld.start ((fld_at e3).symm.trans (eqv_i (Term.int_eval 1) k23))
  obtain ⟨n, o, h1, h2, h3, _, L, rfl, ⟨rfl, N⟩, hq⟩ := rm0 l s _ hw tables_1 i0 i1 i2 i3 a0 a1 a2 a3 s.heap s.heap.size (Nat.le_refl _) S0 E0 F0_0 F0_1 F0_2 S1 E1 F1_0 F1_1 F1_2 S2 E2 F2_0 F2_1 F2_2 S3 E3 F3_0 F3_1 F3_2 p e ha hc hk s m _ below hf ((Spec.applies_iff_loose hf).mp happ).1 ⟨rfl, State.Warmed39.refl s, rfl⟩ trivial
  refine ⟨n, _, h1, h2, h3, hpost _ _ _ _ _ _ ⟨Cond.after_iff.mpr rfl, Cond.after_iff.mpr (eq_i res_at (Term.int_eval (1)) rfl), trivial⟩ ⟨hq.1, hq.2.1, (hq.2.2.sift fun y hy => Or.inr (N y hy)).mono (by decide) (by decide)⟩⟩
theorem main_1_1 : Claimed_1_1 := comes_1 fun _ _ _ _ _ _ h hF => ⟨h.1, hF⟩
theorem main_1_2 : Claimed_1_2 := comes_1 fun _ _ _ _ _ _ h hF => ⟨h.2.1, hF⟩
end Jvm.Pilot.@@N@@
namespace Jvm.Pilot.@@N@@
open Jvm Jvm.ClassFile Sem Op Lib Jvm.Free Jvm.Stand Jvm.Pilot.@@N@@.Jvm.D
/-! MADE BY PROGRAM (witnessworld.py) out of the Statement's table words and the real class files: 16 classes; the members and pool entries that the words name. The judged class is class 1, her method 1. -/
namespace start1
open Jvm.ClassFile
def u (s : String) : CpInfo := .utf8 (stringToUtf16 s)
/-- a pool by its gaps: so many unusable entries, then the entry; so many at the end -/
def gap : Nat → List CpInfo → List CpInfo
  | 0, r => r
  | n + 1, r => .unusable :: gap n r
def poolList (es : List (Nat × CpInfo)) (last : Nat) : List CpInfo := es.foldr (fun e r => gap e.1 (e.2 :: r)) (gap last [])
def pool (es : List (Nat × CpInfo)) (last : Nat) : Array CpInfo := ⟨poolList es last⟩
def fileOf (pool : Array CpInfo) (this : Nat) (attrs : Array Attribute := #[]) (ms : Array MethodInfo := #[]) (fl : Nat := 33) (sup : Nat := 0) (ifs : Array Nat := #[]) (fds : Array FieldInfo := #[]) : ClassFile where
  minorVersion := 0
  majorVersion := 65
  constantPool := pool
  accessFlags := fl
  thisClass := this
  superClass := sup
  interfaces := ifs
  fields := fds
  methods := ms
  attributes := attrs
def plain (name : String) (sup : Option ClassId) : Class where
  name := name
  kind := .ordinary
  loader := none
  accessFlags := 33
  super := sup
  interfaces := #[]
  cf := none
  fields := #[]
  methods := #[]
  instanceTypes := #[]
  staticTypes := #[]
  resolved := #[]
  callSites := []
  init := .initialized
  statics := none
  mirror := none

def pool0 : Array CpInfo := pool [(5, u "<init>"), (0, u "()V"), (1, .class_ 10), (1, u "java/lang/Object")] 113

def k0m0 : Method := { name := "<init>", desc := "()V", sig := { parameters := [], returnType := none }, accessFlags := 1, code := none }
/-- java/lang/Object -/
def k0 : Class := { plain "java/lang/Object" none with
  accessFlags := 33
  interfaces := #[]
  cf := some (fileOf pool0 8 #[] #[{ accessFlags := 1, nameIndex := 5, descriptorIndex := 6, attributes := #[] }] 33 0 #[] #[])
  fields := #[]
  methods := #[k0m0]
  instanceTypes := #[]
  staticTypes := #[]
  resolved := Array.replicate 124 none
  statics := none }

def pool1 : Array CpInfo := pool [(2, .class_ 4), (1, u "java/lang/Object"), (0, u "<init>"), (0, u "()V"), (0, .fieldref 8 9), (0, .class_ 10), (0, .nameAndType 11 12), (0, u "com/example/bitgrove/bitgrove/Combination"), (0, u "UNION"), (0, u "Lcom/example/bitgrove/bitgrove/Combination;"), (0, .fieldref 8 14), (0, .nameAndType 15 12), (0, u "INTERSECTION"), (0, .fieldref 8 17), (0, .nameAndType 18 12), (0, u "DIFFERENCE"), (0, .fieldref 8 20), (0, .nameAndType 21 12), (0, u "SYMMETRIC_DIFFERENCE"), (0, .long 2), (1, .methodref 8 25), (0, .nameAndType 26 27), (0, u "cardinality"), (0, u "(JJJ)J"), (0, .class_ 29), (0, u "com/example/bitgrove/bitgrove/CombinationCardinalityPinLaw"), (2, u "law"), (0, u "(IJJJ)Z")] 3

def k1m0 : Method := { name := "<init>", desc := "()V", sig := { parameters := [], returnType := none }, accessFlags := 1, code := none }
def k1c1 : Code := { maxStack := 7, maxLocals := 11, code := code, exceptionTable := #[], attributes := #[] }
def k1m1 : Method := { name := "law", desc := "(IJJJ)Z", sig := { parameters := [.int, .long, .long, .long], returnType := some .boolean }, accessFlags := 9, code := some k1c1 }
/-- com/example/bitgrove/bitgrove/CombinationCardinalityPinLaw -/
def k1 : Class := { plain "com/example/bitgrove/bitgrove/CombinationCardinalityPinLaw" (some 0) with
  accessFlags := 49
  interfaces := #[]
  cf := some (fileOf pool1 28 #[] #[{ accessFlags := 1, nameIndex := 5, descriptorIndex := 6, attributes := #[] }, { accessFlags := 9, nameIndex := 32, descriptorIndex := 33, attributes := #[] }] 49 2 #[] #[])
  fields := #[]
  methods := #[k1m0, k1m1]
  instanceTypes := #[]
  staticTypes := #[]
  resolved := Array.replicate 37 none
  statics := none }

def pool2 : Array CpInfo := pool [(1, .class_ 2), (0, u "java/lang/constant/Constable"), (0, .class_ 4), (0, u "java/lang/Object")] 6

/-- java/lang/constant/Constable -/
def k2 : Class := { plain "java/lang/constant/Constable" (some 0) with
  accessFlags := 1537
  interfaces := #[]
  cf := some (fileOf pool2 1 #[] #[] 1537 3 #[] #[])
  fields := #[]
  methods := #[]
  instanceTypes := #[]
  staticTypes := #[]
  resolved := Array.replicate 11 none
  statics := none }

def pool3 : Array CpInfo := pool [(1, .class_ 2), (0, u "java/lang/Comparable"), (0, .class_ 4), (0, u "java/lang/Object")] 7

/-- java/lang/Comparable -/
def k3 : Class := { plain "java/lang/Comparable" (some 0) with
  accessFlags := 1537
  interfaces := #[]
  cf := some (fileOf pool3 1 #[] #[] 1537 3 #[] #[])
  fields := #[]
  methods := #[]
  instanceTypes := #[]
  staticTypes := #[]
  resolved := Array.replicate 12 none
  statics := none }

def pool4 : Array CpInfo := pool [(1, .class_ 2), (0, u "java/io/Serializable"), (0, .class_ 4), (0, u "java/lang/Object")] 2

/-- java/io/Serializable -/
def k4 : Class := { plain "java/io/Serializable" (some 0) with
  accessFlags := 1537
  interfaces := #[]
  cf := some (fileOf pool4 1 #[] #[] 1537 3 #[] #[])
  fields := #[]
  methods := #[]
  instanceTypes := #[]
  staticTypes := #[]
  resolved := Array.replicate 7 none
  statics := none }

def pool5 : Array CpInfo := pool [(2, .class_ 4), (1, u "java/lang/Enum"), (0, u "name"), (0, u "Ljava/lang/String;"), (2, u "ordinal"), (0, u "I"), (1, .class_ 14), (1, u "java/lang/Object"), (4, u "hash"), (86, .class_ 108), (1, u "java/lang/Enum$EnumDesc"), (2, .class_ 112), (0, u "java/lang/constant/Constable"), (0, .class_ 114), (0, u "java/lang/Comparable"), (0, .class_ 116), (0, u "java/io/Serializable")] 87

/-- java/lang/Enum -/
def k5 : Class := { plain "java/lang/Enum" (some 0) with
  accessFlags := 1057
  interfaces := #[2, 3, 4]
  cf := some (fileOf pool5 2 #[.nestMembers #[106]] #[] 1057 12 #[111, 113, 115] #[{ accessFlags := 18, nameIndex := 5, descriptorIndex := 6, attributes := #[] }, { accessFlags := 18, nameIndex := 9, descriptorIndex := 10, attributes := #[] }, { accessFlags := 2, nameIndex := 19, descriptorIndex := 10, attributes := #[] }])
  fields := #[{ name := "name", type := (.object "java/lang/String"), accessFlags := 18, slot := 0, constantValue := 0 }, { name := "ordinal", type := .int, accessFlags := 18, slot := 1, constantValue := 0 }, { name := "hash", type := .int, accessFlags := 2, slot := 2, constantValue := 0 }]
  methods := #[]
  instanceTypes := #[(.object "java/lang/String"), .int, .int]
  staticTypes := #[]
  resolved := Array.replicate 204 none
  statics := none }

def pool6 : Array CpInfo := pool [(1, .class_ 2), (0, u "com/example/bitgrove/bitgrove/Combination"), (2, u "UNION"), (0, u "Lcom/example/bitgrove/bitgrove/Combination;"), (2, u "INTERSECTION"), (2, u "DIFFERENCE"), (2, u "SYMMETRIC_DIFFERENCE"), (2, u "$VALUES"), (0, u "[Lcom/example/bitgrove/bitgrove/Combination;"), (6, .class_ 28), (1, u "java/lang/Enum"), (6, .fieldref 1 36), (0, .nameAndType 37 38), (0, u "keepsFirstOnly"), (0, u "Z"), (0, .fieldref 1 40), (0, .nameAndType 41 38), (0, u "keepsBoth"), (0, .fieldref 1 43), (0, .nameAndType 44 38), (0, u "keepsSecondOnly"), (6, .class_ 52), (0, u "com/example/bitgrove/bitgrove/Combination$1"), (4, .class_ 58), (0, u "com/example/bitgrove/bitgrove/Combination$2"), (2, .class_ 62), (0, u "com/example/bitgrove/bitgrove/Combination$3"), (2, .class_ 66), (0, u "com/example/bitgrove/bitgrove/Combination$4"), (15, u "cardinality"), (0, u "(JJJ)J")] 10

def k6c0 : Code := { maxStack := 6, maxLocals := 7, code := prog_15_method_5_code, exceptionTable := #[], attributes := #[] }
def k6m0 : Method := { name := "cardinality", desc := "(JJJ)J", sig := { parameters := [.long, .long, .long], returnType := some .long }, accessFlags := 0, code := some k6c0 }
/-- com/example/bitgrove/bitgrove/Combination -/
def k6 : Class := { plain "com/example/bitgrove/bitgrove/Combination" (some 5) with
  accessFlags := 17440
  interfaces := #[]
  cf := some (fileOf pool6 1 #[.nestMembers #[65, 61, 57, 51]] #[{ accessFlags := 0, nameIndex := 82, descriptorIndex := 83, attributes := #[] }] 17440 26 #[] #[{ accessFlags := 16409, nameIndex := 5, descriptorIndex := 6, attributes := #[] }, { accessFlags := 16409, nameIndex := 9, descriptorIndex := 6, attributes := #[] }, { accessFlags := 16409, nameIndex := 12, descriptorIndex := 6, attributes := #[] }, { accessFlags := 16409, nameIndex := 15, descriptorIndex := 6, attributes := #[] }, { accessFlags := 16, nameIndex := 37, descriptorIndex := 38, attributes := #[] }, { accessFlags := 16, nameIndex := 41, descriptorIndex := 38, attributes := #[] }, { accessFlags := 16, nameIndex := 44, descriptorIndex := 38, attributes := #[] }, { accessFlags := 4122, nameIndex := 18, descriptorIndex := 19, attributes := #[] }])
  fields := #[{ name := "UNION", type := (.object "com/example/bitgrove/bitgrove/Combination"), accessFlags := 16409, slot := 0, constantValue := 0 }, { name := "INTERSECTION", type := (.object "com/example/bitgrove/bitgrove/Combination"), accessFlags := 16409, slot := 1, constantValue := 0 }, { name := "DIFFERENCE", type := (.object "com/example/bitgrove/bitgrove/Combination"), accessFlags := 16409, slot := 2, constantValue := 0 }, { name := "SYMMETRIC_DIFFERENCE", type := (.object "com/example/bitgrove/bitgrove/Combination"), accessFlags := 16409, slot := 3, constantValue := 0 }, { name := "keepsFirstOnly", type := .boolean, accessFlags := 16, slot := 3, constantValue := 0 }, { name := "keepsBoth", type := .boolean, accessFlags := 16, slot := 4, constantValue := 0 }, { name := "keepsSecondOnly", type := .boolean, accessFlags := 16, slot := 5, constantValue := 0 }, { name := "$VALUES", type := (.array (.object "com/example/bitgrove/bitgrove/Combination")), accessFlags := 4122, slot := 4, constantValue := 0 }]
  methods := #[k6m0]
  instanceTypes := #[(.object "java/lang/String"), .int, .int, .boolean, .boolean, .boolean]
  staticTypes := #[(.object "com/example/bitgrove/bitgrove/Combination"), (.object "com/example/bitgrove/bitgrove/Combination"), (.object "com/example/bitgrove/bitgrove/Combination"), (.object "com/example/bitgrove/bitgrove/Combination"), (.array (.object "com/example/bitgrove/bitgrove/Combination"))]
  resolved := Array.replicate 94 none
  statics := some 0 }

def pool7 : Array CpInfo := pool [(2, .class_ 4), (1, u "com/example/bitgrove/bitgrove/Combination"), (8, .class_ 14), (0, u "com/example/bitgrove/bitgrove/Combination$1")] 10

/-- com/example/bitgrove/bitgrove/Combination$1 -/
def k7 : Class := { plain "com/example/bitgrove/bitgrove/Combination$1" (some 6) with
  accessFlags := 16432
  interfaces := #[]
  cf := some (fileOf pool7 13 #[.nestHost 2] #[] 16432 2 #[] #[])
  fields := #[]
  methods := #[]
  instanceTypes := #[(.object "java/lang/String"), .int, .int, .boolean, .boolean, .boolean]
  staticTypes := #[]
  resolved := Array.replicate 25 none
  statics := none }

def pool8 : Array CpInfo := pool [(2, .class_ 4), (1, u "com/example/bitgrove/bitgrove/Combination"), (8, .class_ 14), (0, u "com/example/bitgrove/bitgrove/Combination$4")] 10

/-- com/example/bitgrove/bitgrove/Combination$4 -/
def k8 : Class := { plain "com/example/bitgrove/bitgrove/Combination$4" (some 6) with
  accessFlags := 16432
  interfaces := #[]
  cf := some (fileOf pool8 13 #[.nestHost 2] #[] 16432 2 #[] #[])
  fields := #[]
  methods := #[]
  instanceTypes := #[(.object "java/lang/String"), .int, .int, .boolean, .boolean, .boolean]
  staticTypes := #[]
  resolved := Array.replicate 25 none
  statics := none }

def pool9 : Array CpInfo := pool [(2, .class_ 4), (1, u "com/example/bitgrove/bitgrove/Combination"), (11, .class_ 17), (0, u "com/example/bitgrove/bitgrove/Combination$2")] 11

/-- com/example/bitgrove/bitgrove/Combination$2 -/
def k9 : Class := { plain "com/example/bitgrove/bitgrove/Combination$2" (some 6) with
  accessFlags := 16432
  interfaces := #[]
  cf := some (fileOf pool9 16 #[.nestHost 2] #[] 16432 2 #[] #[])
  fields := #[]
  methods := #[]
  instanceTypes := #[(.object "java/lang/String"), .int, .int, .boolean, .boolean, .boolean]
  staticTypes := #[]
  resolved := Array.replicate 29 none
  statics := none }

def pool10 : Array CpInfo := pool [(2, .class_ 4), (1, u "com/example/bitgrove/bitgrove/Combination"), (8, .class_ 14), (0, u "com/example/bitgrove/bitgrove/Combination$3")] 10

/-- com/example/bitgrove/bitgrove/Combination$3 -/
def k10 : Class := { plain "com/example/bitgrove/bitgrove/Combination$3" (some 6) with
  accessFlags := 16432
  interfaces := #[]
  cf := some (fileOf pool10 13 #[.nestHost 2] #[] 16432 2 #[] #[])
  fields := #[]
  methods := #[]
  instanceTypes := #[(.object "java/lang/String"), .int, .int, .boolean, .boolean, .boolean]
  staticTypes := #[]
  resolved := Array.replicate 25 none
  statics := none }

def pool11 : Array CpInfo := pool [(1, u "java/lang/Cloneable"), (0, .class_ 1), (0, u "java/lang/Object"), (0, .class_ 3)] 3

/-- java/lang/Cloneable -/
def k11 : Class := { plain "java/lang/Cloneable" (some 0) with
  accessFlags := 1537
  interfaces := #[]
  cf := some (fileOf pool11 2 #[] #[] 1537 4 #[] #[])
  fields := #[]
  methods := #[]
  instanceTypes := #[]
  staticTypes := #[]
  resolved := Array.replicate 8 none
  statics := none }

/-- the primitive byte -/
def k12 : Class := { plain "byte" none with kind := .primitive 'B', accessFlags := 0x411 }
/-- [B -/
def k13 : Class := { plain "[B" (some 0) with kind := .array 12 .byte, interfaces := #[11, 4], accessFlags := 1041 }

/-- the primitive int -/
def k14 : Class := { plain "int" none with kind := .primitive 'I', accessFlags := 0x411 }
/-- [I -/
def k15 : Class := { plain "[I" (some 0) with kind := .array 14 .int, interfaces := #[11, 4], accessFlags := 1041 }

def heap : Heap := #[{ cls := 6, slots := #[.ref 1, .ref 2, .ref 3, .ref 4, .null], vm := .statics 6 },
  { cls := 7, slots := #[.null, .int 0, .int 0, .int 1, .int 1, .int 1], vm := .none },
  { cls := 9, slots := #[.null, .int 1, .int 0, .int 0, .int 1, .int 0], vm := .none },
  { cls := 10, slots := #[.null, .int 2, .int 0, .int 1, .int 0, .int 0], vm := .none },
  { cls := 8, slots := #[.null, .int 3, .int 0, .int 1, .int 0, .int 1], vm := .none }]
def classes : Array Class := #[k0, k1, k2, k3, k4, k5, k6, k7, k8, k9, k10, k11, k12, k13, k14, k15]
def interned : List (Array UInt16 × Addr) := []
def slotsUsed : Nat := 29
def theMethod : MethodId := ⟨1, 1⟩
def args0 : Array Value := #[.int 0, .long 3, .long 2, .long 1]
def aboutOver (below : List Frame) : State where
  vm := { classes := classes, interned := interned.toArray }
  heap := heap
  slotsUsed := slotsUsed
  threads := #[{ frames := .invoking theMethod args0 :: below }]
def below0 : List Frame := [.native { method := ⟨0, 0⟩, args := #[] }]
def about1 : State := aboutOver below0
def p0 : Program := .bare "" "" ""
def e0 : Env := launch0.env 0 0 0
theorem w_frames : about1.frames = Frame.invoking theMethod args0 :: below0 := rfl
set_option maxRecDepth 65536 in
theorem w_args : argsFit about1.vm theMethod args0 = true := by decide +kernel
set_option maxRecDepth 65536 in
theorem w_heap : heapFits about1 = true := by decide +kernel
set_option maxRecDepth 65536 in
theorem w_runnable : about1.curStatus? = some .runnable := by decide +kernel
set_option maxRecDepth 65536 in
theorem w_alone : about1.alone = true := by decide +kernel
set_option maxRecDepth 65536 in
theorem w_named : about1.methodNamed? x = some theMethod := by decide +kernel
set_option maxRecDepth 65536 in
theorem w_hears : about1.hears theMethod below0 = true := by decide +kernel
set_option maxRecDepth 65536 in
theorem w_ripe : about1.ripe theMethod args0 below0 = true := by decide +kernel
theorem w_running : about1.status = .running := rfl
set_option maxRecDepth 65536 in
theorem w_room : about1.hasRoom e0.platform room_1 = true :=
  launch0.hasRoom_least _ room_1 (by decide +kernel) (by decide +kernel) (by decide +kernel) (by decide +kernel) (by decide +kernel) (by decide +kernel)
theorem allAtoms_all (ts : List Jvm.Cond) (a : Array Jvm.Value) (st : Jvm.State) : (allAtoms ts).before a st = ts.all (fun c => c.before a st) := by
  induction ts with
  | nil => rfl
  | cons c t ih =>
    show (Jvm.Cond.and c (allAtoms t)).before a st = _
    rw [Jvm.Cond.before_and, ih, List.all_cons]
def words1 : List Jvm.Cond := Jvm.Cond.code x code maxLocals ret :: tables_1
/-- a 'code' word, met by the world's own term for the bytes: nothing is compared byte by byte -/
theorem code_word {y : MethodName} {bytes : ByteArray} {mx : Nat} {rt : Option FieldType} {a : Array Value} {s : State} {m : MethodId} {meth : Method} {c : Code} (h1 : s.methodNamed? y = some m) (h2 : s.vm.method? m = some meth) (h3 : meth.code = some c) (h4 : c.code = bytes)
    (h5 : (c.maxLocals == mx && c.exceptionTable.isEmpty && decide (c.maxStack ≤ mostOperands) && decide (meth.sig.returnType = rt) && !meth.locks && decide (parseMethodDescriptor y.desc = some meth.sig)) = true) : (Jvm.Cond.code y bytes mx rt).before a s = true := by
  simp only [Bool.and_eq_true, beq_iff_eq, Bool.not_eq_true', decide_eq_true_eq] at h5
  obtain ⟨⟨⟨⟨⟨g1, g2⟩, g3⟩, g4⟩, g5⟩, g6⟩ := h5
  simp [Cond.before, Cond.holds, Cond.value, h1, h2, h3, h4, g1, g2, g3, g4, g5, g6]
def isCode : Jvm.Cond → Bool
  | .code _ _ _ _ => true
  | _ => false
theorem all_split {L : List Jvm.Cond} {P : Jvm.Cond → Bool} (h1 : L.all (fun c => isCode c || P c) = true) (h2 : ∀ c ∈ L.filter isCode, P c = true) : L.all P = true := by
  refine List.all_eq_true.mpr fun c hc => ?_
  have h := List.all_eq_true.mp h1 c hc
  rcases Bool.eq_false_or_eq_true (isCode c) with hi | hi
  · exact h2 c (List.mem_filter.mpr ⟨hc, hi⟩)
  · simpa [hi] using h
set_option maxRecDepth 65536 in
theorem w_c0 : (Jvm.Cond.code x code maxLocals ret).before args0 about1 = true := code_word (m := ⟨1, 1⟩) (meth := k1m1) (c := k1c1) (by decide +kernel) rfl rfl rfl (by decide +kernel)
set_option maxRecDepth 65536 in
theorem w_c1 : (Jvm.Cond.code ({ cls := "com/example/bitgrove/bitgrove/Combination", name := "cardinality", desc := "(JJJ)J" } : Jvm.MethodName) prog_15_method_5_code (7 : Nat) (Option.some Jvm.ClassFile.FieldType.long)).before args0 about1 = true := code_word (m := ⟨6, 0⟩) (meth := k6m0) (c := k6c0) (by decide +kernel) rfl rfl rfl (by decide +kernel)
def codes1 : List Jvm.Cond := [Jvm.Cond.code x code maxLocals ret, Jvm.Cond.code ({ cls := "com/example/bitgrove/bitgrove/Combination", name := "cardinality", desc := "(JJJ)J" } : Jvm.MethodName) prog_15_method_5_code (7 : Nat) (Option.some Jvm.ClassFile.FieldType.long)]
set_option maxRecDepth 65536 in
theorem codes_eq : words1.filter isCode = codes1 := rfl
theorem w_codes : ∀ c ∈ words1.filter isCode, c.before args0 about1 = true := by
  rw [codes_eq]
  intro c hc
  simp only [codes1, List.mem_cons, List.not_mem_nil, or_false] at hc
  rcases hc with rfl | rfl
  · exact w_c0
  · exact w_c1
set_option maxRecDepth 65536 in
theorem w_t1 : (words1.take 24).all (fun c => isCode c || c.before args0 about1) = true := by decide +kernel
set_option maxRecDepth 65536 in
theorem w_t2 : (words1.drop 24).all (fun c => isCode c || c.before args0 about1) = true := by decide +kernel
theorem w_tables : (allAtoms (Jvm.Cond.code x code maxLocals ret :: tables_1)).before args0 about1 = true := by
  rw [allAtoms_all]
  show words1.all (fun c => c.before args0 about1) = true
  refine all_split ?_ w_codes
  rw [← List.take_append_drop 24 words1, List.all_append, w_t1, w_t2]
  rfl
set_option maxRecDepth 65536 in
theorem w_case : (Jvm.Cond.and given_1 narrow_1).before args0 about1 = true := by decide +kernel
theorem w_applies : (headSpec (Jvm.Cond.code x code maxLocals ret :: tables_1) room_1).applies x e0.platform about1 = true :=
  (Spec.applies_iff w_frames).mpr ⟨w_running, w_runnable, w_alone, w_named, w_hears, w_ripe, w_room, w_tables⟩
theorem atStart : AtStart classFile x code maxLocals ret World_1 tables_1 room_1 Calls_1 rest_1 Pre_1 launch0 p0 e0 about1 theMethod args0 below0 :=
  ⟨lists_1, trivial, launch0.admits_env _ _ _, launch0.least_env, fairChoices_fair.cas, fairChoices_fair.clock, w_frames, w_args, w_heap, w_applies, trivial, trivial, w_case⟩
end start1
theorem witness_1 : WitnessClaimed_1 := ⟨start1.p0, start1.e0, start1.about1, start1.theMethod, start1.args0, start1.below0, start1.atStart⟩
end Jvm.Pilot.@@N@@
