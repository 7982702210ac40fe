import JvmDerived
import JvmDerived.Pilot.@@N@@Statement
import JvmDerived.Pilot.@@N@@Code
set_option linter.unusedVariables false
set_option linter.unusedSimpArgs false
namespace Jvm.RoadKit
open Sem ClassFile Op Lib Jvm.Stand Jvm.Free Jvm.LawKit
section New
variable {p : Program} {l : Launch} {e : Env} {R : Room} {s : State} {m : MethodId} {args : Array Value} {below : List Frame} {meth : Method} {c : Code} {T : State} {locs : List Loc} {cells slots : Nat}
theorem retI (X : Stand p l e R s m args below meth c T locs cells slots) (hx : p.tables.exec = Jvm.exec) {pc : Nat} {Ls : Array Slot} {z : Int32} {rest : List Value} (hret : meth.sig.returnType = some .int) (hd : decode c.code pc = .ok (.ireturn, 1)) {fs : List Frame}
    (hl : ∀ (f : JFrame) (acts : List Action), f.method = m → f.locked = none → f.entered = [] → (doReturn e (T.setTop f) acts (some (.int z))).1 = T.setFrames fs) : Steps p.tables e below (T.setTop (mkF m pc Ls (.int z :: rest))) (T.setFrames fs) :=
  retOut X hx hret rfl (Or.inl ⟨rfl, Or.inl rfl, _, rfl⟩) hd hl
end New
end Jvm.RoadKit
namespace Jvm.Pilot.@@N@@
open Jvm Jvm.ClassFile Sem Op Lib Jvm.Free Jvm.Stand Jvm.LawKit Jvm.RoadKit Bundle Jvm.Pilot.@@N@@.Jvm.D
theorem d1_0 : decode prog_129_method_4_code 0 = .ok (.iload_n 0, 1) := by decide +kernel
theorem d1_1 : decode prog_129_method_4_code 1 = .ok (.ifCond .eq 9, 3) := by decide +kernel
theorem d1_10 : decode prog_129_method_4_code 10 = .ok (.getstatic 7, 3) := by decide +kernel
theorem d1_13 : decode prog_129_method_4_code 13 = .ok (.areturn, 1) := by decide +kernel
theorem d1_4 : decode prog_129_method_4_code 4 = .ok (.getstatic 3, 3) := by decide +kernel
theorem d1_7 : decode prog_129_method_4_code 7 = .ok (.goto 6, 3) := by decide +kernel
theorem pn_0 : plainName "com/example/attestrail/attestrail/json/JsonLiteral" = true := by first | (simp [plainName, overriddenIn]; done) | decide +kernel
theorem ef_rm1 (m : MethodId) (x0 : Int32) : entryFrame m #[(.int x0)] 1 = mkF m 0 #[.val (.int x0)] [] := by first | (simp [entryFrame, mkF, argsToLocals, Value.category]; done) | rfl
def ofF (pb : Int32) (wT : Addr) (wF : Addr) : Addr :=
  if pb = (0 : Int32) then wF
  else wT
def Q1 (Z : State) (pb : Int32) (wT : Addr) (wF : Addr) (h0 : Heap) (n0 : Nat) (v : Option Value) (h : Heap) (L : List Loc) : Prop := v = some (.ref (ofF pb wT wF)) ∧ Fr n0 L ∧ h = h0
set_option maxRecDepth 65536 in
set_option maxHeartbeats 40000000 in
theorem rm1 (l : Launch) (Z : State) (a0 : Array Value) (hw : ∀ d ∈ tables_1, d.before a0 Z = true) (ws : List Jvm.Cond) (pb : Int32) (wT : Addr) (wF : Addr) (h0 : Heap) (n0 : Nat) (Z0 : n0 ≤ h0.size) (S_T : Sta Z h0 "com/example/attestrail/attestrail/json/JsonLiteral" "TRUE" "Lcom/example/attestrail/attestrail/json/JsonLiteral;" (.ref wT)) (S_F : Sta Z h0 "com/example/attestrail/attestrail/json/JsonLiteral" "FALSE" "Lcom/example/attestrail/attestrail/json/JsonLiteral;" (.ref wF)) :
    MetFree l (⟨"com/example/attestrail/attestrail/json/JsonLiteral", "of", "(Z)Lcom/example/attestrail/attestrail/json/JsonLiteral;"⟩ : MethodName) (head1 (Jvm.Cond.code (⟨"com/example/attestrail/attestrail/json/JsonLiteral", "of", "(Z)Lcom/example/attestrail/attestrail/json/JsonLiteral;"⟩ : MethodName) prog_129_method_4_code 1 (some (.object "com/example/attestrail/attestrail/json/JsonLiteral")) :: ws) ({ frames := 0, cells := 0, slots := 0, locals := 0 } : Room)) (fun a U => a = #[(.int pb)] ∧ Z.Warmed39 U.vm ∧ U.heap = h0) (fun _ _ _ _ _ => True) (fun _ U o U' => ∃ v L, o = .returned v ∧ Q1 Z pb wT wF h0 n0 v U'.heap L ∧ FrameEnd U o U' L ({ frames := 0, cells := 0, slots := 0, locals := 0 } : Room).cells ({ frames := 0, cells := 0, slots := 0, locals := 0 } : Room).slots) := by
  refine MetFree.of_bodySF (plainFor_of_name pn_0) hisR ?_
  intro p e s m args below meth c s₁ Bd hml0 hP hK
  obtain ⟨rfl, hZ, hh⟩ := hP
  have hx := Bd.exec
  have hby := Bd.bytes
  have hml : c.maxLocals = 1 := hml0
  have hown : s.vm.findClass "com/example/attestrail/attestrail/json/JsonLiteral" = some m.cls := findClass_of_methodNamed Bd.named
  have hnm := (name_of_methodNamed Bd.named Bd.method).1
  have X0 : Stand p l e ({ frames := 0, cells := 0, slots := 0, locals := 0 } : Room) s m #[(.int pb)] below meth c s₁ [] 0 0 := Stand.of_body Bd
  have e0 : s₁.heap = h0 := by rw [← hh, Bd.state]; rfl
  have N0 := Fr.nil n0
  have pre0 : ∀ t, Steps p.tables e below (s₁.setTop (mkF m 0 #[.val (.int pb)] [])) t → Steps p.tables e below (s₁.setTop (entryFrame m #[(.int pb)] 1)) t := fun t k => castTop (ef_rm1 m pb) k
  have pre1 : ∀ t, Steps p.tables e below (s₁.setTop (mkF m 1 #[.val (.int pb)] [(.int pb)])) t → Steps p.tables e below (s₁.setTop (entryFrame m #[(.int pb)] 1)) t := by
    intro t kt
    refine pre0 t ?_
    show Steps p.tables e below (s₁.setTop (mkF m 0 #[.val (.int pb)] [])) _
    refine XS.iloadN X0.here hx rfl (hb hby d1_0) rfl ?_
    show Steps p.tables e below (s₁.setTop (mkF m 1 #[.val (.int pb)] [(.int pb)])) _
    exact kt
  by_cases hc1_2 : pb = (0 : Int32)
  · obtain ⟨T3, X3, e3, st3⟩ := getS2 X0 hx hZ hown (host := "") (Or.inl (hw _ (List.mem_of_getElem? (i := 4) rfl))) Via.refl e0 S_F (g := (mkF m 10 #[.val (.int pb)] [])) rfl (hb hby d1_10)
    obtain ⟨fs, hr, hrun, hended, hW, hsame⟩ := X3.leave (v := some (.ref wF)) (fun h => by rw [Bd.returns] at h; cases h)
    refine ⟨_, _, pre1 _ ?_, hrun, hended, _, _, rfl, ?_, ⟨_, rfl⟩, hW, hsame.mono (by decide) (by decide)⟩
    · show Steps p.tables e below (s₁.setTop (mkF m 1 #[.val (.int pb)] [(.int pb)])) _
      refine XS.ifYes X0.here hx rfl (pc0 := 1) (pc' := 10) rfl (hb hby d1_1) rfl ((if0 _ _).trans (teq hc1_2).1) (by decide) (by decide) ?_
      show Steps p.tables e below (s₁.setTop (mkF m 10 #[.val (.int pb)] [])) _
      refine st3 _ ?_
      show Steps p.tables e below (T3.setTop (mkF m 13 #[.val (.int pb)] [(.ref wF)])) _
      exact retOut X3 hx Bd.returns rfl (Or.inr (Or.inr (Or.inr (Or.inr ⟨rfl, rfl, rfl⟩)))) (hb hby d1_13) hr
    · show Q1 Z pb wT wF h0 n0 _ T3.heap _
      rw [e3]
      refine ⟨?_, N0, rfl⟩
      show (some (.ref wF) : Option Value) = some (.ref (ofF pb wT wF))
      rw [show (ofF pb wT wF) = wF from by unfold ofF; rw [if_pos hc1_2]]
  · obtain ⟨T5, X5, e5, st5⟩ := getS2 X0 hx hZ hown (host := "") (Or.inl (hw _ (List.mem_of_getElem? (i := 36) rfl))) Via.refl e0 S_T (g := (mkF m 4 #[.val (.int pb)] [])) rfl (hb hby d1_4)
    obtain ⟨fs, hr, hrun, hended, hW, hsame⟩ := X5.leave (v := some (.ref wT)) (fun h => by rw [Bd.returns] at h; cases h)
    refine ⟨_, _, pre1 _ ?_, hrun, hended, _, _, rfl, ?_, ⟨_, rfl⟩, hW, hsame.mono (by decide) (by decide)⟩
    · show Steps p.tables e below (s₁.setTop (mkF m 1 #[.val (.int pb)] [(.int pb)])) _
      refine XS.ifNo X0.here hx rfl (hb hby d1_1) rfl ((if0 _ _).trans (feq hc1_2).1) ?_
      show Steps p.tables e below (s₁.setTop (mkF m 4 #[.val (.int pb)] [])) _
      refine st5 _ ?_
      show Steps p.tables e below (T5.setTop (mkF m 7 #[.val (.int pb)] [(.ref wT)])) _
      refine XS.goto X5.here hx rfl (pc0 := 7) (pc' := 13) rfl (hb hby d1_7) (by decide) (by decide) ?_
      show Steps p.tables e below (T5.setTop (mkF m 13 #[.val (.int pb)] [(.ref wT)])) _
      exact retOut X5 hx Bd.returns rfl (Or.inr (Or.inr (Or.inr (Or.inr ⟨rfl, rfl, rfl⟩)))) (hb hby d1_13) hr
    · show Q1 Z pb wT wF h0 n0 _ T5.heap _
      rw [e5]
      refine ⟨?_, N0, rfl⟩
      show (some (.ref wT) : Option Value) = some (.ref (ofF pb wT wF))
      rw [show (ofF pb wT wF) = wT from by unfold ofF; rw [if_neg hc1_2]]
theorem own_of1 (a b : Addr) : ofF (1 : Int32) a b = a := by unfold ofF; rw [if_neg (by decide)]
theorem own_of0 (a b : Addr) : ofF (0 : Int32) a b = b := by unfold ofF; rw [if_pos rfl]
theorem d2_0 : decode prog_129_method_5_code 0 = .ok (.aload_n 0, 1) := by decide +kernel
theorem d2_1 : decode prog_129_method_5_code 1 = .ok (.getfield 32, 3) := by decide +kernel
theorem d2_4 : decode prog_129_method_5_code 4 = .ok (.areturn, 1) := by decide +kernel
theorem ef_rm2 (m : MethodId) (x0 : Addr) : entryFrame m #[(.ref x0)] 1 = mkF m 0 #[.val (.ref x0)] [] := by first | (simp [entryFrame, mkF, argsToLocals, Value.category]; done) | rfl
def Q2 (Z : State) (ob : Addr) (tx : Addr) (h0 : Heap) (n0 : Nat) (v : Option Value) (h : Heap) (L : List Loc) : Prop := v = some (.ref tx) ∧ Fr n0 L ∧ h = h0
set_option maxRecDepth 65536 in
set_option maxHeartbeats 40000000 in
theorem rm2 (l : Launch) (Z : State) (a0 : Array Value) (hw : ∀ d ∈ tables_1, d.before a0 Z = true) (ws : List Jvm.Cond) (ob : Addr) (tx : Addr) (h0 : Heap) (n0 : Nat) (Z0 : n0 ≤ h0.size) (F_t : Fld Z h0 ob "com/example/attestrail/attestrail/json/JsonLiteral" "text" "Ljava/lang/String;" (.ref tx)) :
    MetFree l (⟨"com/example/attestrail/attestrail/json/JsonLiteral", "toString", "()Ljava/lang/String;"⟩ : MethodName) (head1 (Jvm.Cond.code (⟨"com/example/attestrail/attestrail/json/JsonLiteral", "toString", "()Ljava/lang/String;"⟩ : MethodName) prog_129_method_5_code 1 (some (.object "java/lang/String")) :: ws) ({ frames := 0, cells := 0, slots := 0, locals := 0 } : Room)) (fun a U => a = #[(.ref ob)] ∧ Z.Warmed39 U.vm ∧ U.heap = h0) (fun _ _ _ _ _ => True) (fun _ U o U' => ∃ v L, o = .returned v ∧ Q2 Z ob tx h0 n0 v U'.heap L ∧ FrameEnd U o U' L ({ frames := 0, cells := 0, slots := 0, locals := 0 } : Room).cells ({ frames := 0, cells := 0, slots := 0, locals := 0 } : Room).slots) := by
  refine MetFree.of_bodySF (plainFor_of_name pn_0) hisR ?_
  intro p e s m args below meth c s₁ Bd hml0 hP hK
  obtain ⟨rfl, hZ, hh⟩ := hP
  have hx := Bd.exec
  have hby := Bd.bytes
  have hml : c.maxLocals = 1 := hml0
  have hown : s.vm.findClass "com/example/attestrail/attestrail/json/JsonLiteral" = some m.cls := findClass_of_methodNamed Bd.named
  have hnm := (name_of_methodNamed Bd.named Bd.method).1
  have X0 : Stand p l e ({ frames := 0, cells := 0, slots := 0, locals := 0 } : Room) s m #[(.ref ob)] below meth c s₁ [] 0 0 := Stand.of_body Bd
  have e0 : s₁.heap = h0 := by rw [← hh, Bd.state]; rfl
  have N0 := Fr.nil n0
  have pre0 : ∀ t, Steps p.tables e below (s₁.setTop (mkF m 0 #[.val (.ref ob)] [])) t → Steps p.tables e below (s₁.setTop (entryFrame m #[(.ref ob)] 1)) t := fun t k => castTop (ef_rm2 m ob) k
  obtain ⟨T1, X1, e1, st1⟩ := getF X0 hx hZ hown (host := "") (Or.inl (hw _ (List.mem_of_getElem? (i := 11) rfl))) Via.refl e0 F_t (g := (mkF m 1 #[.val (.ref ob)] [(.ref ob)])) rfl rfl (hb hby d2_1)
  obtain ⟨fs, hr, hrun, hended, hW, hsame⟩ := X1.leave (v := some (.ref tx)) (fun h => by rw [Bd.returns] at h; cases h)
  refine ⟨_, _, pre0 _ ?_, hrun, hended, _, _, rfl, ?_, ⟨_, rfl⟩, hW, hsame.mono (by decide) (by decide)⟩
  · show Steps p.tables e below (s₁.setTop (mkF m 0 #[.val (.ref ob)] [])) _
    refine XS.aloadN X0.here hx rfl (hb hby d2_0) rfl rfl ?_
    show Steps p.tables e below (s₁.setTop (mkF m 1 #[.val (.ref ob)] [(.ref ob)])) _
    refine st1 _ ?_
    show Steps p.tables e below (T1.setTop (mkF m 4 #[.val (.ref ob)] [(.ref tx)])) _
    exact retOut X1 hx Bd.returns rfl (Or.inr (Or.inr (Or.inr (Or.inr ⟨rfl, rfl, rfl⟩)))) (hb hby d2_4) hr
  · show Q2 Z ob tx h0 n0 _ T1.heap _
    rw [e1]
    exact ⟨rfl, N0, rfl⟩
theorem d4_0 : decode jdk_43_method_13_code 0 = .ok (.aload_n 0, 1) := by decide +kernel
theorem d4_1 : decode jdk_43_method_13_code 1 = .ok (.arraylength, 1) := by decide +kernel
theorem d4_2 : decode jdk_43_method_13_code 2 = .ok (.aload_n 1, 1) := by decide +kernel
theorem d4_3 : decode jdk_43_method_13_code 3 = .ok (.arraylength, 1) := by decide +kernel
theorem d4_4 : decode jdk_43_method_13_code 4 = .ok (.if_icmp .ne 30, 3) := by decide +kernel
theorem d4_7 : decode jdk_43_method_13_code 7 = .ok (.iconst 0, 1) := by decide +kernel
theorem d4_8 : decode jdk_43_method_13_code 8 = .ok (.istore_n 2, 1) := by decide +kernel
theorem d4_9 : decode jdk_43_method_13_code 9 = .ok (.iload_n 2, 1) := by decide +kernel
theorem d4_10 : decode jdk_43_method_13_code 10 = .ok (.aload_n 0, 1) := by decide +kernel
theorem d4_11 : decode jdk_43_method_13_code 11 = .ok (.arraylength, 1) := by decide +kernel
theorem d4_12 : decode jdk_43_method_13_code 12 = .ok (.if_icmp .ge 20, 3) := by decide +kernel
theorem d4_15 : decode jdk_43_method_13_code 15 = .ok (.aload_n 0, 1) := by decide +kernel
theorem d4_16 : decode jdk_43_method_13_code 16 = .ok (.iload_n 2, 1) := by decide +kernel
theorem d4_17 : decode jdk_43_method_13_code 17 = .ok (.baload, 1) := by decide +kernel
theorem d4_18 : decode jdk_43_method_13_code 18 = .ok (.aload_n 1, 1) := by decide +kernel
theorem d4_19 : decode jdk_43_method_13_code 19 = .ok (.iload_n 2, 1) := by decide +kernel
theorem d4_20 : decode jdk_43_method_13_code 20 = .ok (.baload, 1) := by decide +kernel
theorem d4_21 : decode jdk_43_method_13_code 21 = .ok (.if_icmp .eq 5, 3) := by decide +kernel
theorem d4_26 : decode jdk_43_method_13_code 26 = .ok (.iinc 2 1, 3) := by decide +kernel
theorem d4_29 : decode jdk_43_method_13_code 29 = .ok (.goto (-20), 3) := by decide +kernel
theorem d4_32 : decode jdk_43_method_13_code 32 = .ok (.iconst 1, 1) := by decide +kernel
theorem d4_33 : decode jdk_43_method_13_code 33 = .ok (.ireturn, 1) := by decide +kernel
theorem pn_1 : plainName "java/lang/StringLatin1" = true := by first | (simp [plainName, overriddenIn]; done) | decide +kernel
theorem ef_rm4T (m : MethodId) (x0 : Addr) (x1 : Addr) : entryFrame m #[(.ref x0), (.ref x1)] 3 = mkF m 0 #[.val (.ref x0), .val (.ref x1), .unset] [] := by first | (simp [entryFrame, mkF, argsToLocals, Value.category]; done) | rfl
def Q4T (Z : State) (pa : Addr) (pb : Addr) (ka : ClassId) (kb : ClassId) (h0 : Heap) (n0 : Nat) (v : Option Value) (h : Heap) (L : List Loc) : Prop := v = some (.int (1 : Int32)) ∧ Fr n0 L ∧ h = h0
set_option maxRecDepth 65536 in
set_option maxHeartbeats 40000000 in
theorem rm4T (l : Launch) (Z : State) (a0 : Array Value) (hw : ∀ d ∈ tables_1, d.before a0 Z = true) (ws : List Jvm.Cond) (pa : Addr) (pb : Addr) (ka : ClassId) (kb : ClassId) (h0 : Heap) (n0 : Nat) (Z0 : n0 ≤ h0.size) (V_pa : Arv Z h0 pa ka .byte (4 : Int32) [(.int (116 : Int32)), (.int (114 : Int32)), (.int (117 : Int32)), (.int (101 : Int32))] (.int 0)) (V_pb : Arv Z h0 pb kb .byte (4 : Int32) [(.int (116 : Int32)), (.int (114 : Int32)), (.int (117 : Int32)), (.int (101 : Int32))] (.int 0)) :
    MetFree l (⟨"java/lang/StringLatin1", "equals", "([B[B)Z"⟩ : MethodName) (head1 (Jvm.Cond.code (⟨"java/lang/StringLatin1", "equals", "([B[B)Z"⟩ : MethodName) jdk_43_method_13_code 3 (some .boolean) :: ws) ({ frames := 0, cells := 0, slots := 0, locals := 0 } : Room)) (fun a U => a = #[(.ref pa), (.ref pb)] ∧ Z.Warmed39 U.vm ∧ U.heap = h0) (fun _ _ _ _ _ => True) (fun _ U o U' => ∃ v L, o = .returned v ∧ Q4T Z pa pb ka kb h0 n0 v U'.heap L ∧ FrameEnd U o U' L ({ frames := 0, cells := 0, slots := 0, locals := 0 } : Room).cells ({ frames := 0, cells := 0, slots := 0, locals := 0 } : Room).slots) := by
  refine MetFree.of_bodySF (plainFor_of_name pn_1) hisR ?_
  intro p e s m args below meth c s₁ Bd hml0 hP hK
  obtain ⟨rfl, hZ, hh⟩ := hP
  have hx := Bd.exec
  have hby := Bd.bytes
  have hml : c.maxLocals = 3 := hml0
  have hown : s.vm.findClass "java/lang/StringLatin1" = some m.cls := findClass_of_methodNamed Bd.named
  have hnm := (name_of_methodNamed Bd.named Bd.method).1
  have X0 : Stand p l e ({ frames := 0, cells := 0, slots := 0, locals := 0 } : Room) s m #[(.ref pa), (.ref pb)] below meth c s₁ [] 0 0 := Stand.of_body Bd
  have e0 : s₁.heap = h0 := by rw [← hh, Bd.state]; rfl
  have N0 := Fr.nil n0
  have pre0 : ∀ t, Steps p.tables e below (s₁.setTop (mkF m 0 #[.val (.ref pa), .val (.ref pb), .unset] [])) t → Steps p.tables e below (s₁.setTop (entryFrame m #[(.ref pa), (.ref pb)] 3)) t := fun t k => castTop (ef_rm4T m pa pb) k
  obtain ⟨cl1, Ar1, qc1, Sz1, Ng1, Hs1, Gs1⟩ := (id V_pa)
  obtain ⟨cl2, Ar2, qc2, Sz2, Ng2, Hs2, Gs2⟩ := (id V_pb)
  obtain ⟨cl3, Ar3, qc3, Sz3, Ng3, Hs3, Gs3⟩ := (id V_pa)
  obtain ⟨cl4, Ar4, qc4, Sz4, Ng4, Hs4, Gs4⟩ := (id V_pa)
  have hin4 : ¬ ((0 : Int32) < 0 ∨ cl4.slots.size ≤ ((0 : Int32)).toNatClampNeg) := inb_of Sz4 ⟨by decide, by decide⟩
  have hat4 : cl4.slots[((0 : Int32)).toNatClampNeg]? = some (.int (116 : Int32)) := Has.at Hs4 hin4 rfl
  obtain ⟨cl5, Ar5, qc5, Sz5, Ng5, Hs5, Gs5⟩ := (id V_pb)
  have hin5 : ¬ ((0 : Int32) < 0 ∨ cl5.slots.size ≤ ((0 : Int32)).toNatClampNeg) := inb_of Sz5 ⟨by decide, by decide⟩
  have hat5 : cl5.slots[((0 : Int32)).toNatClampNeg]? = some (.int (116 : Int32)) := Has.at Hs5 hin5 rfl
  obtain ⟨cl6, Ar6, qc6, Sz6, Ng6, Hs6, Gs6⟩ := (id V_pa)
  obtain ⟨cl7, Ar7, qc7, Sz7, Ng7, Hs7, Gs7⟩ := (id V_pa)
  have hin7 : ¬ ((1 : Int32) < 0 ∨ cl7.slots.size ≤ ((1 : Int32)).toNatClampNeg) := inb_of Sz7 ⟨by decide, by decide⟩
  have hat7 : cl7.slots[((1 : Int32)).toNatClampNeg]? = some (.int (114 : Int32)) := Has.at Hs7 hin7 rfl
  obtain ⟨cl8, Ar8, qc8, Sz8, Ng8, Hs8, Gs8⟩ := (id V_pb)
  have hin8 : ¬ ((1 : Int32) < 0 ∨ cl8.slots.size ≤ ((1 : Int32)).toNatClampNeg) := inb_of Sz8 ⟨by decide, by decide⟩
  have hat8 : cl8.slots[((1 : Int32)).toNatClampNeg]? = some (.int (114 : Int32)) := Has.at Hs8 hin8 rfl
  obtain ⟨cl9, Ar9, qc9, Sz9, Ng9, Hs9, Gs9⟩ := (id V_pa)
  obtain ⟨cl10, Ar10, qc10, Sz10, Ng10, Hs10, Gs10⟩ := (id V_pa)
  have hin10 : ¬ ((2 : Int32) < 0 ∨ cl10.slots.size ≤ ((2 : Int32)).toNatClampNeg) := inb_of Sz10 ⟨by decide, by decide⟩
  have hat10 : cl10.slots[((2 : Int32)).toNatClampNeg]? = some (.int (117 : Int32)) := Has.at Hs10 hin10 rfl
  obtain ⟨cl11, Ar11, qc11, Sz11, Ng11, Hs11, Gs11⟩ := (id V_pb)
  have hin11 : ¬ ((2 : Int32) < 0 ∨ cl11.slots.size ≤ ((2 : Int32)).toNatClampNeg) := inb_of Sz11 ⟨by decide, by decide⟩
  have hat11 : cl11.slots[((2 : Int32)).toNatClampNeg]? = some (.int (117 : Int32)) := Has.at Hs11 hin11 rfl
  obtain ⟨cl12, Ar12, qc12, Sz12, Ng12, Hs12, Gs12⟩ := (id V_pa)
  obtain ⟨cl13, Ar13, qc13, Sz13, Ng13, Hs13, Gs13⟩ := (id V_pa)
  have hin13 : ¬ ((3 : Int32) < 0 ∨ cl13.slots.size ≤ ((3 : Int32)).toNatClampNeg) := inb_of Sz13 ⟨by decide, by decide⟩
  have hat13 : cl13.slots[((3 : Int32)).toNatClampNeg]? = some (.int (101 : Int32)) := Has.at Hs13 hin13 rfl
  obtain ⟨cl14, Ar14, qc14, Sz14, Ng14, Hs14, Gs14⟩ := (id V_pb)
  have hin14 : ¬ ((3 : Int32) < 0 ∨ cl14.slots.size ≤ ((3 : Int32)).toNatClampNeg) := inb_of Sz14 ⟨by decide, by decide⟩
  have hat14 : cl14.slots[((3 : Int32)).toNatClampNeg]? = some (.int (101 : Int32)) := Has.at Hs14 hin14 rfl
  obtain ⟨cl15, Ar15, qc15, Sz15, Ng15, Hs15, Gs15⟩ := (id V_pa)
  obtain ⟨fs, hr, hrun, hended, hW, hsame⟩ := X0.leave (v := some (.int (1 : Int32))) (fun h => by rw [Bd.returns] at h; cases h)
  refine ⟨_, _, pre0 _ ?_, hrun, hended, _, _, rfl, ?_, ⟨_, rfl⟩, hW, hsame.mono (by decide) (by decide)⟩
  · show Steps p.tables e below (s₁.setTop (mkF m 0 #[.val (.ref pa), .val (.ref pb), .unset] [])) _
    refine XS.aloadN X0.here hx rfl (hb hby d4_0) rfl rfl ?_
    show Steps p.tables e below (s₁.setTop (mkF m 1 #[.val (.ref pa), .val (.ref pb), .unset] [(.ref pa)])) _
    refine X0.arraylength hx (by rw [e0]; exact Ar1.1) (State.isArrayOf_alike (hZ).alike Ar1.2.1) (g := (mkF m 1 #[.val (.ref pa), .val (.ref pb), .unset] [(.ref pa)])) rfl rfl (hb hby d4_1) _ ?_
    rw [len_of Sz1 Ng1]
    show Steps p.tables e below (s₁.setTop (mkF m 2 #[.val (.ref pa), .val (.ref pb), .unset] [(.int (4 : Int32))])) _
    refine XS.aloadN X0.here hx rfl (hb hby d4_2) rfl rfl ?_
    show Steps p.tables e below (s₁.setTop (mkF m 3 #[.val (.ref pa), .val (.ref pb), .unset] [(.ref pb), (.int (4 : Int32))])) _
    refine X0.arraylength hx (by rw [e0]; exact Ar2.1) (State.isArrayOf_alike (hZ).alike Ar2.2.1) (g := (mkF m 3 #[.val (.ref pa), .val (.ref pb), .unset] [(.ref pb), (.int (4 : Int32))])) rfl rfl (hb hby d4_3) _ ?_
    rw [len_of Sz2 Ng2]
    show Steps p.tables e below (s₁.setTop (mkF m 4 #[.val (.ref pa), .val (.ref pb), .unset] [(.int (4 : Int32)), (.int (4 : Int32))])) _
    refine XS.icmpNo X0.here hx rfl (hb hby d4_4) rfl (teq (rfl : (4 : Int32) = (4 : Int32))).2 ?_
    show Steps p.tables e below (s₁.setTop (mkF m 7 #[.val (.ref pa), .val (.ref pb), .unset] [])) _
    refine XS.iconst X0.here hx rfl (hb hby d4_7) ?_
    show Steps p.tables e below (s₁.setTop (mkF m 8 #[.val (.ref pa), .val (.ref pb), .unset] [(.int (0 : Int32))])) _
    refine XS.istoreN X0.here hx rfl (hb hby d4_8) rfl (l' := #[.val (.ref pa), .val (.ref pb), .val (.int (0 : Int32))]) rfl ?_
    show Steps p.tables e below (s₁.setTop (mkF m 9 #[.val (.ref pa), .val (.ref pb), .val (.int (0 : Int32))] [])) _
    refine XS.iloadN X0.here hx rfl (hb hby d4_9) rfl ?_
    show Steps p.tables e below (s₁.setTop (mkF m 10 #[.val (.ref pa), .val (.ref pb), .val (.int (0 : Int32))] [(.int (0 : Int32))])) _
    refine XS.aloadN X0.here hx rfl (hb hby d4_10) rfl rfl ?_
    show Steps p.tables e below (s₁.setTop (mkF m 11 #[.val (.ref pa), .val (.ref pb), .val (.int (0 : Int32))] [(.ref pa), (.int (0 : Int32))])) _
    refine X0.arraylength hx (by rw [e0]; exact Ar3.1) (State.isArrayOf_alike (hZ).alike Ar3.2.1) (g := (mkF m 11 #[.val (.ref pa), .val (.ref pb), .val (.int (0 : Int32))] [(.ref pa), (.int (0 : Int32))])) rfl rfl (hb hby d4_11) _ ?_
    rw [len_of Sz3 Ng3]
    show Steps p.tables e below (s₁.setTop (mkF m 12 #[.val (.ref pa), .val (.ref pb), .val (.int (0 : Int32))] [(.int (4 : Int32)), (.int (0 : Int32))])) _
    refine XS.icmpNo X0.here hx rfl (hb hby d4_12) rfl (tlt (by decide : ((0 : Int32) < (4 : Int32)))).2.1 ?_
    show Steps p.tables e below (s₁.setTop (mkF m 15 #[.val (.ref pa), .val (.ref pb), .val (.int (0 : Int32))] [])) _
    refine XS.aloadN X0.here hx rfl (hb hby d4_15) rfl rfl ?_
    show Steps p.tables e below (s₁.setTop (mkF m 16 #[.val (.ref pa), .val (.ref pb), .val (.int (0 : Int32))] [(.ref pa)])) _
    refine XS.iloadN X0.here hx rfl (hb hby d4_16) rfl ?_
    show Steps p.tables e below (s₁.setTop (mkF m 17 #[.val (.ref pa), .val (.ref pb), .val (.int (0 : Int32))] [(.int (0 : Int32)), (.ref pa)])) _
    refine X0.baloadBytes hx (j := (0 : Int32)) (v := (.int (116 : Int32))) (by rw [e0]; exact Ar4.1) (State.isArrayOf_alike (hZ).alike Ar4.2.1) Ar4.2.2 hin4 hat4 (g := (mkF m 17 #[.val (.ref pa), .val (.ref pb), .val (.int (0 : Int32))] [(.int (0 : Int32)), (.ref pa)])) rfl rfl (hb hby d4_17) _ ?_
    show Steps p.tables e below (s₁.setTop (mkF m 18 #[.val (.ref pa), .val (.ref pb), .val (.int (0 : Int32))] [(.int (116 : Int32))])) _
    refine XS.aloadN X0.here hx rfl (hb hby d4_18) rfl rfl ?_
    show Steps p.tables e below (s₁.setTop (mkF m 19 #[.val (.ref pa), .val (.ref pb), .val (.int (0 : Int32))] [(.ref pb), (.int (116 : Int32))])) _
    refine XS.iloadN X0.here hx rfl (hb hby d4_19) rfl ?_
    show Steps p.tables e below (s₁.setTop (mkF m 20 #[.val (.ref pa), .val (.ref pb), .val (.int (0 : Int32))] [(.int (0 : Int32)), (.ref pb), (.int (116 : Int32))])) _
    refine X0.baloadBytes hx (j := (0 : Int32)) (v := (.int (116 : Int32))) (by rw [e0]; exact Ar5.1) (State.isArrayOf_alike (hZ).alike Ar5.2.1) Ar5.2.2 hin5 hat5 (g := (mkF m 20 #[.val (.ref pa), .val (.ref pb), .val (.int (0 : Int32))] [(.int (0 : Int32)), (.ref pb), (.int (116 : Int32))])) rfl rfl (hb hby d4_20) _ ?_
    show Steps p.tables e below (s₁.setTop (mkF m 21 #[.val (.ref pa), .val (.ref pb), .val (.int (0 : Int32))] [(.int (116 : Int32)), (.int (116 : Int32))])) _
    refine XS.icmpYes X0.here hx rfl (pc0 := 21) (pc' := 26) rfl (hb hby d4_21) rfl (teq (rfl : (116 : Int32) = (116 : Int32))).1 (by decide) (by decide) ?_
    show Steps p.tables e below (s₁.setTop (mkF m 26 #[.val (.ref pa), .val (.ref pb), .val (.int (0 : Int32))] [])) _
    refine XS.iinc X0.here hx rfl (hb hby d4_26) rfl (l' := #[.val (.ref pa), .val (.ref pb), .val (.int (1 : Int32))]) rfl ?_
    show Steps p.tables e below (s₁.setTop (mkF m 29 #[.val (.ref pa), .val (.ref pb), .val (.int (1 : Int32))] [])) _
    refine XS.goto X0.here hx rfl (pc0 := 29) (pc' := 9) rfl (hb hby d4_29) (by decide) (by decide) ?_
    show Steps p.tables e below (s₁.setTop (mkF m 9 #[.val (.ref pa), .val (.ref pb), .val (.int (1 : Int32))] [])) _
    refine XS.iloadN X0.here hx rfl (hb hby d4_9) rfl ?_
    show Steps p.tables e below (s₁.setTop (mkF m 10 #[.val (.ref pa), .val (.ref pb), .val (.int (1 : Int32))] [(.int (1 : Int32))])) _
    refine XS.aloadN X0.here hx rfl (hb hby d4_10) rfl rfl ?_
    show Steps p.tables e below (s₁.setTop (mkF m 11 #[.val (.ref pa), .val (.ref pb), .val (.int (1 : Int32))] [(.ref pa), (.int (1 : Int32))])) _
    refine X0.arraylength hx (by rw [e0]; exact Ar6.1) (State.isArrayOf_alike (hZ).alike Ar6.2.1) (g := (mkF m 11 #[.val (.ref pa), .val (.ref pb), .val (.int (1 : Int32))] [(.ref pa), (.int (1 : Int32))])) rfl rfl (hb hby d4_11) _ ?_
    rw [len_of Sz6 Ng6]
    show Steps p.tables e below (s₁.setTop (mkF m 12 #[.val (.ref pa), .val (.ref pb), .val (.int (1 : Int32))] [(.int (4 : Int32)), (.int (1 : Int32))])) _
    refine XS.icmpNo X0.here hx rfl (hb hby d4_12) rfl (tlt (by decide : ((1 : Int32) < (4 : Int32)))).2.1 ?_
    show Steps p.tables e below (s₁.setTop (mkF m 15 #[.val (.ref pa), .val (.ref pb), .val (.int (1 : Int32))] [])) _
    refine XS.aloadN X0.here hx rfl (hb hby d4_15) rfl rfl ?_
    show Steps p.tables e below (s₁.setTop (mkF m 16 #[.val (.ref pa), .val (.ref pb), .val (.int (1 : Int32))] [(.ref pa)])) _
    refine XS.iloadN X0.here hx rfl (hb hby d4_16) rfl ?_
    show Steps p.tables e below (s₁.setTop (mkF m 17 #[.val (.ref pa), .val (.ref pb), .val (.int (1 : Int32))] [(.int (1 : Int32)), (.ref pa)])) _
    refine X0.baloadBytes hx (j := (1 : Int32)) (v := (.int (114 : Int32))) (by rw [e0]; exact Ar7.1) (State.isArrayOf_alike (hZ).alike Ar7.2.1) Ar7.2.2 hin7 hat7 (g := (mkF m 17 #[.val (.ref pa), .val (.ref pb), .val (.int (1 : Int32))] [(.int (1 : Int32)), (.ref pa)])) rfl rfl (hb hby d4_17) _ ?_
    show Steps p.tables e below (s₁.setTop (mkF m 18 #[.val (.ref pa), .val (.ref pb), .val (.int (1 : Int32))] [(.int (114 : Int32))])) _
    refine XS.aloadN X0.here hx rfl (hb hby d4_18) rfl rfl ?_
    show Steps p.tables e below (s₁.setTop (mkF m 19 #[.val (.ref pa), .val (.ref pb), .val (.int (1 : Int32))] [(.ref pb), (.int (114 : Int32))])) _
    refine XS.iloadN X0.here hx rfl (hb hby d4_19) rfl ?_
    show Steps p.tables e below (s₁.setTop (mkF m 20 #[.val (.ref pa), .val (.ref pb), .val (.int (1 : Int32))] [(.int (1 : Int32)), (.ref pb), (.int (114 : Int32))])) _
    refine X0.baloadBytes hx (j := (1 : Int32)) (v := (.int (114 : Int32))) (by rw [e0]; exact Ar8.1) (State.isArrayOf_alike (hZ).alike Ar8.2.1) Ar8.2.2 hin8 hat8 (g := (mkF m 20 #[.val (.ref pa), .val (.ref pb), .val (.int (1 : Int32))] [(.int (1 : Int32)), (.ref pb), (.int (114 : Int32))])) rfl rfl (hb hby d4_20) _ ?_
    show Steps p.tables e below (s₁.setTop (mkF m 21 #[.val (.ref pa), .val (.ref pb), .val (.int (1 : Int32))] [(.int (114 : Int32)), (.int (114 : Int32))])) _
    refine XS.icmpYes X0.here hx rfl (pc0 := 21) (pc' := 26) rfl (hb hby d4_21) rfl (teq (rfl : (114 : Int32) = (114 : Int32))).1 (by decide) (by decide) ?_
    show Steps p.tables e below (s₁.setTop (mkF m 26 #[.val (.ref pa), .val (.ref pb), .val (.int (1 : Int32))] [])) _
    refine XS.iinc X0.here hx rfl (hb hby d4_26) rfl (l' := #[.val (.ref pa), .val (.ref pb), .val (.int (2 : Int32))]) rfl ?_
    show Steps p.tables e below (s₁.setTop (mkF m 29 #[.val (.ref pa), .val (.ref pb), .val (.int (2 : Int32))] [])) _
    refine XS.goto X0.here hx rfl (pc0 := 29) (pc' := 9) rfl (hb hby d4_29) (by decide) (by decide) ?_
    show Steps p.tables e below (s₁.setTop (mkF m 9 #[.val (.ref pa), .val (.ref pb), .val (.int (2 : Int32))] [])) _
    refine XS.iloadN X0.here hx rfl (hb hby d4_9) rfl ?_
    show Steps p.tables e below (s₁.setTop (mkF m 10 #[.val (.ref pa), .val (.ref pb), .val (.int (2 : Int32))] [(.int (2 : Int32))])) _
    refine XS.aloadN X0.here hx rfl (hb hby d4_10) rfl rfl ?_
    show Steps p.tables e below (s₁.setTop (mkF m 11 #[.val (.ref pa), .val (.ref pb), .val (.int (2 : Int32))] [(.ref pa), (.int (2 : Int32))])) _
    refine X0.arraylength hx (by rw [e0]; exact Ar9.1) (State.isArrayOf_alike (hZ).alike Ar9.2.1) (g := (mkF m 11 #[.val (.ref pa), .val (.ref pb), .val (.int (2 : Int32))] [(.ref pa), (.int (2 : Int32))])) rfl rfl (hb hby d4_11) _ ?_
    rw [len_of Sz9 Ng9]
    show Steps p.tables e below (s₁.setTop (mkF m 12 #[.val (.ref pa), .val (.ref pb), .val (.int (2 : Int32))] [(.int (4 : Int32)), (.int (2 : Int32))])) _
    refine XS.icmpNo X0.here hx rfl (hb hby d4_12) rfl (tlt (by decide : ((2 : Int32) < (4 : Int32)))).2.1 ?_
    show Steps p.tables e below (s₁.setTop (mkF m 15 #[.val (.ref pa), .val (.ref pb), .val (.int (2 : Int32))] [])) _
    refine XS.aloadN X0.here hx rfl (hb hby d4_15) rfl rfl ?_
    show Steps p.tables e below (s₁.setTop (mkF m 16 #[.val (.ref pa), .val (.ref pb), .val (.int (2 : Int32))] [(.ref pa)])) _
    refine XS.iloadN X0.here hx rfl (hb hby d4_16) rfl ?_
    show Steps p.tables e below (s₁.setTop (mkF m 17 #[.val (.ref pa), .val (.ref pb), .val (.int (2 : Int32))] [(.int (2 : Int32)), (.ref pa)])) _
    refine X0.baloadBytes hx (j := (2 : Int32)) (v := (.int (117 : Int32))) (by rw [e0]; exact Ar10.1) (State.isArrayOf_alike (hZ).alike Ar10.2.1) Ar10.2.2 hin10 hat10 (g := (mkF m 17 #[.val (.ref pa), .val (.ref pb), .val (.int (2 : Int32))] [(.int (2 : Int32)), (.ref pa)])) rfl rfl (hb hby d4_17) _ ?_
    show Steps p.tables e below (s₁.setTop (mkF m 18 #[.val (.ref pa), .val (.ref pb), .val (.int (2 : Int32))] [(.int (117 : Int32))])) _
    refine XS.aloadN X0.here hx rfl (hb hby d4_18) rfl rfl ?_
    show Steps p.tables e below (s₁.setTop (mkF m 19 #[.val (.ref pa), .val (.ref pb), .val (.int (2 : Int32))] [(.ref pb), (.int (117 : Int32))])) _
    refine XS.iloadN X0.here hx rfl (hb hby d4_19) rfl ?_
    show Steps p.tables e below (s₁.setTop (mkF m 20 #[.val (.ref pa), .val (.ref pb), .val (.int (2 : Int32))] [(.int (2 : Int32)), (.ref pb), (.int (117 : Int32))])) _
    refine X0.baloadBytes hx (j := (2 : Int32)) (v := (.int (117 : Int32))) (by rw [e0]; exact Ar11.1) (State.isArrayOf_alike (hZ).alike Ar11.2.1) Ar11.2.2 hin11 hat11 (g := (mkF m 20 #[.val (.ref pa), .val (.ref pb), .val (.int (2 : Int32))] [(.int (2 : Int32)), (.ref pb), (.int (117 : Int32))])) rfl rfl (hb hby d4_20) _ ?_
    show Steps p.tables e below (s₁.setTop (mkF m 21 #[.val (.ref pa), .val (.ref pb), .val (.int (2 : Int32))] [(.int (117 : Int32)), (.int (117 : Int32))])) _
    refine XS.icmpYes X0.here hx rfl (pc0 := 21) (pc' := 26) rfl (hb hby d4_21) rfl (teq (rfl : (117 : Int32) = (117 : Int32))).1 (by decide) (by decide) ?_
    show Steps p.tables e below (s₁.setTop (mkF m 26 #[.val (.ref pa), .val (.ref pb), .val (.int (2 : Int32))] [])) _
    refine XS.iinc X0.here hx rfl (hb hby d4_26) rfl (l' := #[.val (.ref pa), .val (.ref pb), .val (.int (3 : Int32))]) rfl ?_
    show Steps p.tables e below (s₁.setTop (mkF m 29 #[.val (.ref pa), .val (.ref pb), .val (.int (3 : Int32))] [])) _
    refine XS.goto X0.here hx rfl (pc0 := 29) (pc' := 9) rfl (hb hby d4_29) (by decide) (by decide) ?_
    show Steps p.tables e below (s₁.setTop (mkF m 9 #[.val (.ref pa), .val (.ref pb), .val (.int (3 : Int32))] [])) _
    refine XS.iloadN X0.here hx rfl (hb hby d4_9) rfl ?_
    show Steps p.tables e below (s₁.setTop (mkF m 10 #[.val (.ref pa), .val (.ref pb), .val (.int (3 : Int32))] [(.int (3 : Int32))])) _
    refine XS.aloadN X0.here hx rfl (hb hby d4_10) rfl rfl ?_
    show Steps p.tables e below (s₁.setTop (mkF m 11 #[.val (.ref pa), .val (.ref pb), .val (.int (3 : Int32))] [(.ref pa), (.int (3 : Int32))])) _
    refine X0.arraylength hx (by rw [e0]; exact Ar12.1) (State.isArrayOf_alike (hZ).alike Ar12.2.1) (g := (mkF m 11 #[.val (.ref pa), .val (.ref pb), .val (.int (3 : Int32))] [(.ref pa), (.int (3 : Int32))])) rfl rfl (hb hby d4_11) _ ?_
    rw [len_of Sz12 Ng12]
    show Steps p.tables e below (s₁.setTop (mkF m 12 #[.val (.ref pa), .val (.ref pb), .val (.int (3 : Int32))] [(.int (4 : Int32)), (.int (3 : Int32))])) _
    refine XS.icmpNo X0.here hx rfl (hb hby d4_12) rfl (tlt (by decide : ((3 : Int32) < (4 : Int32)))).2.1 ?_
    show Steps p.tables e below (s₁.setTop (mkF m 15 #[.val (.ref pa), .val (.ref pb), .val (.int (3 : Int32))] [])) _
    refine XS.aloadN X0.here hx rfl (hb hby d4_15) rfl rfl ?_
    show Steps p.tables e below (s₁.setTop (mkF m 16 #[.val (.ref pa), .val (.ref pb), .val (.int (3 : Int32))] [(.ref pa)])) _
    refine XS.iloadN X0.here hx rfl (hb hby d4_16) rfl ?_
    show Steps p.tables e below (s₁.setTop (mkF m 17 #[.val (.ref pa), .val (.ref pb), .val (.int (3 : Int32))] [(.int (3 : Int32)), (.ref pa)])) _
    refine X0.baloadBytes hx (j := (3 : Int32)) (v := (.int (101 : Int32))) (by rw [e0]; exact Ar13.1) (State.isArrayOf_alike (hZ).alike Ar13.2.1) Ar13.2.2 hin13 hat13 (g := (mkF m 17 #[.val (.ref pa), .val (.ref pb), .val (.int (3 : Int32))] [(.int (3 : Int32)), (.ref pa)])) rfl rfl (hb hby d4_17) _ ?_
    show Steps p.tables e below (s₁.setTop (mkF m 18 #[.val (.ref pa), .val (.ref pb), .val (.int (3 : Int32))] [(.int (101 : Int32))])) _
    refine XS.aloadN X0.here hx rfl (hb hby d4_18) rfl rfl ?_
    show Steps p.tables e below (s₁.setTop (mkF m 19 #[.val (.ref pa), .val (.ref pb), .val (.int (3 : Int32))] [(.ref pb), (.int (101 : Int32))])) _
    refine XS.iloadN X0.here hx rfl (hb hby d4_19) rfl ?_
    show Steps p.tables e below (s₁.setTop (mkF m 20 #[.val (.ref pa), .val (.ref pb), .val (.int (3 : Int32))] [(.int (3 : Int32)), (.ref pb), (.int (101 : Int32))])) _
    refine X0.baloadBytes hx (j := (3 : Int32)) (v := (.int (101 : Int32))) (by rw [e0]; exact Ar14.1) (State.isArrayOf_alike (hZ).alike Ar14.2.1) Ar14.2.2 hin14 hat14 (g := (mkF m 20 #[.val (.ref pa), .val (.ref pb), .val (.int (3 : Int32))] [(.int (3 : Int32)), (.ref pb), (.int (101 : Int32))])) rfl rfl (hb hby d4_20) _ ?_
    show Steps p.tables e below (s₁.setTop (mkF m 21 #[.val (.ref pa), .val (.ref pb), .val (.int (3 : Int32))] [(.int (101 : Int32)), (.int (101 : Int32))])) _
    refine XS.icmpYes X0.here hx rfl (pc0 := 21) (pc' := 26) rfl (hb hby d4_21) rfl (teq (rfl : (101 : Int32) = (101 : Int32))).1 (by decide) (by decide) ?_
    show Steps p.tables e below (s₁.setTop (mkF m 26 #[.val (.ref pa), .val (.ref pb), .val (.int (3 : Int32))] [])) _
    refine XS.iinc X0.here hx rfl (hb hby d4_26) rfl (l' := #[.val (.ref pa), .val (.ref pb), .val (.int (4 : Int32))]) rfl ?_
    show Steps p.tables e below (s₁.setTop (mkF m 29 #[.val (.ref pa), .val (.ref pb), .val (.int (4 : Int32))] [])) _
    refine XS.goto X0.here hx rfl (pc0 := 29) (pc' := 9) rfl (hb hby d4_29) (by decide) (by decide) ?_
    show Steps p.tables e below (s₁.setTop (mkF m 9 #[.val (.ref pa), .val (.ref pb), .val (.int (4 : Int32))] [])) _
    refine XS.iloadN X0.here hx rfl (hb hby d4_9) rfl ?_
    show Steps p.tables e below (s₁.setTop (mkF m 10 #[.val (.ref pa), .val (.ref pb), .val (.int (4 : Int32))] [(.int (4 : Int32))])) _
    refine XS.aloadN X0.here hx rfl (hb hby d4_10) rfl rfl ?_
    show Steps p.tables e below (s₁.setTop (mkF m 11 #[.val (.ref pa), .val (.ref pb), .val (.int (4 : Int32))] [(.ref pa), (.int (4 : Int32))])) _
    refine X0.arraylength hx (by rw [e0]; exact Ar15.1) (State.isArrayOf_alike (hZ).alike Ar15.2.1) (g := (mkF m 11 #[.val (.ref pa), .val (.ref pb), .val (.int (4 : Int32))] [(.ref pa), (.int (4 : Int32))])) rfl rfl (hb hby d4_11) _ ?_
    rw [len_of Sz15 Ng15]
    show Steps p.tables e below (s₁.setTop (mkF m 12 #[.val (.ref pa), .val (.ref pb), .val (.int (4 : Int32))] [(.int (4 : Int32)), (.int (4 : Int32))])) _
    refine XS.icmpYes X0.here hx rfl (pc0 := 12) (pc' := 32) rfl (hb hby d4_12) rfl (flt (by decide : ¬ ((4 : Int32) < (4 : Int32)))).2.1 (by decide) (by decide) ?_
    show Steps p.tables e below (s₁.setTop (mkF m 32 #[.val (.ref pa), .val (.ref pb), .val (.int (4 : Int32))] [])) _
    refine XS.iconst X0.here hx rfl (hb hby d4_32) ?_
    show Steps p.tables e below (s₁.setTop (mkF m 33 #[.val (.ref pa), .val (.ref pb), .val (.int (4 : Int32))] [(.int (1 : Int32))])) _
    exact retN X0 hx (t := .boolean) Bd.returns (by simp) (hb hby d4_33) hr
  · show Q4T Z pa pb ka kb h0 n0 _ s₁.heap _
    rw [e0]
    exact ⟨rfl, N0, rfl⟩
theorem d3_0 : decode jdk_42_method_66_code 0 = .ok (.aload_n 0, 1) := by decide +kernel
theorem d3_1 : decode jdk_42_method_66_code 1 = .ok (.aload_n 1, 1) := by decide +kernel
theorem d3_2 : decode jdk_42_method_66_code 2 = .ok (.if_acmp .ne 5, 3) := by decide +kernel
theorem d3_5 : decode jdk_42_method_66_code 5 = .ok (.iconst 1, 1) := by decide +kernel
theorem d3_6 : decode jdk_42_method_66_code 6 = .ok (.ireturn, 1) := by decide +kernel
theorem d3_7 : decode jdk_42_method_66_code 7 = .ok (.aload_n 1, 1) := by decide +kernel
theorem d3_8 : decode jdk_42_method_66_code 8 = .ok (.instanceof 10, 3) := by decide +kernel
theorem d3_11 : decode jdk_42_method_66_code 11 = .ok (.ifCond .eq 43, 3) := by decide +kernel
theorem d3_14 : decode jdk_42_method_66_code 14 = .ok (.aload_n 1, 1) := by decide +kernel
theorem d3_15 : decode jdk_42_method_66_code 15 = .ok (.checkcast 10, 3) := by decide +kernel
theorem d3_18 : decode jdk_42_method_66_code 18 = .ok (.astore_n 2, 1) := by decide +kernel
theorem d3_19 : decode jdk_42_method_66_code 19 = .ok (.getstatic 38, 3) := by decide +kernel
theorem d3_22 : decode jdk_42_method_66_code 22 = .ok (.ifCond .eq 14, 3) := by decide +kernel
theorem d3_25 : decode jdk_42_method_66_code 25 = .ok (.aload_n 0, 1) := by decide +kernel
theorem d3_26 : decode jdk_42_method_66_code 26 = .ok (.getfield 15, 3) := by decide +kernel
theorem d3_29 : decode jdk_42_method_66_code 29 = .ok (.aload_n 2, 1) := by decide +kernel
theorem d3_30 : decode jdk_42_method_66_code 30 = .ok (.getfield 15, 3) := by decide +kernel
theorem d3_33 : decode jdk_42_method_66_code 33 = .ok (.if_icmp .ne 21, 3) := by decide +kernel
theorem d3_36 : decode jdk_42_method_66_code 36 = .ok (.aload_n 0, 1) := by decide +kernel
theorem d3_37 : decode jdk_42_method_66_code 37 = .ok (.getfield 9, 3) := by decide +kernel
theorem d3_40 : decode jdk_42_method_66_code 40 = .ok (.aload_n 2, 1) := by decide +kernel
theorem d3_41 : decode jdk_42_method_66_code 41 = .ok (.getfield 9, 3) := by decide +kernel
theorem d3_44 : decode jdk_42_method_66_code 44 = .ok (.invokestatic 541, 3) := by decide +kernel
theorem pd_0 : parseMethodDescriptor "([B[B)Z" = some ⟨[(.array .byte), (.array .byte)], some .boolean⟩ := by decide +kernel
theorem d3_47 : decode jdk_42_method_66_code 47 = .ok (.ifCond .eq 7, 3) := by decide +kernel
theorem d3_50 : decode jdk_42_method_66_code 50 = .ok (.iconst 1, 1) := by decide +kernel
theorem d3_51 : decode jdk_42_method_66_code 51 = .ok (.goto 4, 3) := by decide +kernel
theorem d3_55 : decode jdk_42_method_66_code 55 = .ok (.ireturn, 1) := by decide +kernel
theorem pn_2 : plainName "java/lang/String" = true := by first | (simp [plainName, overriddenIn]; done) | decide +kernel
theorem ef_rm3T (m : MethodId) (x0 : Addr) (x1 : Addr) : entryFrame m #[(.ref x0), (.ref x1)] 3 = mkF m 0 #[.val (.ref x0), .val (.ref x1), .unset] [] := by first | (simp [entryFrame, mkF, argsToLocals, Value.category]; done) | rfl
def Q3T (Z : State) (px : Addr) (py : Addr) (tx : Addr) (ty : Addr) (kx : ClassId) (ky : ClassId) (zc : Int32) (h0 : Heap) (n0 : Nat) (v : Option Value) (h : Heap) (L : List Loc) : Prop := v = some (.int (1 : Int32)) ∧ Fr n0 L ∧ h = h0
set_option maxRecDepth 65536 in
set_option maxHeartbeats 40000000 in
theorem rm3T (l : Launch) (Z : State) (a0 : Array Value) (hw : ∀ d ∈ tables_1, d.before a0 Z = true) (ws : List Jvm.Cond) (px : Addr) (py : Addr) (tx : Addr) (ty : Addr) (kx : ClassId) (ky : ClassId) (zc : Int32) (h0 : Heap) (n0 : Nat) (Z0 : n0 ≤ h0.size) (E_x : Exa Z h0 px "java/lang/String") (E_y : Exa Z h0 py "java/lang/String") (V_x : Fld Z h0 px "java/lang/String" "value" "[B" (.ref tx)) (C_x : Fld Z h0 px "java/lang/String" "coder" "B" (.int (0 : Int32))) (K_x : Arv Z h0 tx kx .byte (4 : Int32) [(.int (116 : Int32)), (.int (114 : Int32)), (.int (117 : Int32)), (.int (101 : Int32))] (.int 0)) (V_y : Fld Z h0 py "java/lang/String" "value" "[B" (.ref ty)) (C_y : Fld Z h0 py "java/lang/String" "coder" "B" (.int (0 : Int32))) (K_y : Arv Z h0 ty ky .byte (4 : Int32) [(.int (116 : Int32)), (.int (114 : Int32)), (.int (117 : Int32)), (.int (101 : Int32))] (.int 0)) (S_c : Sta Z h0 "java/lang/String" "COMPACT_STRINGS" "Z" (.int zc)) (hzc : ¬ zc = (0 : Int32)) :
    MetFree l (⟨"java/lang/String", "equals", "(Ljava/lang/Object;)Z"⟩ : MethodName) (head1 (Jvm.Cond.code (⟨"java/lang/String", "equals", "(Ljava/lang/Object;)Z"⟩ : MethodName) jdk_42_method_66_code 3 (some .boolean) :: ws) ({ frames := 1, cells := 0, slots := 0, locals := 14 } : Room)) (fun a U => a = #[(.ref px), (.ref py)] ∧ Z.Warmed39 U.vm ∧ U.heap = h0) (fun _ _ _ _ _ => True) (fun _ U o U' => ∃ v L, o = .returned v ∧ Q3T Z px py tx ty kx ky zc h0 n0 v U'.heap L ∧ FrameEnd U o U' L ({ frames := 1, cells := 0, slots := 0, locals := 14 } : Room).cells ({ frames := 1, cells := 0, slots := 0, locals := 14 } : Room).slots) := by
  refine MetFree.of_bodySF (plainFor_of_name pn_2) hisR ?_
  intro p e s m args below meth c s₁ Bd hml0 hP hK
  obtain ⟨rfl, hZ, hh⟩ := hP
  have hx := Bd.exec
  have hby := Bd.bytes
  have hml : c.maxLocals = 3 := hml0
  have hown : s.vm.findClass "java/lang/String" = some m.cls := findClass_of_methodNamed Bd.named
  have hnm := (name_of_methodNamed Bd.named Bd.method).1
  have X0 : Stand p l e ({ frames := 1, cells := 0, slots := 0, locals := 14 } : Room) s m #[(.ref px), (.ref py)] below meth c s₁ [] 0 0 := Stand.of_body Bd
  have e0 : s₁.heap = h0 := by rw [← hh, Bd.state]; rfl
  have N0 := Fr.nil n0
  have pre0 : ∀ t, Steps p.tables e below (s₁.setTop (mkF m 0 #[.val (.ref px), .val (.ref py), .unset] [])) t → Steps p.tables e below (s₁.setTop (entryFrame m #[(.ref px), (.ref py)] 3)) t := fun t k => castTop (ef_rm3T m px py) k
  have pre1 : ∀ t, Steps p.tables e below (s₁.setTop (mkF m 2 #[.val (.ref px), .val (.ref py), .unset] [(.ref py), (.ref px)])) t → Steps p.tables e below (s₁.setTop (entryFrame m #[(.ref px), (.ref py)] 3)) t := by
    intro t kt
    refine pre0 t ?_
    show Steps p.tables e below (s₁.setTop (mkF m 0 #[.val (.ref px), .val (.ref py), .unset] [])) _
    refine XS.aloadN X0.here hx rfl (hb hby d3_0) rfl rfl ?_
    show Steps p.tables e below (s₁.setTop (mkF m 1 #[.val (.ref px), .val (.ref py), .unset] [(.ref px)])) _
    refine XS.aloadN X0.here hx rfl (hb hby d3_1) rfl rfl ?_
    show Steps p.tables e below (s₁.setTop (mkF m 2 #[.val (.ref px), .val (.ref py), .unset] [(.ref py), (.ref px)])) _
    exact kt
  by_cases ha2_2 : px = py
  · obtain ⟨fs, hr, hrun, hended, hW, hsame⟩ := X0.leave (v := some (.int (1 : Int32))) (fun h => by rw [Bd.returns] at h; cases h)
    refine ⟨_, _, pre1 _ ?_, hrun, hended, _, _, rfl, ?_, ⟨_, rfl⟩, hW, hsame.mono (by decide) (by decide)⟩
    · show Steps p.tables e below (s₁.setTop (mkF m 2 #[.val (.ref px), .val (.ref py), .unset] [(.ref py), (.ref px)])) _
      refine Jvm.RoadKit.acmp (g := (mkF m 2 #[.val (.ref px), .val (.ref py), .unset] [(.ref py), (.ref px)])) X0 hx rfl rfl rfl (pc0 := 2) (pc' := 5) (same := true) rfl (hb hby d3_2) rfl (decide_eq_true (congrArg Value.ref ha2_2)) (by decide) (by decide) ?_
      show Steps p.tables e below (s₁.setTop (mkF m 5 #[.val (.ref px), .val (.ref py), .unset] [])) _
      refine XS.iconst X0.here hx rfl (hb hby d3_5) ?_
      show Steps p.tables e below (s₁.setTop (mkF m 6 #[.val (.ref px), .val (.ref py), .unset] [(.int (1 : Int32))])) _
      exact retN X0 hx (t := .boolean) Bd.returns (by simp) (hb hby d3_6) hr
    · show Q3T Z px py tx ty kx ky zc h0 n0 _ s₁.heap _
      rw [e0]
      exact ⟨rfl, N0, rfl⟩
  · obtain ⟨T4, X4, e4, st4⟩ := instY X0 hx hZ hown (hw _ (List.mem_of_getElem? (i := 27) rfl)) e0 (Ins.self E_y) (g := (mkF m 8 #[.val (.ref px), .val (.ref py), .unset] [(.ref py)])) rfl rfl (hb hby d3_8)
    obtain ⟨T5, X5, e5, st5⟩ := castY X4 hx hZ hown (hw _ (List.mem_of_getElem? (i := 27) rfl)) e4 (Ins.self E_y) (g := (mkF m 15 #[.val (.ref px), .val (.ref py), .unset] [(.ref py)])) rfl rfl (hb hby d3_15)
    obtain ⟨T6, X6, e6, st6⟩ := getS2 X5 hx hZ hown (host := "") (Or.inl (hw _ (List.mem_of_getElem? (i := 29) rfl))) Via.refl e5 S_c (g := (mkF m 19 #[.val (.ref px), .val (.ref py), .val (.ref py)] [])) rfl (hb hby d3_19)
    obtain ⟨T7, X7, e7, st7⟩ := getF X6 hx hZ hown (host := "") (Or.inl (hw _ (List.mem_of_getElem? (i := 30) rfl))) Via.refl e6 C_x (g := (mkF m 26 #[.val (.ref px), .val (.ref py), .val (.ref py)] [(.ref px)])) rfl rfl (hb hby d3_26)
    obtain ⟨T8, X8, e8, st8⟩ := getF X7 hx hZ hown (host := "") (Or.inl (hw _ (List.mem_of_getElem? (i := 30) rfl))) Via.refl e7 C_y (g := (mkF m 30 #[.val (.ref px), .val (.ref py), .val (.ref py)] [(.ref py), (.int (0 : Int32))])) rfl rfl (hb hby d3_30)
    obtain ⟨T9, X9, e9, st9⟩ := getF X8 hx hZ hown (host := "") (Or.inl (hw _ (List.mem_of_getElem? (i := 31) rfl))) Via.refl e8 V_x (g := (mkF m 37 #[.val (.ref px), .val (.ref py), .val (.ref py)] [(.ref px)])) rfl rfl (hb hby d3_37)
    obtain ⟨T10, X10, e10, st10⟩ := getF X9 hx hZ hown (host := "") (Or.inl (hw _ (List.mem_of_getElem? (i := 31) rfl))) Via.refl e9 V_y (g := (mkF m 41 #[.val (.ref px), .val (.ref py), .val (.ref py)] [(.ref py), (.ref tx)])) rfl rfl (hb hby d3_41)
    obtain ⟨_, _, ⟨T11, L11, k11, n11⟩, -, X11, ⟨Lc11, hQ11, l11, y11, z11⟩, st11⟩ := Jvm.LawKit.callS X10 hx (y := (⟨"java/lang/StringLatin1", "equals", "([B[B)Z"⟩ : MethodName)) hown (mvT hZ (hw _ (List.mem_of_getElem? (i := 32) rfl))) (mvT hZ (hw _ (List.mem_of_getElem? (i := 33) rfl))) (mvT hZ (hw _ (List.mem_of_getElem? (i := 34) rfl))) (mvT hZ (hw _ (List.mem_of_getElem? (i := 35) rfl))) (by decide) (backOf (W := 0) (rm4T l Z a0 hw [] tx ty kx ky h0 n0 Z0 K_x K_y) hZ (hw _ (List.mem_of_getElem? (i := 35) rfl)) (hw _ (List.mem_of_getElem? (i := 34) rfl)) (by decide) (by decide)) (g := (mkF m 44 #[.val (.ref px), .val (.ref py), .val (.ref py)] [(.ref ty), (.ref tx)])) rfl (by rw [hml]; rfl) (argsL := [(.ref tx), (.ref ty)]) (rest := []) (lenOf pd_0 rfl) rfl (by show 2 * 0 + _ ≤ _; exact Nat.le_of_eq rfl) (hb hby d3_44) (fun _ _ => ⟨rfl, e10, (by decide : 0 + 0 ≤ _), (by decide : 0 + 0 ≤ _)⟩)
    dsimp only [Pt.U, Pt.locs, Pt.cells, Pt.slots] at X11 l11 y11 z11 st11 hQ11
    subst l11 y11 z11
    obtain ⟨rfl, N11q, e11⟩ := hQ11
    have N11 := Fr.app N0 N11q
    obtain ⟨fs, hr, hrun, hended, hW, hsame⟩ := X11.leave (v := some (.int (1 : Int32))) (fun h => by rw [Bd.returns] at h; cases h)
    refine ⟨_, _, pre1 _ ?_, hrun, hended, _, _, rfl, ?_, ⟨_, rfl⟩, hW, hsame.mono (by decide) (by decide)⟩
    · show Steps p.tables e below (s₁.setTop (mkF m 2 #[.val (.ref px), .val (.ref py), .unset] [(.ref py), (.ref px)])) _
      refine Jvm.RoadKit.acmp (g := (mkF m 2 #[.val (.ref px), .val (.ref py), .unset] [(.ref py), (.ref px)])) X0 hx rfl rfl rfl (pc0 := 2) (pc' := 7) (same := false) rfl (hb hby d3_2) rfl (decide_eq_false fun q => ha2_2 (Value.ref.inj q)) (by decide) (by decide) ?_
      show Steps p.tables e below (s₁.setTop (mkF m 7 #[.val (.ref px), .val (.ref py), .unset] [])) _
      refine XS.aloadN X0.here hx rfl (hb hby d3_7) rfl rfl ?_
      show Steps p.tables e below (s₁.setTop (mkF m 8 #[.val (.ref px), .val (.ref py), .unset] [(.ref py)])) _
      refine st4 _ ?_
      show Steps p.tables e below (T4.setTop (mkF m 11 #[.val (.ref px), .val (.ref py), .unset] [(.int (1 : Int32))])) _
      refine XS.ifNo X4.here hx rfl (hb hby d3_11) rfl ((if0 _ _).trans (feq (by decide : ¬ ((1 : Int32) = (0 : Int32)))).1) ?_
      show Steps p.tables e below (T4.setTop (mkF m 14 #[.val (.ref px), .val (.ref py), .unset] [])) _
      refine XS.aloadN X4.here hx rfl (hb hby d3_14) rfl rfl ?_
      show Steps p.tables e below (T4.setTop (mkF m 15 #[.val (.ref px), .val (.ref py), .unset] [(.ref py)])) _
      refine st5 _ ?_
      show Steps p.tables e below (T5.setTop (mkF m 18 #[.val (.ref px), .val (.ref py), .unset] [(.ref py)])) _
      refine XS.astoreN X5.here hx rfl (hb hby d3_18) rfl rfl (l' := #[.val (.ref px), .val (.ref py), .val (.ref py)]) rfl ?_
      show Steps p.tables e below (T5.setTop (mkF m 19 #[.val (.ref px), .val (.ref py), .val (.ref py)] [])) _
      refine st6 _ ?_
      show Steps p.tables e below (T6.setTop (mkF m 22 #[.val (.ref px), .val (.ref py), .val (.ref py)] [(.int zc)])) _
      refine XS.ifNo X6.here hx rfl (hb hby d3_22) rfl ((if0 _ _).trans (feq hzc).1) ?_
      show Steps p.tables e below (T6.setTop (mkF m 25 #[.val (.ref px), .val (.ref py), .val (.ref py)] [])) _
      refine XS.aloadN X6.here hx rfl (hb hby d3_25) rfl rfl ?_
      show Steps p.tables e below (T6.setTop (mkF m 26 #[.val (.ref px), .val (.ref py), .val (.ref py)] [(.ref px)])) _
      refine st7 _ ?_
      show Steps p.tables e below (T7.setTop (mkF m 29 #[.val (.ref px), .val (.ref py), .val (.ref py)] [(.int (0 : Int32))])) _
      refine XS.aloadN X7.here hx rfl (hb hby d3_29) rfl rfl ?_
      show Steps p.tables e below (T7.setTop (mkF m 30 #[.val (.ref px), .val (.ref py), .val (.ref py)] [(.ref py), (.int (0 : Int32))])) _
      refine st8 _ ?_
      show Steps p.tables e below (T8.setTop (mkF m 33 #[.val (.ref px), .val (.ref py), .val (.ref py)] [(.int (0 : Int32)), (.int (0 : Int32))])) _
      refine XS.icmpNo X8.here hx rfl (hb hby d3_33) rfl (teq (rfl : (0 : Int32) = (0 : Int32))).2 ?_
      show Steps p.tables e below (T8.setTop (mkF m 36 #[.val (.ref px), .val (.ref py), .val (.ref py)] [])) _
      refine XS.aloadN X8.here hx rfl (hb hby d3_36) rfl rfl ?_
      show Steps p.tables e below (T8.setTop (mkF m 37 #[.val (.ref px), .val (.ref py), .val (.ref py)] [(.ref px)])) _
      refine st9 _ ?_
      show Steps p.tables e below (T9.setTop (mkF m 40 #[.val (.ref px), .val (.ref py), .val (.ref py)] [(.ref tx)])) _
      refine XS.aloadN X9.here hx rfl (hb hby d3_40) rfl rfl ?_
      show Steps p.tables e below (T9.setTop (mkF m 41 #[.val (.ref px), .val (.ref py), .val (.ref py)] [(.ref py), (.ref tx)])) _
      refine st10 _ ?_
      show Steps p.tables e below (T10.setTop (mkF m 44 #[.val (.ref px), .val (.ref py), .val (.ref py)] [(.ref ty), (.ref tx)])) _
      refine st11 _ ?_
      show Steps p.tables e below (T11.setTop (mkF m 47 #[.val (.ref px), .val (.ref py), .val (.ref py)] [(.int (1 : Int32))])) _
      refine XS.ifNo X11.here hx rfl (hb hby d3_47) rfl ((if0 _ _).trans (feq (by decide : ¬ ((1 : Int32) = (0 : Int32)))).1) ?_
      show Steps p.tables e below (T11.setTop (mkF m 50 #[.val (.ref px), .val (.ref py), .val (.ref py)] [])) _
      refine XS.iconst X11.here hx rfl (hb hby d3_50) ?_
      show Steps p.tables e below (T11.setTop (mkF m 51 #[.val (.ref px), .val (.ref py), .val (.ref py)] [(.int (1 : Int32))])) _
      refine XS.goto X11.here hx rfl (pc0 := 51) (pc' := 55) rfl (hb hby d3_51) (by decide) (by decide) ?_
      show Steps p.tables e below (T11.setTop (mkF m 55 #[.val (.ref px), .val (.ref py), .val (.ref py)] [(.int (1 : Int32))])) _
      exact retN X11 hx (t := .boolean) Bd.returns (by simp) (hb hby d3_55) hr
    · show Q3T Z px py tx ty kx ky zc h0 n0 _ T11.heap _
      rw [e11]
      exact ⟨rfl, N11, rfl⟩
theorem ef_rm4F (m : MethodId) (x0 : Addr) (x1 : Addr) : entryFrame m #[(.ref x0), (.ref x1)] 3 = mkF m 0 #[.val (.ref x0), .val (.ref x1), .unset] [] := by first | (simp [entryFrame, mkF, argsToLocals, Value.category]; done) | rfl
def Q4F (Z : State) (pa : Addr) (pb : Addr) (ka : ClassId) (kb : ClassId) (h0 : Heap) (n0 : Nat) (v : Option Value) (h : Heap) (L : List Loc) : Prop := v = some (.int (1 : Int32)) ∧ Fr n0 L ∧ h = h0
set_option maxRecDepth 65536 in
set_option maxHeartbeats 40000000 in
theorem rm4F (l : Launch) (Z : State) (a0 : Array Value) (hw : ∀ d ∈ tables_1, d.before a0 Z = true) (ws : List Jvm.Cond) (pa : Addr) (pb : Addr) (ka : ClassId) (kb : ClassId) (h0 : Heap) (n0 : Nat) (Z0 : n0 ≤ h0.size) (V_pa : Arv Z h0 pa ka .byte (5 : Int32) [(.int (102 : Int32)), (.int (97 : Int32)), (.int (108 : Int32)), (.int (115 : Int32)), (.int (101 : Int32))] (.int 0)) (V_pb : Arv Z h0 pb kb .byte (5 : Int32) [(.int (102 : Int32)), (.int (97 : Int32)), (.int (108 : Int32)), (.int (115 : Int32)), (.int (101 : Int32))] (.int 0)) :
    MetFree l (⟨"java/lang/StringLatin1", "equals", "([B[B)Z"⟩ : MethodName) (head1 (Jvm.Cond.code (⟨"java/lang/StringLatin1", "equals", "([B[B)Z"⟩ : MethodName) jdk_43_method_13_code 3 (some .boolean) :: ws) ({ frames := 0, cells := 0, slots := 0, locals := 0 } : Room)) (fun a U => a = #[(.ref pa), (.ref pb)] ∧ Z.Warmed39 U.vm ∧ U.heap = h0) (fun _ _ _ _ _ => True) (fun _ U o U' => ∃ v L, o = .returned v ∧ Q4F Z pa pb ka kb h0 n0 v U'.heap L ∧ FrameEnd U o U' L ({ frames := 0, cells := 0, slots := 0, locals := 0 } : Room).cells ({ frames := 0, cells := 0, slots := 0, locals := 0 } : Room).slots) := by
  refine MetFree.of_bodySF (plainFor_of_name pn_1) hisR ?_
  intro p e s m args below meth c s₁ Bd hml0 hP hK
  obtain ⟨rfl, hZ, hh⟩ := hP
  have hx := Bd.exec
  have hby := Bd.bytes
  have hml : c.maxLocals = 3 := hml0
  have hown : s.vm.findClass "java/lang/StringLatin1" = some m.cls := findClass_of_methodNamed Bd.named
  have hnm := (name_of_methodNamed Bd.named Bd.method).1
  have X0 : Stand p l e ({ frames := 0, cells := 0, slots := 0, locals := 0 } : Room) s m #[(.ref pa), (.ref pb)] below meth c s₁ [] 0 0 := Stand.of_body Bd
  have e0 : s₁.heap = h0 := by rw [← hh, Bd.state]; rfl
  have N0 := Fr.nil n0
  have pre0 : ∀ t, Steps p.tables e below (s₁.setTop (mkF m 0 #[.val (.ref pa), .val (.ref pb), .unset] [])) t → Steps p.tables e below (s₁.setTop (entryFrame m #[(.ref pa), (.ref pb)] 3)) t := fun t k => castTop (ef_rm4F m pa pb) k
  obtain ⟨cl1, Ar1, qc1, Sz1, Ng1, Hs1, Gs1⟩ := (id V_pa)
  obtain ⟨cl2, Ar2, qc2, Sz2, Ng2, Hs2, Gs2⟩ := (id V_pb)
  obtain ⟨cl3, Ar3, qc3, Sz3, Ng3, Hs3, Gs3⟩ := (id V_pa)
  obtain ⟨cl4, Ar4, qc4, Sz4, Ng4, Hs4, Gs4⟩ := (id V_pa)
  have hin4 : ¬ ((0 : Int32) < 0 ∨ cl4.slots.size ≤ ((0 : Int32)).toNatClampNeg) := inb_of Sz4 ⟨by decide, by decide⟩
  have hat4 : cl4.slots[((0 : Int32)).toNatClampNeg]? = some (.int (102 : Int32)) := Has.at Hs4 hin4 rfl
  obtain ⟨cl5, Ar5, qc5, Sz5, Ng5, Hs5, Gs5⟩ := (id V_pb)
  have hin5 : ¬ ((0 : Int32) < 0 ∨ cl5.slots.size ≤ ((0 : Int32)).toNatClampNeg) := inb_of Sz5 ⟨by decide, by decide⟩
  have hat5 : cl5.slots[((0 : Int32)).toNatClampNeg]? = some (.int (102 : Int32)) := Has.at Hs5 hin5 rfl
  obtain ⟨cl6, Ar6, qc6, Sz6, Ng6, Hs6, Gs6⟩ := (id V_pa)
  obtain ⟨cl7, Ar7, qc7, Sz7, Ng7, Hs7, Gs7⟩ := (id V_pa)
  have hin7 : ¬ ((1 : Int32) < 0 ∨ cl7.slots.size ≤ ((1 : Int32)).toNatClampNeg) := inb_of Sz7 ⟨by decide, by decide⟩
  have hat7 : cl7.slots[((1 : Int32)).toNatClampNeg]? = some (.int (97 : Int32)) := Has.at Hs7 hin7 rfl
  obtain ⟨cl8, Ar8, qc8, Sz8, Ng8, Hs8, Gs8⟩ := (id V_pb)
  have hin8 : ¬ ((1 : Int32) < 0 ∨ cl8.slots.size ≤ ((1 : Int32)).toNatClampNeg) := inb_of Sz8 ⟨by decide, by decide⟩
  have hat8 : cl8.slots[((1 : Int32)).toNatClampNeg]? = some (.int (97 : Int32)) := Has.at Hs8 hin8 rfl
  obtain ⟨cl9, Ar9, qc9, Sz9, Ng9, Hs9, Gs9⟩ := (id V_pa)
  obtain ⟨cl10, Ar10, qc10, Sz10, Ng10, Hs10, Gs10⟩ := (id V_pa)
  have hin10 : ¬ ((2 : Int32) < 0 ∨ cl10.slots.size ≤ ((2 : Int32)).toNatClampNeg) := inb_of Sz10 ⟨by decide, by decide⟩
  have hat10 : cl10.slots[((2 : Int32)).toNatClampNeg]? = some (.int (108 : Int32)) := Has.at Hs10 hin10 rfl
  obtain ⟨cl11, Ar11, qc11, Sz11, Ng11, Hs11, Gs11⟩ := (id V_pb)
  have hin11 : ¬ ((2 : Int32) < 0 ∨ cl11.slots.size ≤ ((2 : Int32)).toNatClampNeg) := inb_of Sz11 ⟨by decide, by decide⟩
  have hat11 : cl11.slots[((2 : Int32)).toNatClampNeg]? = some (.int (108 : Int32)) := Has.at Hs11 hin11 rfl
  obtain ⟨cl12, Ar12, qc12, Sz12, Ng12, Hs12, Gs12⟩ := (id V_pa)
  obtain ⟨cl13, Ar13, qc13, Sz13, Ng13, Hs13, Gs13⟩ := (id V_pa)
  have hin13 : ¬ ((3 : Int32) < 0 ∨ cl13.slots.size ≤ ((3 : Int32)).toNatClampNeg) := inb_of Sz13 ⟨by decide, by decide⟩
  have hat13 : cl13.slots[((3 : Int32)).toNatClampNeg]? = some (.int (115 : Int32)) := Has.at Hs13 hin13 rfl
  obtain ⟨cl14, Ar14, qc14, Sz14, Ng14, Hs14, Gs14⟩ := (id V_pb)
  have hin14 : ¬ ((3 : Int32) < 0 ∨ cl14.slots.size ≤ ((3 : Int32)).toNatClampNeg) := inb_of Sz14 ⟨by decide, by decide⟩
  have hat14 : cl14.slots[((3 : Int32)).toNatClampNeg]? = some (.int (115 : Int32)) := Has.at Hs14 hin14 rfl
  obtain ⟨cl15, Ar15, qc15, Sz15, Ng15, Hs15, Gs15⟩ := (id V_pa)
  obtain ⟨cl16, Ar16, qc16, Sz16, Ng16, Hs16, Gs16⟩ := (id V_pa)
  have hin16 : ¬ ((4 : Int32) < 0 ∨ cl16.slots.size ≤ ((4 : Int32)).toNatClampNeg) := inb_of Sz16 ⟨by decide, by decide⟩
  have hat16 : cl16.slots[((4 : Int32)).toNatClampNeg]? = some (.int (101 : Int32)) := Has.at Hs16 hin16 rfl
  obtain ⟨cl17, Ar17, qc17, Sz17, Ng17, Hs17, Gs17⟩ := (id V_pb)
  have hin17 : ¬ ((4 : Int32) < 0 ∨ cl17.slots.size ≤ ((4 : Int32)).toNatClampNeg) := inb_of Sz17 ⟨by decide, by decide⟩
  have hat17 : cl17.slots[((4 : Int32)).toNatClampNeg]? = some (.int (101 : Int32)) := Has.at Hs17 hin17 rfl
  obtain ⟨cl18, Ar18, qc18, Sz18, Ng18, Hs18, Gs18⟩ := (id V_pa)
  obtain ⟨fs, hr, hrun, hended, hW, hsame⟩ := X0.leave (v := some (.int (1 : Int32))) (fun h => by rw [Bd.returns] at h; cases h)
  refine ⟨_, _, pre0 _ ?_, hrun, hended, _, _, rfl, ?_, ⟨_, rfl⟩, hW, hsame.mono (by decide) (by decide)⟩
  · show Steps p.tables e below (s₁.setTop (mkF m 0 #[.val (.ref pa), .val (.ref pb), .unset] [])) _
    refine XS.aloadN X0.here hx rfl (hb hby d4_0) rfl rfl ?_
    show Steps p.tables e below (s₁.setTop (mkF m 1 #[.val (.ref pa), .val (.ref pb), .unset] [(.ref pa)])) _
    refine X0.arraylength hx (by rw [e0]; exact Ar1.1) (State.isArrayOf_alike (hZ).alike Ar1.2.1) (g := (mkF m 1 #[.val (.ref pa), .val (.ref pb), .unset] [(.ref pa)])) rfl rfl (hb hby d4_1) _ ?_
    rw [len_of Sz1 Ng1]
    show Steps p.tables e below (s₁.setTop (mkF m 2 #[.val (.ref pa), .val (.ref pb), .unset] [(.int (5 : Int32))])) _
    refine XS.aloadN X0.here hx rfl (hb hby d4_2) rfl rfl ?_
    show Steps p.tables e below (s₁.setTop (mkF m 3 #[.val (.ref pa), .val (.ref pb), .unset] [(.ref pb), (.int (5 : Int32))])) _
    refine X0.arraylength hx (by rw [e0]; exact Ar2.1) (State.isArrayOf_alike (hZ).alike Ar2.2.1) (g := (mkF m 3 #[.val (.ref pa), .val (.ref pb), .unset] [(.ref pb), (.int (5 : Int32))])) rfl rfl (hb hby d4_3) _ ?_
    rw [len_of Sz2 Ng2]
    show Steps p.tables e below (s₁.setTop (mkF m 4 #[.val (.ref pa), .val (.ref pb), .unset] [(.int (5 : Int32)), (.int (5 : Int32))])) _
    refine XS.icmpNo X0.here hx rfl (hb hby d4_4) rfl (teq (rfl : (5 : Int32) = (5 : Int32))).2 ?_
    show Steps p.tables e below (s₁.setTop (mkF m 7 #[.val (.ref pa), .val (.ref pb), .unset] [])) _
    refine XS.iconst X0.here hx rfl (hb hby d4_7) ?_
    show Steps p.tables e below (s₁.setTop (mkF m 8 #[.val (.ref pa), .val (.ref pb), .unset] [(.int (0 : Int32))])) _
    refine XS.istoreN X0.here hx rfl (hb hby d4_8) rfl (l' := #[.val (.ref pa), .val (.ref pb), .val (.int (0 : Int32))]) rfl ?_
    show Steps p.tables e below (s₁.setTop (mkF m 9 #[.val (.ref pa), .val (.ref pb), .val (.int (0 : Int32))] [])) _
    refine XS.iloadN X0.here hx rfl (hb hby d4_9) rfl ?_
    show Steps p.tables e below (s₁.setTop (mkF m 10 #[.val (.ref pa), .val (.ref pb), .val (.int (0 : Int32))] [(.int (0 : Int32))])) _
    refine XS.aloadN X0.here hx rfl (hb hby d4_10) rfl rfl ?_
    show Steps p.tables e below (s₁.setTop (mkF m 11 #[.val (.ref pa), .val (.ref pb), .val (.int (0 : Int32))] [(.ref pa), (.int (0 : Int32))])) _
    refine X0.arraylength hx (by rw [e0]; exact Ar3.1) (State.isArrayOf_alike (hZ).alike Ar3.2.1) (g := (mkF m 11 #[.val (.ref pa), .val (.ref pb), .val (.int (0 : Int32))] [(.ref pa), (.int (0 : Int32))])) rfl rfl (hb hby d4_11) _ ?_
    rw [len_of Sz3 Ng3]
    show Steps p.tables e below (s₁.setTop (mkF m 12 #[.val (.ref pa), .val (.ref pb), .val (.int (0 : Int32))] [(.int (5 : Int32)), (.int (0 : Int32))])) _
    refine XS.icmpNo X0.here hx rfl (hb hby d4_12) rfl (tlt (by decide : ((0 : Int32) < (5 : Int32)))).2.1 ?_
    show Steps p.tables e below (s₁.setTop (mkF m 15 #[.val (.ref pa), .val (.ref pb), .val (.int (0 : Int32))] [])) _
    refine XS.aloadN X0.here hx rfl (hb hby d4_15) rfl rfl ?_
    show Steps p.tables e below (s₁.setTop (mkF m 16 #[.val (.ref pa), .val (.ref pb), .val (.int (0 : Int32))] [(.ref pa)])) _
    refine XS.iloadN X0.here hx rfl (hb hby d4_16) rfl ?_
    show Steps p.tables e below (s₁.setTop (mkF m 17 #[.val (.ref pa), .val (.ref pb), .val (.int (0 : Int32))] [(.int (0 : Int32)), (.ref pa)])) _
    refine X0.baloadBytes hx (j := (0 : Int32)) (v := (.int (102 : Int32))) (by rw [e0]; exact Ar4.1) (State.isArrayOf_alike (hZ).alike Ar4.2.1) Ar4.2.2 hin4 hat4 (g := (mkF m 17 #[.val (.ref pa), .val (.ref pb), .val (.int (0 : Int32))] [(.int (0 : Int32)), (.ref pa)])) rfl rfl (hb hby d4_17) _ ?_
    show Steps p.tables e below (s₁.setTop (mkF m 18 #[.val (.ref pa), .val (.ref pb), .val (.int (0 : Int32))] [(.int (102 : Int32))])) _
    refine XS.aloadN X0.here hx rfl (hb hby d4_18) rfl rfl ?_
    show Steps p.tables e below (s₁.setTop (mkF m 19 #[.val (.ref pa), .val (.ref pb), .val (.int (0 : Int32))] [(.ref pb), (.int (102 : Int32))])) _
    refine XS.iloadN X0.here hx rfl (hb hby d4_19) rfl ?_
    show Steps p.tables e below (s₁.setTop (mkF m 20 #[.val (.ref pa), .val (.ref pb), .val (.int (0 : Int32))] [(.int (0 : Int32)), (.ref pb), (.int (102 : Int32))])) _
    refine X0.baloadBytes hx (j := (0 : Int32)) (v := (.int (102 : Int32))) (by rw [e0]; exact Ar5.1) (State.isArrayOf_alike (hZ).alike Ar5.2.1) Ar5.2.2 hin5 hat5 (g := (mkF m 20 #[.val (.ref pa), .val (.ref pb), .val (.int (0 : Int32))] [(.int (0 : Int32)), (.ref pb), (.int (102 : Int32))])) rfl rfl (hb hby d4_20) _ ?_
    show Steps p.tables e below (s₁.setTop (mkF m 21 #[.val (.ref pa), .val (.ref pb), .val (.int (0 : Int32))] [(.int (102 : Int32)), (.int (102 : Int32))])) _
    refine XS.icmpYes X0.here hx rfl (pc0 := 21) (pc' := 26) rfl (hb hby d4_21) rfl (teq (rfl : (102 : Int32) = (102 : Int32))).1 (by decide) (by decide) ?_
    show Steps p.tables e below (s₁.setTop (mkF m 26 #[.val (.ref pa), .val (.ref pb), .val (.int (0 : Int32))] [])) _
    refine XS.iinc X0.here hx rfl (hb hby d4_26) rfl (l' := #[.val (.ref pa), .val (.ref pb), .val (.int (1 : Int32))]) rfl ?_
    show Steps p.tables e below (s₁.setTop (mkF m 29 #[.val (.ref pa), .val (.ref pb), .val (.int (1 : Int32))] [])) _
    refine XS.goto X0.here hx rfl (pc0 := 29) (pc' := 9) rfl (hb hby d4_29) (by decide) (by decide) ?_
    show Steps p.tables e below (s₁.setTop (mkF m 9 #[.val (.ref pa), .val (.ref pb), .val (.int (1 : Int32))] [])) _
    refine XS.iloadN X0.here hx rfl (hb hby d4_9) rfl ?_
    show Steps p.tables e below (s₁.setTop (mkF m 10 #[.val (.ref pa), .val (.ref pb), .val (.int (1 : Int32))] [(.int (1 : Int32))])) _
    refine XS.aloadN X0.here hx rfl (hb hby d4_10) rfl rfl ?_
    show Steps p.tables e below (s₁.setTop (mkF m 11 #[.val (.ref pa), .val (.ref pb), .val (.int (1 : Int32))] [(.ref pa), (.int (1 : Int32))])) _
    refine X0.arraylength hx (by rw [e0]; exact Ar6.1) (State.isArrayOf_alike (hZ).alike Ar6.2.1) (g := (mkF m 11 #[.val (.ref pa), .val (.ref pb), .val (.int (1 : Int32))] [(.ref pa), (.int (1 : Int32))])) rfl rfl (hb hby d4_11) _ ?_
    rw [len_of Sz6 Ng6]
    show Steps p.tables e below (s₁.setTop (mkF m 12 #[.val (.ref pa), .val (.ref pb), .val (.int (1 : Int32))] [(.int (5 : Int32)), (.int (1 : Int32))])) _
    refine XS.icmpNo X0.here hx rfl (hb hby d4_12) rfl (tlt (by decide : ((1 : Int32) < (5 : Int32)))).2.1 ?_
    show Steps p.tables e below (s₁.setTop (mkF m 15 #[.val (.ref pa), .val (.ref pb), .val (.int (1 : Int32))] [])) _
    refine XS.aloadN X0.here hx rfl (hb hby d4_15) rfl rfl ?_
    show Steps p.tables e below (s₁.setTop (mkF m 16 #[.val (.ref pa), .val (.ref pb), .val (.int (1 : Int32))] [(.ref pa)])) _
    refine XS.iloadN X0.here hx rfl (hb hby d4_16) rfl ?_
    show Steps p.tables e below (s₁.setTop (mkF m 17 #[.val (.ref pa), .val (.ref pb), .val (.int (1 : Int32))] [(.int (1 : Int32)), (.ref pa)])) _
    refine X0.baloadBytes hx (j := (1 : Int32)) (v := (.int (97 : Int32))) (by rw [e0]; exact Ar7.1) (State.isArrayOf_alike (hZ).alike Ar7.2.1) Ar7.2.2 hin7 hat7 (g := (mkF m 17 #[.val (.ref pa), .val (.ref pb), .val (.int (1 : Int32))] [(.int (1 : Int32)), (.ref pa)])) rfl rfl (hb hby d4_17) _ ?_
    show Steps p.tables e below (s₁.setTop (mkF m 18 #[.val (.ref pa), .val (.ref pb), .val (.int (1 : Int32))] [(.int (97 : Int32))])) _
    refine XS.aloadN X0.here hx rfl (hb hby d4_18) rfl rfl ?_
    show Steps p.tables e below (s₁.setTop (mkF m 19 #[.val (.ref pa), .val (.ref pb), .val (.int (1 : Int32))] [(.ref pb), (.int (97 : Int32))])) _
    refine XS.iloadN X0.here hx rfl (hb hby d4_19) rfl ?_
    show Steps p.tables e below (s₁.setTop (mkF m 20 #[.val (.ref pa), .val (.ref pb), .val (.int (1 : Int32))] [(.int (1 : Int32)), (.ref pb), (.int (97 : Int32))])) _
    refine X0.baloadBytes hx (j := (1 : Int32)) (v := (.int (97 : Int32))) (by rw [e0]; exact Ar8.1) (State.isArrayOf_alike (hZ).alike Ar8.2.1) Ar8.2.2 hin8 hat8 (g := (mkF m 20 #[.val (.ref pa), .val (.ref pb), .val (.int (1 : Int32))] [(.int (1 : Int32)), (.ref pb), (.int (97 : Int32))])) rfl rfl (hb hby d4_20) _ ?_
    show Steps p.tables e below (s₁.setTop (mkF m 21 #[.val (.ref pa), .val (.ref pb), .val (.int (1 : Int32))] [(.int (97 : Int32)), (.int (97 : Int32))])) _
    refine XS.icmpYes X0.here hx rfl (pc0 := 21) (pc' := 26) rfl (hb hby d4_21) rfl (teq (rfl : (97 : Int32) = (97 : Int32))).1 (by decide) (by decide) ?_
    show Steps p.tables e below (s₁.setTop (mkF m 26 #[.val (.ref pa), .val (.ref pb), .val (.int (1 : Int32))] [])) _
    refine XS.iinc X0.here hx rfl (hb hby d4_26) rfl (l' := #[.val (.ref pa), .val (.ref pb), .val (.int (2 : Int32))]) rfl ?_
    show Steps p.tables e below (s₁.setTop (mkF m 29 #[.val (.ref pa), .val (.ref pb), .val (.int (2 : Int32))] [])) _
    refine XS.goto X0.here hx rfl (pc0 := 29) (pc' := 9) rfl (hb hby d4_29) (by decide) (by decide) ?_
    show Steps p.tables e below (s₁.setTop (mkF m 9 #[.val (.ref pa), .val (.ref pb), .val (.int (2 : Int32))] [])) _
    refine XS.iloadN X0.here hx rfl (hb hby d4_9) rfl ?_
    show Steps p.tables e below (s₁.setTop (mkF m 10 #[.val (.ref pa), .val (.ref pb), .val (.int (2 : Int32))] [(.int (2 : Int32))])) _
    refine XS.aloadN X0.here hx rfl (hb hby d4_10) rfl rfl ?_
    show Steps p.tables e below (s₁.setTop (mkF m 11 #[.val (.ref pa), .val (.ref pb), .val (.int (2 : Int32))] [(.ref pa), (.int (2 : Int32))])) _
    refine X0.arraylength hx (by rw [e0]; exact Ar9.1) (State.isArrayOf_alike (hZ).alike Ar9.2.1) (g := (mkF m 11 #[.val (.ref pa), .val (.ref pb), .val (.int (2 : Int32))] [(.ref pa), (.int (2 : Int32))])) rfl rfl (hb hby d4_11) _ ?_
    rw [len_of Sz9 Ng9]
    show Steps p.tables e below (s₁.setTop (mkF m 12 #[.val (.ref pa), .val (.ref pb), .val (.int (2 : Int32))] [(.int (5 : Int32)), (.int (2 : Int32))])) _
    refine XS.icmpNo X0.here hx rfl (hb hby d4_12) rfl (tlt (by decide : ((2 : Int32) < (5 : Int32)))).2.1 ?_
    show Steps p.tables e below (s₁.setTop (mkF m 15 #[.val (.ref pa), .val (.ref pb), .val (.int (2 : Int32))] [])) _
    refine XS.aloadN X0.here hx rfl (hb hby d4_15) rfl rfl ?_
    show Steps p.tables e below (s₁.setTop (mkF m 16 #[.val (.ref pa), .val (.ref pb), .val (.int (2 : Int32))] [(.ref pa)])) _
    refine XS.iloadN X0.here hx rfl (hb hby d4_16) rfl ?_
    show Steps p.tables e below (s₁.setTop (mkF m 17 #[.val (.ref pa), .val (.ref pb), .val (.int (2 : Int32))] [(.int (2 : Int32)), (.ref pa)])) _
    refine X0.baloadBytes hx (j := (2 : Int32)) (v := (.int (108 : Int32))) (by rw [e0]; exact Ar10.1) (State.isArrayOf_alike (hZ).alike Ar10.2.1) Ar10.2.2 hin10 hat10 (g := (mkF m 17 #[.val (.ref pa), .val (.ref pb), .val (.int (2 : Int32))] [(.int (2 : Int32)), (.ref pa)])) rfl rfl (hb hby d4_17) _ ?_
    show Steps p.tables e below (s₁.setTop (mkF m 18 #[.val (.ref pa), .val (.ref pb), .val (.int (2 : Int32))] [(.int (108 : Int32))])) _
    refine XS.aloadN X0.here hx rfl (hb hby d4_18) rfl rfl ?_
    show Steps p.tables e below (s₁.setTop (mkF m 19 #[.val (.ref pa), .val (.ref pb), .val (.int (2 : Int32))] [(.ref pb), (.int (108 : Int32))])) _
    refine XS.iloadN X0.here hx rfl (hb hby d4_19) rfl ?_
    show Steps p.tables e below (s₁.setTop (mkF m 20 #[.val (.ref pa), .val (.ref pb), .val (.int (2 : Int32))] [(.int (2 : Int32)), (.ref pb), (.int (108 : Int32))])) _
    refine X0.baloadBytes hx (j := (2 : Int32)) (v := (.int (108 : Int32))) (by rw [e0]; exact Ar11.1) (State.isArrayOf_alike (hZ).alike Ar11.2.1) Ar11.2.2 hin11 hat11 (g := (mkF m 20 #[.val (.ref pa), .val (.ref pb), .val (.int (2 : Int32))] [(.int (2 : Int32)), (.ref pb), (.int (108 : Int32))])) rfl rfl (hb hby d4_20) _ ?_
    show Steps p.tables e below (s₁.setTop (mkF m 21 #[.val (.ref pa), .val (.ref pb), .val (.int (2 : Int32))] [(.int (108 : Int32)), (.int (108 : Int32))])) _
    refine XS.icmpYes X0.here hx rfl (pc0 := 21) (pc' := 26) rfl (hb hby d4_21) rfl (teq (rfl : (108 : Int32) = (108 : Int32))).1 (by decide) (by decide) ?_
    show Steps p.tables e below (s₁.setTop (mkF m 26 #[.val (.ref pa), .val (.ref pb), .val (.int (2 : Int32))] [])) _
    refine XS.iinc X0.here hx rfl (hb hby d4_26) rfl (l' := #[.val (.ref pa), .val (.ref pb), .val (.int (3 : Int32))]) rfl ?_
    show Steps p.tables e below (s₁.setTop (mkF m 29 #[.val (.ref pa), .val (.ref pb), .val (.int (3 : Int32))] [])) _
    refine XS.goto X0.here hx rfl (pc0 := 29) (pc' := 9) rfl (hb hby d4_29) (by decide) (by decide) ?_
    show Steps p.tables e below (s₁.setTop (mkF m 9 #[.val (.ref pa), .val (.ref pb), .val (.int (3 : Int32))] [])) _
    refine XS.iloadN X0.here hx rfl (hb hby d4_9) rfl ?_
    show Steps p.tables e below (s₁.setTop (mkF m 10 #[.val (.ref pa), .val (.ref pb), .val (.int (3 : Int32))] [(.int (3 : Int32))])) _
    refine XS.aloadN X0.here hx rfl (hb hby d4_10) rfl rfl ?_
    show Steps p.tables e below (s₁.setTop (mkF m 11 #[.val (.ref pa), .val (.ref pb), .val (.int (3 : Int32))] [(.ref pa), (.int (3 : Int32))])) _
    refine X0.arraylength hx (by rw [e0]; exact Ar12.1) (State.isArrayOf_alike (hZ).alike Ar12.2.1) (g := (mkF m 11 #[.val (.ref pa), .val (.ref pb), .val (.int (3 : Int32))] [(.ref pa), (.int (3 : Int32))])) rfl rfl (hb hby d4_11) _ ?_
    rw [len_of Sz12 Ng12]
    show Steps p.tables e below (s₁.setTop (mkF m 12 #[.val (.ref pa), .val (.ref pb), .val (.int (3 : Int32))] [(.int (5 : Int32)), (.int (3 : Int32))])) _
    refine XS.icmpNo X0.here hx rfl (hb hby d4_12) rfl (tlt (by decide : ((3 : Int32) < (5 : Int32)))).2.1 ?_
    show Steps p.tables e below (s₁.setTop (mkF m 15 #[.val (.ref pa), .val (.ref pb), .val (.int (3 : Int32))] [])) _
    refine XS.aloadN X0.here hx rfl (hb hby d4_15) rfl rfl ?_
    show Steps p.tables e below (s₁.setTop (mkF m 16 #[.val (.ref pa), .val (.ref pb), .val (.int (3 : Int32))] [(.ref pa)])) _
    refine XS.iloadN X0.here hx rfl (hb hby d4_16) rfl ?_
    show Steps p.tables e below (s₁.setTop (mkF m 17 #[.val (.ref pa), .val (.ref pb), .val (.int (3 : Int32))] [(.int (3 : Int32)), (.ref pa)])) _
    refine X0.baloadBytes hx (j := (3 : Int32)) (v := (.int (115 : Int32))) (by rw [e0]; exact Ar13.1) (State.isArrayOf_alike (hZ).alike Ar13.2.1) Ar13.2.2 hin13 hat13 (g := (mkF m 17 #[.val (.ref pa), .val (.ref pb), .val (.int (3 : Int32))] [(.int (3 : Int32)), (.ref pa)])) rfl rfl (hb hby d4_17) _ ?_
    show Steps p.tables e below (s₁.setTop (mkF m 18 #[.val (.ref pa), .val (.ref pb), .val (.int (3 : Int32))] [(.int (115 : Int32))])) _
    refine XS.aloadN X0.here hx rfl (hb hby d4_18) rfl rfl ?_
    show Steps p.tables e below (s₁.setTop (mkF m 19 #[.val (.ref pa), .val (.ref pb), .val (.int (3 : Int32))] [(.ref pb), (.int (115 : Int32))])) _
    refine XS.iloadN X0.here hx rfl (hb hby d4_19) rfl ?_
    show Steps p.tables e below (s₁.setTop (mkF m 20 #[.val (.ref pa), .val (.ref pb), .val (.int (3 : Int32))] [(.int (3 : Int32)), (.ref pb), (.int (115 : Int32))])) _
    refine X0.baloadBytes hx (j := (3 : Int32)) (v := (.int (115 : Int32))) (by rw [e0]; exact Ar14.1) (State.isArrayOf_alike (hZ).alike Ar14.2.1) Ar14.2.2 hin14 hat14 (g := (mkF m 20 #[.val (.ref pa), .val (.ref pb), .val (.int (3 : Int32))] [(.int (3 : Int32)), (.ref pb), (.int (115 : Int32))])) rfl rfl (hb hby d4_20) _ ?_
    show Steps p.tables e below (s₁.setTop (mkF m 21 #[.val (.ref pa), .val (.ref pb), .val (.int (3 : Int32))] [(.int (115 : Int32)), (.int (115 : Int32))])) _
    refine XS.icmpYes X0.here hx rfl (pc0 := 21) (pc' := 26) rfl (hb hby d4_21) rfl (teq (rfl : (115 : Int32) = (115 : Int32))).1 (by decide) (by decide) ?_
    show Steps p.tables e below (s₁.setTop (mkF m 26 #[.val (.ref pa), .val (.ref pb), .val (.int (3 : Int32))] [])) _
    refine XS.iinc X0.here hx rfl (hb hby d4_26) rfl (l' := #[.val (.ref pa), .val (.ref pb), .val (.int (4 : Int32))]) rfl ?_
    show Steps p.tables e below (s₁.setTop (mkF m 29 #[.val (.ref pa), .val (.ref pb), .val (.int (4 : Int32))] [])) _
    refine XS.goto X0.here hx rfl (pc0 := 29) (pc' := 9) rfl (hb hby d4_29) (by decide) (by decide) ?_
    show Steps p.tables e below (s₁.setTop (mkF m 9 #[.val (.ref pa), .val (.ref pb), .val (.int (4 : Int32))] [])) _
    refine XS.iloadN X0.here hx rfl (hb hby d4_9) rfl ?_
    show Steps p.tables e below (s₁.setTop (mkF m 10 #[.val (.ref pa), .val (.ref pb), .val (.int (4 : Int32))] [(.int (4 : Int32))])) _
    refine XS.aloadN X0.here hx rfl (hb hby d4_10) rfl rfl ?_
    show Steps p.tables e below (s₁.setTop (mkF m 11 #[.val (.ref pa), .val (.ref pb), .val (.int (4 : Int32))] [(.ref pa), (.int (4 : Int32))])) _
    refine X0.arraylength hx (by rw [e0]; exact Ar15.1) (State.isArrayOf_alike (hZ).alike Ar15.2.1) (g := (mkF m 11 #[.val (.ref pa), .val (.ref pb), .val (.int (4 : Int32))] [(.ref pa), (.int (4 : Int32))])) rfl rfl (hb hby d4_11) _ ?_
    rw [len_of Sz15 Ng15]
    show Steps p.tables e below (s₁.setTop (mkF m 12 #[.val (.ref pa), .val (.ref pb), .val (.int (4 : Int32))] [(.int (5 : Int32)), (.int (4 : Int32))])) _
    refine XS.icmpNo X0.here hx rfl (hb hby d4_12) rfl (tlt (by decide : ((4 : Int32) < (5 : Int32)))).2.1 ?_
    show Steps p.tables e below (s₁.setTop (mkF m 15 #[.val (.ref pa), .val (.ref pb), .val (.int (4 : Int32))] [])) _
    refine XS.aloadN X0.here hx rfl (hb hby d4_15) rfl rfl ?_
    show Steps p.tables e below (s₁.setTop (mkF m 16 #[.val (.ref pa), .val (.ref pb), .val (.int (4 : Int32))] [(.ref pa)])) _
    refine XS.iloadN X0.here hx rfl (hb hby d4_16) rfl ?_
    show Steps p.tables e below (s₁.setTop (mkF m 17 #[.val (.ref pa), .val (.ref pb), .val (.int (4 : Int32))] [(.int (4 : Int32)), (.ref pa)])) _
    refine X0.baloadBytes hx (j := (4 : Int32)) (v := (.int (101 : Int32))) (by rw [e0]; exact Ar16.1) (State.isArrayOf_alike (hZ).alike Ar16.2.1) Ar16.2.2 hin16 hat16 (g := (mkF m 17 #[.val (.ref pa), .val (.ref pb), .val (.int (4 : Int32))] [(.int (4 : Int32)), (.ref pa)])) rfl rfl (hb hby d4_17) _ ?_
    show Steps p.tables e below (s₁.setTop (mkF m 18 #[.val (.ref pa), .val (.ref pb), .val (.int (4 : Int32))] [(.int (101 : Int32))])) _
    refine XS.aloadN X0.here hx rfl (hb hby d4_18) rfl rfl ?_
    show Steps p.tables e below (s₁.setTop (mkF m 19 #[.val (.ref pa), .val (.ref pb), .val (.int (4 : Int32))] [(.ref pb), (.int (101 : Int32))])) _
    refine XS.iloadN X0.here hx rfl (hb hby d4_19) rfl ?_
    show Steps p.tables e below (s₁.setTop (mkF m 20 #[.val (.ref pa), .val (.ref pb), .val (.int (4 : Int32))] [(.int (4 : Int32)), (.ref pb), (.int (101 : Int32))])) _
    refine X0.baloadBytes hx (j := (4 : Int32)) (v := (.int (101 : Int32))) (by rw [e0]; exact Ar17.1) (State.isArrayOf_alike (hZ).alike Ar17.2.1) Ar17.2.2 hin17 hat17 (g := (mkF m 20 #[.val (.ref pa), .val (.ref pb), .val (.int (4 : Int32))] [(.int (4 : Int32)), (.ref pb), (.int (101 : Int32))])) rfl rfl (hb hby d4_20) _ ?_
    show Steps p.tables e below (s₁.setTop (mkF m 21 #[.val (.ref pa), .val (.ref pb), .val (.int (4 : Int32))] [(.int (101 : Int32)), (.int (101 : Int32))])) _
    refine XS.icmpYes X0.here hx rfl (pc0 := 21) (pc' := 26) rfl (hb hby d4_21) rfl (teq (rfl : (101 : Int32) = (101 : Int32))).1 (by decide) (by decide) ?_
    show Steps p.tables e below (s₁.setTop (mkF m 26 #[.val (.ref pa), .val (.ref pb), .val (.int (4 : Int32))] [])) _
    refine XS.iinc X0.here hx rfl (hb hby d4_26) rfl (l' := #[.val (.ref pa), .val (.ref pb), .val (.int (5 : Int32))]) rfl ?_
    show Steps p.tables e below (s₁.setTop (mkF m 29 #[.val (.ref pa), .val (.ref pb), .val (.int (5 : Int32))] [])) _
    refine XS.goto X0.here hx rfl (pc0 := 29) (pc' := 9) rfl (hb hby d4_29) (by decide) (by decide) ?_
    show Steps p.tables e below (s₁.setTop (mkF m 9 #[.val (.ref pa), .val (.ref pb), .val (.int (5 : Int32))] [])) _
    refine XS.iloadN X0.here hx rfl (hb hby d4_9) rfl ?_
    show Steps p.tables e below (s₁.setTop (mkF m 10 #[.val (.ref pa), .val (.ref pb), .val (.int (5 : Int32))] [(.int (5 : Int32))])) _
    refine XS.aloadN X0.here hx rfl (hb hby d4_10) rfl rfl ?_
    show Steps p.tables e below (s₁.setTop (mkF m 11 #[.val (.ref pa), .val (.ref pb), .val (.int (5 : Int32))] [(.ref pa), (.int (5 : Int32))])) _
    refine X0.arraylength hx (by rw [e0]; exact Ar18.1) (State.isArrayOf_alike (hZ).alike Ar18.2.1) (g := (mkF m 11 #[.val (.ref pa), .val (.ref pb), .val (.int (5 : Int32))] [(.ref pa), (.int (5 : Int32))])) rfl rfl (hb hby d4_11) _ ?_
    rw [len_of Sz18 Ng18]
    show Steps p.tables e below (s₁.setTop (mkF m 12 #[.val (.ref pa), .val (.ref pb), .val (.int (5 : Int32))] [(.int (5 : Int32)), (.int (5 : Int32))])) _
    refine XS.icmpYes X0.here hx rfl (pc0 := 12) (pc' := 32) rfl (hb hby d4_12) rfl (flt (by decide : ¬ ((5 : Int32) < (5 : Int32)))).2.1 (by decide) (by decide) ?_
    show Steps p.tables e below (s₁.setTop (mkF m 32 #[.val (.ref pa), .val (.ref pb), .val (.int (5 : Int32))] [])) _
    refine XS.iconst X0.here hx rfl (hb hby d4_32) ?_
    show Steps p.tables e below (s₁.setTop (mkF m 33 #[.val (.ref pa), .val (.ref pb), .val (.int (5 : Int32))] [(.int (1 : Int32))])) _
    exact retN X0 hx (t := .boolean) Bd.returns (by simp) (hb hby d4_33) hr
  · show Q4F Z pa pb ka kb h0 n0 _ s₁.heap _
    rw [e0]
    exact ⟨rfl, N0, rfl⟩
theorem ef_rm3F (m : MethodId) (x0 : Addr) (x1 : Addr) : entryFrame m #[(.ref x0), (.ref x1)] 3 = mkF m 0 #[.val (.ref x0), .val (.ref x1), .unset] [] := by first | (simp [entryFrame, mkF, argsToLocals, Value.category]; done) | rfl
def Q3F (Z : State) (px : Addr) (py : Addr) (tx : Addr) (ty : Addr) (kx : ClassId) (ky : ClassId) (zc : Int32) (h0 : Heap) (n0 : Nat) (v : Option Value) (h : Heap) (L : List Loc) : Prop := v = some (.int (1 : Int32)) ∧ Fr n0 L ∧ h = h0
set_option maxRecDepth 65536 in
set_option maxHeartbeats 40000000 in
theorem rm3F (l : Launch) (Z : State) (a0 : Array Value) (hw : ∀ d ∈ tables_1, d.before a0 Z = true) (ws : List Jvm.Cond) (px : Addr) (py : Addr) (tx : Addr) (ty : Addr) (kx : ClassId) (ky : ClassId) (zc : Int32) (h0 : Heap) (n0 : Nat) (Z0 : n0 ≤ h0.size) (E_x : Exa Z h0 px "java/lang/String") (E_y : Exa Z h0 py "java/lang/String") (V_x : Fld Z h0 px "java/lang/String" "value" "[B" (.ref tx)) (C_x : Fld Z h0 px "java/lang/String" "coder" "B" (.int (0 : Int32))) (K_x : Arv Z h0 tx kx .byte (5 : Int32) [(.int (102 : Int32)), (.int (97 : Int32)), (.int (108 : Int32)), (.int (115 : Int32)), (.int (101 : Int32))] (.int 0)) (V_y : Fld Z h0 py "java/lang/String" "value" "[B" (.ref ty)) (C_y : Fld Z h0 py "java/lang/String" "coder" "B" (.int (0 : Int32))) (K_y : Arv Z h0 ty ky .byte (5 : Int32) [(.int (102 : Int32)), (.int (97 : Int32)), (.int (108 : Int32)), (.int (115 : Int32)), (.int (101 : Int32))] (.int 0)) (S_c : Sta Z h0 "java/lang/String" "COMPACT_STRINGS" "Z" (.int zc)) (hzc : ¬ zc = (0 : Int32)) :
    MetFree l (⟨"java/lang/String", "equals", "(Ljava/lang/Object;)Z"⟩ : MethodName) (head1 (Jvm.Cond.code (⟨"java/lang/String", "equals", "(Ljava/lang/Object;)Z"⟩ : MethodName) jdk_42_method_66_code 3 (some .boolean) :: ws) ({ frames := 1, cells := 0, slots := 0, locals := 14 } : Room)) (fun a U => a = #[(.ref px), (.ref py)] ∧ Z.Warmed39 U.vm ∧ U.heap = h0) (fun _ _ _ _ _ => True) (fun _ U o U' => ∃ v L, o = .returned v ∧ Q3F Z px py tx ty kx ky zc h0 n0 v U'.heap L ∧ FrameEnd U o U' L ({ frames := 1, cells := 0, slots := 0, locals := 14 } : Room).cells ({ frames := 1, cells := 0, slots := 0, locals := 14 } : Room).slots) := by
  refine MetFree.of_bodySF (plainFor_of_name pn_2) hisR ?_
  intro p e s m args below meth c s₁ Bd hml0 hP hK
  obtain ⟨rfl, hZ, hh⟩ := hP
  have hx := Bd.exec
  have hby := Bd.bytes
  have hml : c.maxLocals = 3 := hml0
  have hown : s.vm.findClass "java/lang/String" = some m.cls := findClass_of_methodNamed Bd.named
  have hnm := (name_of_methodNamed Bd.named Bd.method).1
  have X0 : Stand p l e ({ frames := 1, cells := 0, slots := 0, locals := 14 } : Room) s m #[(.ref px), (.ref py)] below meth c s₁ [] 0 0 := Stand.of_body Bd
  have e0 : s₁.heap = h0 := by rw [← hh, Bd.state]; rfl
  have N0 := Fr.nil n0
  have pre0 : ∀ t, Steps p.tables e below (s₁.setTop (mkF m 0 #[.val (.ref px), .val (.ref py), .unset] [])) t → Steps p.tables e below (s₁.setTop (entryFrame m #[(.ref px), (.ref py)] 3)) t := fun t k => castTop (ef_rm3F m px py) k
  have pre1 : ∀ t, Steps p.tables e below (s₁.setTop (mkF m 2 #[.val (.ref px), .val (.ref py), .unset] [(.ref py), (.ref px)])) t → Steps p.tables e below (s₁.setTop (entryFrame m #[(.ref px), (.ref py)] 3)) t := by
    intro t kt
    refine pre0 t ?_
    show Steps p.tables e below (s₁.setTop (mkF m 0 #[.val (.ref px), .val (.ref py), .unset] [])) _
    refine XS.aloadN X0.here hx rfl (hb hby d3_0) rfl rfl ?_
    show Steps p.tables e below (s₁.setTop (mkF m 1 #[.val (.ref px), .val (.ref py), .unset] [(.ref px)])) _
    refine XS.aloadN X0.here hx rfl (hb hby d3_1) rfl rfl ?_
    show Steps p.tables e below (s₁.setTop (mkF m 2 #[.val (.ref px), .val (.ref py), .unset] [(.ref py), (.ref px)])) _
    exact kt
  by_cases ha2_2 : px = py
  · obtain ⟨fs, hr, hrun, hended, hW, hsame⟩ := X0.leave (v := some (.int (1 : Int32))) (fun h => by rw [Bd.returns] at h; cases h)
    refine ⟨_, _, pre1 _ ?_, hrun, hended, _, _, rfl, ?_, ⟨_, rfl⟩, hW, hsame.mono (by decide) (by decide)⟩
    · show Steps p.tables e below (s₁.setTop (mkF m 2 #[.val (.ref px), .val (.ref py), .unset] [(.ref py), (.ref px)])) _
      refine Jvm.RoadKit.acmp (g := (mkF m 2 #[.val (.ref px), .val (.ref py), .unset] [(.ref py), (.ref px)])) X0 hx rfl rfl rfl (pc0 := 2) (pc' := 5) (same := true) rfl (hb hby d3_2) rfl (decide_eq_true (congrArg Value.ref ha2_2)) (by decide) (by decide) ?_
      show Steps p.tables e below (s₁.setTop (mkF m 5 #[.val (.ref px), .val (.ref py), .unset] [])) _
      refine XS.iconst X0.here hx rfl (hb hby d3_5) ?_
      show Steps p.tables e below (s₁.setTop (mkF m 6 #[.val (.ref px), .val (.ref py), .unset] [(.int (1 : Int32))])) _
      exact retN X0 hx (t := .boolean) Bd.returns (by simp) (hb hby d3_6) hr
    · show Q3F Z px py tx ty kx ky zc h0 n0 _ s₁.heap _
      rw [e0]
      exact ⟨rfl, N0, rfl⟩
  · obtain ⟨T4, X4, e4, st4⟩ := instY X0 hx hZ hown (hw _ (List.mem_of_getElem? (i := 27) rfl)) e0 (Ins.self E_y) (g := (mkF m 8 #[.val (.ref px), .val (.ref py), .unset] [(.ref py)])) rfl rfl (hb hby d3_8)
    obtain ⟨T5, X5, e5, st5⟩ := castY X4 hx hZ hown (hw _ (List.mem_of_getElem? (i := 27) rfl)) e4 (Ins.self E_y) (g := (mkF m 15 #[.val (.ref px), .val (.ref py), .unset] [(.ref py)])) rfl rfl (hb hby d3_15)
    obtain ⟨T6, X6, e6, st6⟩ := getS2 X5 hx hZ hown (host := "") (Or.inl (hw _ (List.mem_of_getElem? (i := 29) rfl))) Via.refl e5 S_c (g := (mkF m 19 #[.val (.ref px), .val (.ref py), .val (.ref py)] [])) rfl (hb hby d3_19)
    obtain ⟨T7, X7, e7, st7⟩ := getF X6 hx hZ hown (host := "") (Or.inl (hw _ (List.mem_of_getElem? (i := 30) rfl))) Via.refl e6 C_x (g := (mkF m 26 #[.val (.ref px), .val (.ref py), .val (.ref py)] [(.ref px)])) rfl rfl (hb hby d3_26)
    obtain ⟨T8, X8, e8, st8⟩ := getF X7 hx hZ hown (host := "") (Or.inl (hw _ (List.mem_of_getElem? (i := 30) rfl))) Via.refl e7 C_y (g := (mkF m 30 #[.val (.ref px), .val (.ref py), .val (.ref py)] [(.ref py), (.int (0 : Int32))])) rfl rfl (hb hby d3_30)
    obtain ⟨T9, X9, e9, st9⟩ := getF X8 hx hZ hown (host := "") (Or.inl (hw _ (List.mem_of_getElem? (i := 31) rfl))) Via.refl e8 V_x (g := (mkF m 37 #[.val (.ref px), .val (.ref py), .val (.ref py)] [(.ref px)])) rfl rfl (hb hby d3_37)
    obtain ⟨T10, X10, e10, st10⟩ := getF X9 hx hZ hown (host := "") (Or.inl (hw _ (List.mem_of_getElem? (i := 31) rfl))) Via.refl e9 V_y (g := (mkF m 41 #[.val (.ref px), .val (.ref py), .val (.ref py)] [(.ref py), (.ref tx)])) rfl rfl (hb hby d3_41)
    obtain ⟨_, _, ⟨T11, L11, k11, n11⟩, -, X11, ⟨Lc11, hQ11, l11, y11, z11⟩, st11⟩ := Jvm.LawKit.callS X10 hx (y := (⟨"java/lang/StringLatin1", "equals", "([B[B)Z"⟩ : MethodName)) hown (mvT hZ (hw _ (List.mem_of_getElem? (i := 32) rfl))) (mvT hZ (hw _ (List.mem_of_getElem? (i := 33) rfl))) (mvT hZ (hw _ (List.mem_of_getElem? (i := 34) rfl))) (mvT hZ (hw _ (List.mem_of_getElem? (i := 35) rfl))) (by decide) (backOf (W := 0) (rm4F l Z a0 hw [] tx ty kx ky h0 n0 Z0 K_x K_y) hZ (hw _ (List.mem_of_getElem? (i := 35) rfl)) (hw _ (List.mem_of_getElem? (i := 34) rfl)) (by decide) (by decide)) (g := (mkF m 44 #[.val (.ref px), .val (.ref py), .val (.ref py)] [(.ref ty), (.ref tx)])) rfl (by rw [hml]; rfl) (argsL := [(.ref tx), (.ref ty)]) (rest := []) (lenOf pd_0 rfl) rfl (by show 2 * 0 + _ ≤ _; exact Nat.le_of_eq rfl) (hb hby d3_44) (fun _ _ => ⟨rfl, e10, (by decide : 0 + 0 ≤ _), (by decide : 0 + 0 ≤ _)⟩)
    dsimp only [Pt.U, Pt.locs, Pt.cells, Pt.slots] at X11 l11 y11 z11 st11 hQ11
    subst l11 y11 z11
    obtain ⟨rfl, N11q, e11⟩ := hQ11
    have N11 := Fr.app N0 N11q
    obtain ⟨fs, hr, hrun, hended, hW, hsame⟩ := X11.leave (v := some (.int (1 : Int32))) (fun h => by rw [Bd.returns] at h; cases h)
    refine ⟨_, _, pre1 _ ?_, hrun, hended, _, _, rfl, ?_, ⟨_, rfl⟩, hW, hsame.mono (by decide) (by decide)⟩
    · show Steps p.tables e below (s₁.setTop (mkF m 2 #[.val (.ref px), .val (.ref py), .unset] [(.ref py), (.ref px)])) _
      refine Jvm.RoadKit.acmp (g := (mkF m 2 #[.val (.ref px), .val (.ref py), .unset] [(.ref py), (.ref px)])) X0 hx rfl rfl rfl (pc0 := 2) (pc' := 7) (same := false) rfl (hb hby d3_2) rfl (decide_eq_false fun q => ha2_2 (Value.ref.inj q)) (by decide) (by decide) ?_
      show Steps p.tables e below (s₁.setTop (mkF m 7 #[.val (.ref px), .val (.ref py), .unset] [])) _
      refine XS.aloadN X0.here hx rfl (hb hby d3_7) rfl rfl ?_
      show Steps p.tables e below (s₁.setTop (mkF m 8 #[.val (.ref px), .val (.ref py), .unset] [(.ref py)])) _
      refine st4 _ ?_
      show Steps p.tables e below (T4.setTop (mkF m 11 #[.val (.ref px), .val (.ref py), .unset] [(.int (1 : Int32))])) _
      refine XS.ifNo X4.here hx rfl (hb hby d3_11) rfl ((if0 _ _).trans (feq (by decide : ¬ ((1 : Int32) = (0 : Int32)))).1) ?_
      show Steps p.tables e below (T4.setTop (mkF m 14 #[.val (.ref px), .val (.ref py), .unset] [])) _
      refine XS.aloadN X4.here hx rfl (hb hby d3_14) rfl rfl ?_
      show Steps p.tables e below (T4.setTop (mkF m 15 #[.val (.ref px), .val (.ref py), .unset] [(.ref py)])) _
      refine st5 _ ?_
      show Steps p.tables e below (T5.setTop (mkF m 18 #[.val (.ref px), .val (.ref py), .unset] [(.ref py)])) _
      refine XS.astoreN X5.here hx rfl (hb hby d3_18) rfl rfl (l' := #[.val (.ref px), .val (.ref py), .val (.ref py)]) rfl ?_
      show Steps p.tables e below (T5.setTop (mkF m 19 #[.val (.ref px), .val (.ref py), .val (.ref py)] [])) _
      refine st6 _ ?_
      show Steps p.tables e below (T6.setTop (mkF m 22 #[.val (.ref px), .val (.ref py), .val (.ref py)] [(.int zc)])) _
      refine XS.ifNo X6.here hx rfl (hb hby d3_22) rfl ((if0 _ _).trans (feq hzc).1) ?_
      show Steps p.tables e below (T6.setTop (mkF m 25 #[.val (.ref px), .val (.ref py), .val (.ref py)] [])) _
      refine XS.aloadN X6.here hx rfl (hb hby d3_25) rfl rfl ?_
      show Steps p.tables e below (T6.setTop (mkF m 26 #[.val (.ref px), .val (.ref py), .val (.ref py)] [(.ref px)])) _
      refine st7 _ ?_
      show Steps p.tables e below (T7.setTop (mkF m 29 #[.val (.ref px), .val (.ref py), .val (.ref py)] [(.int (0 : Int32))])) _
      refine XS.aloadN X7.here hx rfl (hb hby d3_29) rfl rfl ?_
      show Steps p.tables e below (T7.setTop (mkF m 30 #[.val (.ref px), .val (.ref py), .val (.ref py)] [(.ref py), (.int (0 : Int32))])) _
      refine st8 _ ?_
      show Steps p.tables e below (T8.setTop (mkF m 33 #[.val (.ref px), .val (.ref py), .val (.ref py)] [(.int (0 : Int32)), (.int (0 : Int32))])) _
      refine XS.icmpNo X8.here hx rfl (hb hby d3_33) rfl (teq (rfl : (0 : Int32) = (0 : Int32))).2 ?_
      show Steps p.tables e below (T8.setTop (mkF m 36 #[.val (.ref px), .val (.ref py), .val (.ref py)] [])) _
      refine XS.aloadN X8.here hx rfl (hb hby d3_36) rfl rfl ?_
      show Steps p.tables e below (T8.setTop (mkF m 37 #[.val (.ref px), .val (.ref py), .val (.ref py)] [(.ref px)])) _
      refine st9 _ ?_
      show Steps p.tables e below (T9.setTop (mkF m 40 #[.val (.ref px), .val (.ref py), .val (.ref py)] [(.ref tx)])) _
      refine XS.aloadN X9.here hx rfl (hb hby d3_40) rfl rfl ?_
      show Steps p.tables e below (T9.setTop (mkF m 41 #[.val (.ref px), .val (.ref py), .val (.ref py)] [(.ref py), (.ref tx)])) _
      refine st10 _ ?_
      show Steps p.tables e below (T10.setTop (mkF m 44 #[.val (.ref px), .val (.ref py), .val (.ref py)] [(.ref ty), (.ref tx)])) _
      refine st11 _ ?_
      show Steps p.tables e below (T11.setTop (mkF m 47 #[.val (.ref px), .val (.ref py), .val (.ref py)] [(.int (1 : Int32))])) _
      refine XS.ifNo X11.here hx rfl (hb hby d3_47) rfl ((if0 _ _).trans (feq (by decide : ¬ ((1 : Int32) = (0 : Int32)))).1) ?_
      show Steps p.tables e below (T11.setTop (mkF m 50 #[.val (.ref px), .val (.ref py), .val (.ref py)] [])) _
      refine XS.iconst X11.here hx rfl (hb hby d3_50) ?_
      show Steps p.tables e below (T11.setTop (mkF m 51 #[.val (.ref px), .val (.ref py), .val (.ref py)] [(.int (1 : Int32))])) _
      refine XS.goto X11.here hx rfl (pc0 := 51) (pc' := 55) rfl (hb hby d3_51) (by decide) (by decide) ?_
      show Steps p.tables e below (T11.setTop (mkF m 55 #[.val (.ref px), .val (.ref py), .val (.ref py)] [(.int (1 : Int32))])) _
      exact retN X11 hx (t := .boolean) Bd.returns (by simp) (hb hby d3_55) hr
    · show Q3F Z px py tx ty kx ky zc h0 n0 _ T11.heap _
      rw [e11]
      exact ⟨rfl, N11, rfl⟩
theorem pd_1 : parseMethodDescriptor "(Z)Lcom/example/attestrail/attestrail/json/JsonLiteral;" = some ⟨[.boolean], some (.object "com/example/attestrail/attestrail/json/JsonLiteral")⟩ := by decide +kernel
theorem pd_2 : parseMethodDescriptor "()Ljava/lang/String;" = some ⟨[], some (.object "java/lang/String")⟩ := by decide +kernel
theorem pd_3 : parseMethodDescriptor "(Ljava/lang/Object;)Z" = some ⟨[(.object "java/lang/Object")], some .boolean⟩ := by decide +kernel
theorem pn_3 : plainName "com/example/attestrail/attestrail/json/JsonLiteralOfPinLaw" = true := by first | (simp [plainName, overriddenIn]; done) | decide +kernel
theorem ef_rm0 (m : MethodId) (x0 : Int32) : entryFrame m #[(.int x0)] maxLocals = mkF m 0 #[.val (.int x0), .unset, .unset, .unset] [] := by first | (simp [entryFrame, mkF, argsToLocals, Value.category, maxLocals]; done) | rfl
def Q0 (Z : State) (pf : Int32) (wT : Addr) (wF : Addr) (xT : Addr) (tT : Addr) (kT : ClassId) (xF : Addr) (tF : Addr) (kF : ClassId) (zc : Int32) (h0 : Heap) (n0 : Nat) (v : Option Value) (h : Heap) (L : List Loc) : Prop := v = some (.int 1) ∧ Fr n0 L
set_option maxRecDepth 65536 in
set_option maxHeartbeats 40000000 in
theorem rm0 (l : Launch) (Z : State) (a0 : Array Value) (hw : ∀ d ∈ tables_1, d.before a0 Z = true) (ws : List Jvm.Cond) (pf : Int32) (wT : Addr) (wF : Addr) (xT : Addr) (tT : Addr) (kT : ClassId) (xF : Addr) (tF : Addr) (kF : ClassId) (zc : Int32) (h0 : Heap) (n0 : Nat) (Z0 : n0 ≤ h0.size) (O : Old Z n0 h0) (hn1 : h0.size ≤ n0) (hcw : Jvm.Lit.compactW.before a0 Z = true) (S_c : Sta Z Z.heap "java/lang/String" "COMPACT_STRINGS" "Z" (.int zc)) (hzc : ¬ zc = (0 : Int32)) (S_T : Sta Z Z.heap "com/example/attestrail/attestrail/json/JsonLiteral" "TRUE" "Lcom/example/attestrail/attestrail/json/JsonLiteral;" (.ref wT)) (E_T : Exa Z Z.heap wT "com/example/attestrail/attestrail/json/JsonLiteral") (F_T : Fld Z Z.heap wT "com/example/attestrail/attestrail/json/JsonLiteral" "text" "Ljava/lang/String;" (.ref xT)) (EX_T : Exa Z Z.heap xT "java/lang/String") (V_T : Fld Z Z.heap xT "java/lang/String" "value" "[B" (.ref tT)) (C_T : Fld Z Z.heap xT "java/lang/String" "coder" "B" (.int (0 : Int32))) (K_T : Arv Z Z.heap tT kT .byte (4 : Int32) [(.int (116 : Int32)), (.int (114 : Int32)), (.int (117 : Int32)), (.int (101 : Int32))] (.int 0)) (S_F : Sta Z Z.heap "com/example/attestrail/attestrail/json/JsonLiteral" "FALSE" "Lcom/example/attestrail/attestrail/json/JsonLiteral;" (.ref wF)) (E_F : Exa Z Z.heap wF "com/example/attestrail/attestrail/json/JsonLiteral") (F_F : Fld Z Z.heap wF "com/example/attestrail/attestrail/json/JsonLiteral" "text" "Ljava/lang/String;" (.ref xF)) (EX_F : Exa Z Z.heap xF "java/lang/String") (V_F : Fld Z Z.heap xF "java/lang/String" "value" "[B" (.ref tF)) (C_F : Fld Z Z.heap xF "java/lang/String" "coder" "B" (.int (0 : Int32))) (K_F : Arv Z Z.heap tF kF .byte (5 : Int32) [(.int (102 : Int32)), (.int (97 : Int32)), (.int (108 : Int32)), (.int (115 : Int32)), (.int (101 : Int32))] (.int 0)) (hcT : Jvm.Lit.constHeld Z "com/example/attestrail/attestrail/json/JsonLiteralOfPinLaw" 21) (hcF : Jvm.Lit.constHeld Z "com/example/attestrail/attestrail/json/JsonLiteralOfPinLaw" 32) :
    MetFree l x (head1 (Jvm.Cond.code x code maxLocals ret :: ws) room_1) (fun a U => a = #[(.int pf)] ∧ Z.Warmed39 U.vm ∧ U.heap = h0 ∧ IB Z U.vm []) (fun _ _ _ _ _ => True) (fun _ U o U' => ∃ v L, o = .returned v ∧ Q0 Z pf wT wF xT tT kT xF tF kF zc h0 n0 v U'.heap L ∧ ReturnedEndW U o U' L room_1.cells room_1.slots) := by
  refine MetFree.of_bodySF (plainFor_of_name pn_3) hisR ?_
  intro p e s m args below meth c s₁ Bd hml0 hP hK
  obtain ⟨rfl, hZ, hh, hIB⟩ := hP
  have hx := Bd.exec
  have hby := Bd.bytes
  have hml : c.maxLocals = 4 := hml0
  have hown : s.vm.findClass "com/example/attestrail/attestrail/json/JsonLiteralOfPinLaw" = some m.cls := findClass_of_methodNamed Bd.named
  have hnm := (name_of_methodNamed Bd.named Bd.method).1
  have X0 : Stand p l e room_1 (s.setVm s.vm) m #[(.int pf)] below meth c s₁ [] 0 0 := Stand.of_body Bd
  have e0 : s₁.heap = h0 := by rw [← hh, Bd.state]; rfl
  have N0 := Fr.nil n0
  have pre0 : ∀ t, Steps p.tables e below (s₁.setTop (mkF m 0 #[.val (.int pf), .unset, .unset, .unset] [])) t → Steps p.tables e below (s₁.setTop (entryFrame m #[(.int pf)] maxLocals)) t := fun t k => castTop (ef_rm0 m pf) k
  have hS0 : s.Since s.vm 0 := (State.WarmedH.refl s).since 0
  have hwS : ∀ a ∈ Bundle.stringAtoms, a.before a0 Z = true := fun d hd => hw d ((by decide +kernel : ∀ d ∈ Bundle.stringAtoms, d ∈ tables_1) d hd)
  have pre1 : ∀ t, Steps p.tables e below (s₁.setTop (mkF m 3 #[.val (.int pf), .unset, .unset, .unset] [(.int (pf &&& (1 : Int32)))])) t → Steps p.tables e below (s₁.setTop (entryFrame m #[(.int pf)] maxLocals)) t := by
    intro t kt
    refine pre0 t ?_
    show Steps p.tables e below (s₁.setTop (mkF m 0 #[.val (.int pf), .unset, .unset, .unset] [])) _
    refine XS.iloadN X0.here hx rfl (hb hby at_0) rfl ?_
    show Steps p.tables e below (s₁.setTop (mkF m 1 #[.val (.int pf), .unset, .unset, .unset] [(.int pf)])) _
    refine XS.iconst X0.here hx rfl (hb hby at_1) ?_
    show Steps p.tables e below (s₁.setTop (mkF m 2 #[.val (.int pf), .unset, .unset, .unset] [(.int (1 : Int32)), (.int pf)])) _
    refine XS.iand X0.here hx rfl (hb hby at_2) rfl ?_
    show Steps p.tables e below (s₁.setTop (mkF m 3 #[.val (.int pf), .unset, .unset, .unset] [(.int (pf &&& (1 : Int32)))])) _
    exact kt
  by_cases hc3_2 : (pf &&& (1 : Int32)) = (0 : Int32)
  · obtain ⟨_, _, ⟨T3, L3, k3, n3⟩, -, X3, ⟨Lc3, hQ3, l3, y3, z3⟩, st3⟩ := Jvm.LawKit.callS X0 hx (y := (⟨"com/example/attestrail/attestrail/json/JsonLiteral", "of", "(Z)Lcom/example/attestrail/attestrail/json/JsonLiteral;"⟩ : MethodName)) hown (mvT hZ (hw _ (List.mem_of_getElem? (i := 0) rfl))) (mvT hZ (hw _ (List.mem_of_getElem? (i := 1) rfl))) (mvT hZ (hw _ (List.mem_of_getElem? (i := 2) rfl))) (mvT hZ (hw _ (List.mem_of_getElem? (i := 3) rfl))) (by decide) (backOf (W := 0) (rm1 l Z a0 hw [] (0 : Int32) wT wF h0 n0 Z0 (S_T.ext O.2) (S_F.ext O.2)) hZ (hw _ (List.mem_of_getElem? (i := 3) rfl)) (hw _ (List.mem_of_getElem? (i := 2) rfl)) (by decide) (by decide)) (g := (mkF m 13 #[.val (.int pf), .val (.int (0 : Int32)), .unset, .unset] [(.int (0 : Int32))])) rfl (by rw [hml]; rfl) (argsL := [(.int (0 : Int32))]) (rest := []) (lenOf pd_1 rfl) rfl (by show 2 * 0 + _ ≤ _; exact Nat.le_of_eq rfl) (hb hby at_13) (fun _ _ => ⟨rfl, e0, (by decide : 0 + 0 ≤ _), (by decide : 0 + 0 ≤ _)⟩)
    dsimp only [Pt.U, Pt.locs, Pt.cells, Pt.slots] at X3 l3 y3 z3 st3 hQ3
    subst l3 y3 z3
    obtain ⟨rfl, N3q, e3⟩ := hQ3
    have N3 := Fr.app N0 N3q
    rw [own_of0] at st3
    obtain ⟨cq4, kq4, q4a, q4b, q4c⟩ := isOf hZ e3 (E_F.ext O.2)
    obtain ⟨_, _, ⟨T4, L4, k4, n4⟩, -, X4, ⟨Lc4, hQ4, l4, y4, z4⟩, st4⟩ := X3.virtualBack hx (y := (⟨"com/example/attestrail/attestrail/json/JsonLiteral", "toString", "()Ljava/lang/String;"⟩ : MethodName)) (z := (⟨"com/example/attestrail/attestrail/json/JsonLiteral", "toString", "()Ljava/lang/String;"⟩ : MethodName)) hown (mvT hZ (hw _ (List.mem_of_getElem? (i := 6) rfl))) (mvT hZ (hw _ (List.mem_of_getElem? (i := 7) rfl))) (notFace_of_selects (args := #[]) (mvT hZ (hw _ (List.mem_of_getElem? (i := 9) rfl)))) (mvT hZ (hw _ (List.mem_of_getElem? (i := 9) rfl))) (mvT hZ (hw _ (List.mem_of_getElem? (i := 8) rfl))) (by decide) (backOf (W := 0) (rm2 l Z a0 hw [] wF xF h0 n0 Z0 (F_F.ext O.2)) hZ (hw _ (List.mem_of_getElem? (i := 10) rfl)) (hw _ (List.mem_of_getElem? (i := 2) rfl)) (by decide) (by decide)) q4a q4c (g := (mkF m 24 #[.val (.int pf), .val (.int (0 : Int32)), .val (.ref wF), .unset] [(.ref wF)])) rfl (by rw [hml]; rfl) (Steps.refl _) (argsL := []) (rest := []) (lenOf pd_2 rfl) rfl (by show 2 * 0 + _ ≤ _; exact Nat.le_of_eq rfl) (hb hby at_24) (fun _ _ => ⟨rfl, e3, (by decide : 0 + 0 ≤ _), (by decide : 0 + 0 ≤ _)⟩)
    dsimp only [Pt.U, Pt.locs, Pt.cells, Pt.slots] at X4 l4 y4 z4 st4 hQ4
    subst l4 y4 z4
    obtain ⟨rfl, N4q, e4⟩ := hQ4
    have N4 := Fr.app N3 N4q
    obtain ⟨T5, X5, e5, st5⟩ := getS2 X4 hx hZ hown (host := "") (Or.inl (hw _ (List.mem_of_getElem? (i := 13) rfl))) Via.refl e4 (S_F.ext O.2) (g := (mkF m 55 #[.val (.int pf), .val (.int (0 : Int32)), .val (.ref wF), .val (.ref xF)] [(.ref wF)])) rfl (hb hby at_55)
    have NF6 : Fr s.heap.size _ := fun y hy => Nat.le_trans (by rw [hh]; exact hn1) (N4 y hy)
    obtain ⟨b6, T6, h6, k6, tb6, kb6, X6, e6, E6, hS6, hk6, hZ6, hown6, A6, C6, V6, K6, -, -, -, st6⟩ := ldcSV (s := s) (vm0 := s.vm) (vs := [(.int (102 : Int32)), (.int (97 : Int32)), (.int (108 : Int32)), (.int (115 : Int32)), (.int (101 : Int32))]) (z := (5 : Int32)) X5 hx hZ hown (hw _ (List.mem_of_getElem? (i := 14) rfl)) hwS e5 hS0 (Nat.zero_le _) NF6 (fun b cl q => by rw [hh]; exact O.2.2 b cl q) hIB (by simp) hcF hcw ⟨by decide, by decide⟩ (by decide) (by decide) (g := (mkF m 62 #[.val (.int pf), .val (.int (0 : Int32)), .val (.ref wF), .val (.ref xF)] [(.ref xF)])) rfl (hb hby at_62) (n := 20) (by decide) (by decide) (by decide) (by decide)
    have Kc6 : Keep h0 h6 [] := (Keep.refl h0 []).ext E6
    have Oc6 := O.ext E6
    obtain ⟨cq7, kq7, q7a, q7b, q7c⟩ := isOf hZ6 e6 (EX_F.ext Oc6.2)
    obtain ⟨_, _, ⟨T7, L7, k7, n7⟩, -, X7, ⟨Lc7, hQ7, l7, y7, z7⟩, st7⟩ := X6.virtualBack hx (y := (⟨"java/lang/String", "equals", "(Ljava/lang/Object;)Z"⟩ : MethodName)) (z := (⟨"java/lang/String", "equals", "(Ljava/lang/Object;)Z"⟩ : MethodName)) hown6 (mvT hZ6 (hw _ (List.mem_of_getElem? (i := 22) rfl))) (mvT hZ6 (hw _ (List.mem_of_getElem? (i := 23) rfl))) (notFace_of_selects (args := #[]) (mvT hZ6 (hw _ (List.mem_of_getElem? (i := 25) rfl)))) (mvT hZ6 (hw _ (List.mem_of_getElem? (i := 25) rfl))) (mvT hZ6 (hw _ (List.mem_of_getElem? (i := 24) rfl))) (by decide) (backOf (W := 0) (rm3F l Z a0 hw [] xF b6 tF tb6 kF kb6 zc h6 n0 (Nat.le_trans Z0 Kc6.1) (EX_F.ext Oc6.2) A6 (V_F.ext Oc6.2) (C_F.ext Oc6.2) (K_F.ext Oc6.2) V6 C6 K6 (S_c.ext Oc6.2) hzc) hZ6 (hw _ (List.mem_of_getElem? (i := 26) rfl)) (hw _ (List.mem_of_getElem? (i := 15) rfl)) (by decide) (by decide)) q7a q7c (g := (mkF m 64 #[.val (.int pf), .val (.int (0 : Int32)), .val (.ref wF), .val (.ref xF)] [(.ref b6), (.ref xF)])) rfl (by rw [hml]; rfl) (Steps.refl _) (argsL := [(.ref b6)]) (rest := []) (lenOf pd_3 rfl) rfl (by show 2 * 0 + _ ≤ _; exact Nat.le_of_eq rfl) (hb hby at_64) (fun _ _ => ⟨rfl, e6, (by decide : 2 + 0 ≤ _), (by decide : 24 + 0 ≤ _)⟩)
    dsimp only [Pt.U, Pt.locs, Pt.cells, Pt.slots] at X7 l7 y7 z7 st7 hQ7
    subst l7 y7 z7
    obtain ⟨rfl, N7q, e7⟩ := hQ7
    have N7 := Fr.app N4 N7q
    obtain ⟨fs, hr, hrun, hended, hend⟩ := Stand.leaveW (s := s) (vm₁ := T6.vm) X7 hS6 (by rw [e7]; exact hk6) (v := some (.int (1 : Int32))) (fun h => by rw [Bd.returns] at h; cases h)
    refine ⟨_, _, pre1 _ ?_, hrun, hended, _, _, rfl, ?_, hend.1, hend.2.1, hend.2.2.1, hend.2.2.2.mono (by decide) (by decide)⟩
    · show Steps p.tables e below (s₁.setTop (mkF m 3 #[.val (.int pf), .unset, .unset, .unset] [(.int (pf &&& (1 : Int32)))])) _
      refine XS.ifYes X0.here hx rfl (pc0 := 3) (pc' := 10) rfl (hb hby at_3) rfl ((if0 _ _).trans (teq hc3_2).1) (by decide) (by decide) ?_
      show Steps p.tables e below (s₁.setTop (mkF m 10 #[.val (.int pf), .unset, .unset, .unset] [])) _
      refine XS.iconst X0.here hx rfl (hb hby at_10) ?_
      show Steps p.tables e below (s₁.setTop (mkF m 11 #[.val (.int pf), .unset, .unset, .unset] [(.int (0 : Int32))])) _
      refine XS.istoreN X0.here hx rfl (hb hby at_11) rfl (l' := #[.val (.int pf), .val (.int (0 : Int32)), .unset, .unset]) rfl ?_
      show Steps p.tables e below (s₁.setTop (mkF m 12 #[.val (.int pf), .val (.int (0 : Int32)), .unset, .unset] [])) _
      refine XS.iloadN X0.here hx rfl (hb hby at_12) rfl ?_
      show Steps p.tables e below (s₁.setTop (mkF m 13 #[.val (.int pf), .val (.int (0 : Int32)), .unset, .unset] [(.int (0 : Int32))])) _
      refine st3 _ ?_
      show Steps p.tables e below (T3.setTop (mkF m 16 #[.val (.int pf), .val (.int (0 : Int32)), .unset, .unset] [(.ref wF)])) _
      refine XS.astoreN X3.here hx rfl (hb hby at_16) rfl rfl (l' := #[.val (.int pf), .val (.int (0 : Int32)), .val (.ref wF), .unset]) rfl ?_
      show Steps p.tables e below (T3.setTop (mkF m 17 #[.val (.int pf), .val (.int (0 : Int32)), .val (.ref wF), .unset] [])) _
      refine XS.aloadN X3.here hx rfl (hb hby at_17) rfl rfl ?_
      show Steps p.tables e below (T3.setTop (mkF m 18 #[.val (.int pf), .val (.int (0 : Int32)), .val (.ref wF), .unset] [(.ref wF)])) _
      refine XS.ifnonnullYes X3.here hx rfl (pc0 := 18) (pc' := 23) rfl (hb hby at_18) rfl (by decide) (by decide) ?_
      show Steps p.tables e below (T3.setTop (mkF m 23 #[.val (.int pf), .val (.int (0 : Int32)), .val (.ref wF), .unset] [])) _
      refine XS.aloadN X3.here hx rfl (hb hby at_23) rfl rfl ?_
      show Steps p.tables e below (T3.setTop (mkF m 24 #[.val (.int pf), .val (.int (0 : Int32)), .val (.ref wF), .unset] [(.ref wF)])) _
      refine st4.trans ?_
      show Steps p.tables e below (T4.setTop (mkF m 27 #[.val (.int pf), .val (.int (0 : Int32)), .val (.ref wF), .unset] [(.ref xF)])) _
      refine XS.astoreN X4.here hx rfl (hb hby at_27) rfl rfl (l' := #[.val (.int pf), .val (.int (0 : Int32)), .val (.ref wF), .val (.ref xF)]) rfl ?_
      show Steps p.tables e below (T4.setTop (mkF m 28 #[.val (.int pf), .val (.int (0 : Int32)), .val (.ref wF), .val (.ref xF)] [])) _
      refine XS.iloadN X4.here hx rfl (hb hby at_28) rfl ?_
      show Steps p.tables e below (T4.setTop (mkF m 29 #[.val (.int pf), .val (.int (0 : Int32)), .val (.ref wF), .val (.ref xF)] [(.int (0 : Int32))])) _
      refine XS.ifYes X4.here hx rfl (pc0 := 29) (pc' := 54) rfl (hb hby at_29) rfl ((if0 _ _).trans (teq (rfl : (0 : Int32) = (0 : Int32))).1) (by decide) (by decide) ?_
      show Steps p.tables e below (T4.setTop (mkF m 54 #[.val (.int pf), .val (.int (0 : Int32)), .val (.ref wF), .val (.ref xF)] [])) _
      refine XS.aloadN X4.here hx rfl (hb hby at_54) rfl rfl ?_
      show Steps p.tables e below (T4.setTop (mkF m 55 #[.val (.int pf), .val (.int (0 : Int32)), .val (.ref wF), .val (.ref xF)] [(.ref wF)])) _
      refine st5 _ ?_
      show Steps p.tables e below (T5.setTop (mkF m 58 #[.val (.int pf), .val (.int (0 : Int32)), .val (.ref wF), .val (.ref xF)] [(.ref wF), (.ref wF)])) _
      refine Jvm.RoadKit.acmp (g := (mkF m 58 #[.val (.int pf), .val (.int (0 : Int32)), .val (.ref wF), .val (.ref xF)] [(.ref wF), (.ref wF)])) X5 hx rfl rfl rfl (pc0 := 58) (pc' := 61) (same := true) rfl (hb hby at_58) rfl (decide_eq_true rfl) (by decide) (by decide) ?_
      show Steps p.tables e below (T5.setTop (mkF m 61 #[.val (.int pf), .val (.int (0 : Int32)), .val (.ref wF), .val (.ref xF)] [])) _
      refine XS.aloadN X5.here hx rfl (hb hby at_61) rfl rfl ?_
      show Steps p.tables e below (T5.setTop (mkF m 62 #[.val (.int pf), .val (.int (0 : Int32)), .val (.ref wF), .val (.ref xF)] [(.ref xF)])) _
      refine st6 _ ?_
      show Steps p.tables e below (T6.setTop (mkF m 64 #[.val (.int pf), .val (.int (0 : Int32)), .val (.ref wF), .val (.ref xF)] [(.ref b6), (.ref xF)])) _
      refine st7.trans ?_
      show Steps p.tables e below (T7.setTop (mkF m 67 #[.val (.int pf), .val (.int (0 : Int32)), .val (.ref wF), .val (.ref xF)] [(.int (1 : Int32))])) _
      refine XS.ifNo X7.here hx rfl (hb hby at_67) rfl ((if0 _ _).trans (feq (by decide : ¬ ((1 : Int32) = (0 : Int32)))).1) ?_
      show Steps p.tables e below (T7.setTop (mkF m 70 #[.val (.int pf), .val (.int (0 : Int32)), .val (.ref wF), .val (.ref xF)] [])) _
      refine XS.iconst X7.here hx rfl (hb hby at_70) ?_
      show Steps p.tables e below (T7.setTop (mkF m 71 #[.val (.int pf), .val (.int (0 : Int32)), .val (.ref wF), .val (.ref xF)] [(.int (1 : Int32))])) _
      refine XS.goto X7.here hx rfl (pc0 := 71) (pc' := 75) rfl (hb hby at_71) (by decide) (by decide) ?_
      show Steps p.tables e below (T7.setTop (mkF m 75 #[.val (.int pf), .val (.int (0 : Int32)), .val (.ref wF), .val (.ref xF)] [(.int (1 : Int32))])) _
      exact retN X7 hx (t := .boolean) Bd.returns (by simp) (hb hby at_75) hr
    · show Q0 Z pf wT wF xT tT kT xF tF kF zc h0 n0 _ T7.heap _
      rw [e7]
      exact ⟨rfl, N7⟩
  · obtain ⟨_, _, ⟨T9, L9, k9, n9⟩, -, X9, ⟨Lc9, hQ9, l9, y9, z9⟩, st9⟩ := Jvm.LawKit.callS X0 hx (y := (⟨"com/example/attestrail/attestrail/json/JsonLiteral", "of", "(Z)Lcom/example/attestrail/attestrail/json/JsonLiteral;"⟩ : MethodName)) hown (mvT hZ (hw _ (List.mem_of_getElem? (i := 0) rfl))) (mvT hZ (hw _ (List.mem_of_getElem? (i := 1) rfl))) (mvT hZ (hw _ (List.mem_of_getElem? (i := 2) rfl))) (mvT hZ (hw _ (List.mem_of_getElem? (i := 3) rfl))) (by decide) (backOf (W := 0) (rm1 l Z a0 hw [] (1 : Int32) wT wF h0 n0 Z0 (S_T.ext O.2) (S_F.ext O.2)) hZ (hw _ (List.mem_of_getElem? (i := 3) rfl)) (hw _ (List.mem_of_getElem? (i := 2) rfl)) (by decide) (by decide)) (g := (mkF m 13 #[.val (.int pf), .val (.int (1 : Int32)), .unset, .unset] [(.int (1 : Int32))])) rfl (by rw [hml]; rfl) (argsL := [(.int (1 : Int32))]) (rest := []) (lenOf pd_1 rfl) rfl (by show 2 * 0 + _ ≤ _; exact Nat.le_of_eq rfl) (hb hby at_13) (fun _ _ => ⟨rfl, e0, (by decide : 0 + 0 ≤ _), (by decide : 0 + 0 ≤ _)⟩)
    dsimp only [Pt.U, Pt.locs, Pt.cells, Pt.slots] at X9 l9 y9 z9 st9 hQ9
    subst l9 y9 z9
    obtain ⟨rfl, N9q, e9⟩ := hQ9
    have N9 := Fr.app N0 N9q
    rw [own_of1] at st9
    obtain ⟨cq10, kq10, q10a, q10b, q10c⟩ := isOf hZ e9 (E_T.ext O.2)
    obtain ⟨_, _, ⟨T10, L10, k10, n10⟩, -, X10, ⟨Lc10, hQ10, l10, y10, z10⟩, st10⟩ := X9.virtualBack hx (y := (⟨"com/example/attestrail/attestrail/json/JsonLiteral", "toString", "()Ljava/lang/String;"⟩ : MethodName)) (z := (⟨"com/example/attestrail/attestrail/json/JsonLiteral", "toString", "()Ljava/lang/String;"⟩ : MethodName)) hown (mvT hZ (hw _ (List.mem_of_getElem? (i := 6) rfl))) (mvT hZ (hw _ (List.mem_of_getElem? (i := 7) rfl))) (notFace_of_selects (args := #[]) (mvT hZ (hw _ (List.mem_of_getElem? (i := 9) rfl)))) (mvT hZ (hw _ (List.mem_of_getElem? (i := 9) rfl))) (mvT hZ (hw _ (List.mem_of_getElem? (i := 8) rfl))) (by decide) (backOf (W := 0) (rm2 l Z a0 hw [] wT xT h0 n0 Z0 (F_T.ext O.2)) hZ (hw _ (List.mem_of_getElem? (i := 10) rfl)) (hw _ (List.mem_of_getElem? (i := 2) rfl)) (by decide) (by decide)) q10a q10c (g := (mkF m 24 #[.val (.int pf), .val (.int (1 : Int32)), .val (.ref wT), .unset] [(.ref wT)])) rfl (by rw [hml]; rfl) (Steps.refl _) (argsL := []) (rest := []) (lenOf pd_2 rfl) rfl (by show 2 * 0 + _ ≤ _; exact Nat.le_of_eq rfl) (hb hby at_24) (fun _ _ => ⟨rfl, e9, (by decide : 0 + 0 ≤ _), (by decide : 0 + 0 ≤ _)⟩)
    dsimp only [Pt.U, Pt.locs, Pt.cells, Pt.slots] at X10 l10 y10 z10 st10 hQ10
    subst l10 y10 z10
    obtain ⟨rfl, N10q, e10⟩ := hQ10
    have N10 := Fr.app N9 N10q
    obtain ⟨T11, X11, e11, st11⟩ := getS2 X10 hx hZ hown (host := "") (Or.inl (hw _ (List.mem_of_getElem? (i := 38) rfl))) Via.refl e10 (S_T.ext O.2) (g := (mkF m 33 #[.val (.int pf), .val (.int (1 : Int32)), .val (.ref wT), .val (.ref xT)] [(.ref wT)])) rfl (hb hby at_33)
    have NF12 : Fr s.heap.size _ := fun y hy => Nat.le_trans (by rw [hh]; exact hn1) (N10 y hy)
    obtain ⟨b12, T12, h12, k12, tb12, kb12, X12, e12, E12, hS12, hk12, hZ12, hown12, A12, C12, V12, K12, -, -, -, st12⟩ := ldcSV (s := s) (vm0 := s.vm) (vs := [(.int (116 : Int32)), (.int (114 : Int32)), (.int (117 : Int32)), (.int (101 : Int32))]) (z := (4 : Int32)) X11 hx hZ hown (hw _ (List.mem_of_getElem? (i := 39) rfl)) hwS e11 hS0 (Nat.zero_le _) NF12 (fun b cl q => by rw [hh]; exact O.2.2 b cl q) hIB (by simp) hcT hcw ⟨by decide, by decide⟩ (by decide) (by decide) (g := (mkF m 40 #[.val (.int pf), .val (.int (1 : Int32)), .val (.ref wT), .val (.ref xT)] [(.ref xT)])) rfl (hb hby at_40) (n := 16) (by decide) (by decide) (by decide) (by decide)
    have Kc12 : Keep h0 h12 [] := (Keep.refl h0 []).ext E12
    have Oc12 := O.ext E12
    obtain ⟨cq13, kq13, q13a, q13b, q13c⟩ := isOf hZ12 e12 (EX_T.ext Oc12.2)
    obtain ⟨_, _, ⟨T13, L13, k13, n13⟩, -, X13, ⟨Lc13, hQ13, l13, y13, z13⟩, st13⟩ := X12.virtualBack hx (y := (⟨"java/lang/String", "equals", "(Ljava/lang/Object;)Z"⟩ : MethodName)) (z := (⟨"java/lang/String", "equals", "(Ljava/lang/Object;)Z"⟩ : MethodName)) hown12 (mvT hZ12 (hw _ (List.mem_of_getElem? (i := 22) rfl))) (mvT hZ12 (hw _ (List.mem_of_getElem? (i := 23) rfl))) (notFace_of_selects (args := #[]) (mvT hZ12 (hw _ (List.mem_of_getElem? (i := 25) rfl)))) (mvT hZ12 (hw _ (List.mem_of_getElem? (i := 25) rfl))) (mvT hZ12 (hw _ (List.mem_of_getElem? (i := 24) rfl))) (by decide) (backOf (W := 0) (rm3T l Z a0 hw [] xT b12 tT tb12 kT kb12 zc h12 n0 (Nat.le_trans Z0 Kc12.1) (EX_T.ext Oc12.2) A12 (V_T.ext Oc12.2) (C_T.ext Oc12.2) (K_T.ext Oc12.2) V12 C12 K12 (S_c.ext Oc12.2) hzc) hZ12 (hw _ (List.mem_of_getElem? (i := 26) rfl)) (hw _ (List.mem_of_getElem? (i := 15) rfl)) (by decide) (by decide)) q13a q13c (g := (mkF m 42 #[.val (.int pf), .val (.int (1 : Int32)), .val (.ref wT), .val (.ref xT)] [(.ref b12), (.ref xT)])) rfl (by rw [hml]; rfl) (Steps.refl _) (argsL := [(.ref b12)]) (rest := []) (lenOf pd_3 rfl) rfl (by show 2 * 0 + _ ≤ _; exact Nat.le_of_eq rfl) (hb hby at_42) (fun _ _ => ⟨rfl, e12, (by decide : 2 + 0 ≤ _), (by decide : 20 + 0 ≤ _)⟩)
    dsimp only [Pt.U, Pt.locs, Pt.cells, Pt.slots] at X13 l13 y13 z13 st13 hQ13
    subst l13 y13 z13
    obtain ⟨rfl, N13q, e13⟩ := hQ13
    have N13 := Fr.app N10 N13q
    obtain ⟨fs, hr, hrun, hended, hend⟩ := Stand.leaveW (s := s) (vm₁ := T12.vm) X13 hS12 (by rw [e13]; exact hk12) (v := some (.int (1 : Int32))) (fun h => by rw [Bd.returns] at h; cases h)
    refine ⟨_, _, pre1 _ ?_, hrun, hended, _, _, rfl, ?_, hend.1, hend.2.1, hend.2.2.1, hend.2.2.2.mono (by decide) (by decide)⟩
    · show Steps p.tables e below (s₁.setTop (mkF m 3 #[.val (.int pf), .unset, .unset, .unset] [(.int (pf &&& (1 : Int32)))])) _
      refine XS.ifNo X0.here hx rfl (hb hby at_3) rfl ((if0 _ _).trans (feq hc3_2).1) ?_
      show Steps p.tables e below (s₁.setTop (mkF m 6 #[.val (.int pf), .unset, .unset, .unset] [])) _
      refine XS.iconst X0.here hx rfl (hb hby at_6) ?_
      show Steps p.tables e below (s₁.setTop (mkF m 7 #[.val (.int pf), .unset, .unset, .unset] [(.int (1 : Int32))])) _
      refine XS.goto X0.here hx rfl (pc0 := 7) (pc' := 11) rfl (hb hby at_7) (by decide) (by decide) ?_
      show Steps p.tables e below (s₁.setTop (mkF m 11 #[.val (.int pf), .unset, .unset, .unset] [(.int (1 : Int32))])) _
      refine XS.istoreN X0.here hx rfl (hb hby at_11) rfl (l' := #[.val (.int pf), .val (.int (1 : Int32)), .unset, .unset]) rfl ?_
      show Steps p.tables e below (s₁.setTop (mkF m 12 #[.val (.int pf), .val (.int (1 : Int32)), .unset, .unset] [])) _
      refine XS.iloadN X0.here hx rfl (hb hby at_12) rfl ?_
      show Steps p.tables e below (s₁.setTop (mkF m 13 #[.val (.int pf), .val (.int (1 : Int32)), .unset, .unset] [(.int (1 : Int32))])) _
      refine st9 _ ?_
      show Steps p.tables e below (T9.setTop (mkF m 16 #[.val (.int pf), .val (.int (1 : Int32)), .unset, .unset] [(.ref wT)])) _
      refine XS.astoreN X9.here hx rfl (hb hby at_16) rfl rfl (l' := #[.val (.int pf), .val (.int (1 : Int32)), .val (.ref wT), .unset]) rfl ?_
      show Steps p.tables e below (T9.setTop (mkF m 17 #[.val (.int pf), .val (.int (1 : Int32)), .val (.ref wT), .unset] [])) _
      refine XS.aloadN X9.here hx rfl (hb hby at_17) rfl rfl ?_
      show Steps p.tables e below (T9.setTop (mkF m 18 #[.val (.int pf), .val (.int (1 : Int32)), .val (.ref wT), .unset] [(.ref wT)])) _
      refine XS.ifnonnullYes X9.here hx rfl (pc0 := 18) (pc' := 23) rfl (hb hby at_18) rfl (by decide) (by decide) ?_
      show Steps p.tables e below (T9.setTop (mkF m 23 #[.val (.int pf), .val (.int (1 : Int32)), .val (.ref wT), .unset] [])) _
      refine XS.aloadN X9.here hx rfl (hb hby at_23) rfl rfl ?_
      show Steps p.tables e below (T9.setTop (mkF m 24 #[.val (.int pf), .val (.int (1 : Int32)), .val (.ref wT), .unset] [(.ref wT)])) _
      refine st10.trans ?_
      show Steps p.tables e below (T10.setTop (mkF m 27 #[.val (.int pf), .val (.int (1 : Int32)), .val (.ref wT), .unset] [(.ref xT)])) _
      refine XS.astoreN X10.here hx rfl (hb hby at_27) rfl rfl (l' := #[.val (.int pf), .val (.int (1 : Int32)), .val (.ref wT), .val (.ref xT)]) rfl ?_
      show Steps p.tables e below (T10.setTop (mkF m 28 #[.val (.int pf), .val (.int (1 : Int32)), .val (.ref wT), .val (.ref xT)] [])) _
      refine XS.iloadN X10.here hx rfl (hb hby at_28) rfl ?_
      show Steps p.tables e below (T10.setTop (mkF m 29 #[.val (.int pf), .val (.int (1 : Int32)), .val (.ref wT), .val (.ref xT)] [(.int (1 : Int32))])) _
      refine XS.ifNo X10.here hx rfl (hb hby at_29) rfl ((if0 _ _).trans (feq (by decide : ¬ ((1 : Int32) = (0 : Int32)))).1) ?_
      show Steps p.tables e below (T10.setTop (mkF m 32 #[.val (.int pf), .val (.int (1 : Int32)), .val (.ref wT), .val (.ref xT)] [])) _
      refine XS.aloadN X10.here hx rfl (hb hby at_32) rfl rfl ?_
      show Steps p.tables e below (T10.setTop (mkF m 33 #[.val (.int pf), .val (.int (1 : Int32)), .val (.ref wT), .val (.ref xT)] [(.ref wT)])) _
      refine st11 _ ?_
      show Steps p.tables e below (T11.setTop (mkF m 36 #[.val (.int pf), .val (.int (1 : Int32)), .val (.ref wT), .val (.ref xT)] [(.ref wT), (.ref wT)])) _
      refine Jvm.RoadKit.acmp (g := (mkF m 36 #[.val (.int pf), .val (.int (1 : Int32)), .val (.ref wT), .val (.ref xT)] [(.ref wT), (.ref wT)])) X11 hx rfl rfl rfl (pc0 := 36) (pc' := 39) (same := true) rfl (hb hby at_36) rfl (decide_eq_true rfl) (by decide) (by decide) ?_
      show Steps p.tables e below (T11.setTop (mkF m 39 #[.val (.int pf), .val (.int (1 : Int32)), .val (.ref wT), .val (.ref xT)] [])) _
      refine XS.aloadN X11.here hx rfl (hb hby at_39) rfl rfl ?_
      show Steps p.tables e below (T11.setTop (mkF m 40 #[.val (.int pf), .val (.int (1 : Int32)), .val (.ref wT), .val (.ref xT)] [(.ref xT)])) _
      refine st12 _ ?_
      show Steps p.tables e below (T12.setTop (mkF m 42 #[.val (.int pf), .val (.int (1 : Int32)), .val (.ref wT), .val (.ref xT)] [(.ref b12), (.ref xT)])) _
      refine st13.trans ?_
      show Steps p.tables e below (T13.setTop (mkF m 45 #[.val (.int pf), .val (.int (1 : Int32)), .val (.ref wT), .val (.ref xT)] [(.int (1 : Int32))])) _
      refine XS.ifNo X13.here hx rfl (hb hby at_45) rfl ((if0 _ _).trans (feq (by decide : ¬ ((1 : Int32) = (0 : Int32)))).1) ?_
      show Steps p.tables e below (T13.setTop (mkF m 48 #[.val (.int pf), .val (.int (1 : Int32)), .val (.ref wT), .val (.ref xT)] [])) _
      refine XS.iconst X13.here hx rfl (hb hby at_48) ?_
      show Steps p.tables e below (T13.setTop (mkF m 49 #[.val (.int pf), .val (.int (1 : Int32)), .val (.ref wT), .val (.ref xT)] [(.int (1 : Int32))])) _
      refine XS.goto X13.here hx rfl (pc0 := 49) (pc' := 53) rfl (hb hby at_49) (by decide) (by decide) ?_
      show Steps p.tables e below (T13.setTop (mkF m 53 #[.val (.int pf), .val (.int (1 : Int32)), .val (.ref wT), .val (.ref xT)] [(.int (1 : Int32))])) _
      exact retN X13 hx (t := .boolean) Bd.returns (by simp) (hb hby at_53) hr
    · show Q0 Z pf wT wF xT tT kT xF tF kF zc h0 n0 _ T13.heap _
      rw [e13]
      exact ⟨rfl, N13⟩
theorem own_len {t : Term} {args : Array Value} {s : State} {x : Addr} {cl : Cell} {z : Int32} {n : Nat} (et : t.eval args s none [] s = some (.ref x)) (ha : s.arrayAt? x = some cl) (h : (Term.length t).eval args s none [] s = some (.int z)) (hz : z.toInt = n) : cl.slots.size = n := by
  simp only [Term.eval, et] at h
  by_cases hl : cl.slots.size < 2 ^ 31
  · simp [ha, hl] at h
    have q := len_toInt hl
    rw [h, hz] at q
    omega
  · simp [ha, hl] at h
set_option maxRecDepth 65536 in
set_option maxHeartbeats 40000000 in
theorem comes_1 {Post : Tables → Env → Array Value → State → Outcome → State → Prop} (hpost : ∀ tb e args s v u, (limb_1_1.after args s (.returned v) u = true ∧ limb_1_2.after args s (.returned v) u = true ∧ True) → ReturnedEndW s (.returned v) u (Jvm.fieldLocs frame_1_writes args s ++ Jvm.arrayLocs frame_1_arrays args s ++ Jvm.staticLocs frame_1_statics s) 8 2112 → Post tb e args s (.returned v) u) :
    ArmFor flags0 classFile x code maxLocals ret World_1 tables_1 room_1 Calls_1 rest_1 Pre_1 Post := by
  intro l hfl _ _ p e ha hc hk s m args below hf hA hF happ hP
  obtain ⟨hcalls, hrest, hpre⟩ := hP
  obtain ⟨-, -, -, hnamed, -, -, -, hat⟩ := (Spec.applies_iff hf).mp happ
  obtain ⟨hg, hn⟩ := and_e (Cond.before_iff.mp (show (Jvm.Cond.and given_1 narrow_1).before args s = true from hpre))
  obtain ⟨g1, g2⟩ := and_e hg
  obtain ⟨w0, rfl⟩ : ∃ w0 : Value, args = #[w0] := by
    have hs : args.size = 1 := by simpa [Cond.value, given_1] using g1
    obtain ⟨L⟩ := args
    match L, hs with
    | [w0], _ => exact ⟨w0, rfl⟩
  have hw := fun d (hd : d ∈ tables_1) => atoms_spec (ws := Jvm.Cond.code x code maxLocals ret :: tables_1) hat d (List.mem_cons_of_mem _ hd)
  have hfit : Fit s := fun {y c} hc i hi => by
    obtain ⟨ha, rfl⟩ := Array.getElem?_eq_some_iff.mp hc
    have q := List.all_eq_true.mp ((Array.all_eq_true_iff_forall_mem.mp hF) _ (Array.getElem_mem ha)) i (List.mem_range.mpr hi)
    simpa [Array.getElem?_eq_getElem hi] using q
  obtain ⟨hsets, hown0⟩ := atoms_of _ (rest_1_c_eq ▸ (show rest_1_c.before _ s = true from hrest))
  have hr0 := Cond.before_iff.mp hown0
  obtain ⟨i0, ei0⟩ := is_v g2
  obtain rfl : w0 = (.int i0) := Option.some.inj ei0
  obtain ⟨k3, k4⟩ := and_e hn
  obtain ⟨k5, k6⟩ := and_e k4
  obtain ⟨k7, k8⟩ := and_e k6
  obtain ⟨k9, k10⟩ := and_e k8
  obtain ⟨k11, k12⟩ := and_e k10
  obtain ⟨k13, k14⟩ := and_e k12
  obtain ⟨k15, k16⟩ := and_e k14
  obtain ⟨k17, k18⟩ := and_e k16
  obtain ⟨k19, k20⟩ := and_e k18
  obtain ⟨k21, k22⟩ := and_e k20
  obtain ⟨k23, k24⟩ := and_e k22
  obtain ⟨k25, k26⟩ := and_e k24
  obtain ⟨k27, k28⟩ := and_e k26
  obtain ⟨k29, k30⟩ := and_e k28
  obtain ⟨k31, k32⟩ := and_e k30
  obtain ⟨k33, k34⟩ := and_e k32
  obtain ⟨k35, k36⟩ := and_e k34
  obtain ⟨k37, k38⟩ := and_e k36
  have hcw : Jvm.Lit.compactW.before _ s = true := hsets _ (List.mem_of_getElem? (i := 2) rfl)
  obtain ⟨zc, ezc⟩ := is_v (Cond.before_iff.mp (hsets _ (List.mem_of_getElem? (i := 1) rfl)))
  have S_c := Sta.start ezc (Or.inl (hsets _ (List.mem_of_getElem? (i := 0) rfl)))
  have hzc : ¬ zc = (0 : Int32) := gotF (Cond.eq_ints ezc (Term.int_eval (0))) (not_v (Cond.before_iff.mp (hsets _ (List.mem_of_getElem? (i := 2) rfl))))
  obtain ⟨wT, ewT⟩ := exa_v k13
  have E_T := Exa.start ewT k13
  have S_T := Sta.start ewT (Or.inr ⟨(hw _ (List.mem_of_getElem? (i := 2) rfl)), (hw _ (List.mem_of_getElem? (i := 37) rfl))⟩)
  obtain ⟨xT, exT⟩ := exa_v k15
  have EX_T := Exa.start exT k15
  have F_T := Fld.start ((fld_at ewT).symm.trans exT)
  have C_T := Fld.start ((fld_at exT).symm.trans (eqv_i (Term.int_eval 0) k17))
  obtain ⟨tT, etT⟩ := arr_v k19
  obtain ⟨clT, ArT⟩ := Arr.start etT k19
  have V_T := Fld.start ((fld_at exT).symm.trans etT)
  have hAtT := Arr.fin (Vm.Alike.refl _) ArT
  have hszT : clT.slots.size = 4 := own_len etT hAtT (eqv_i (Term.int_eval 4) k21) rfl
  have qT0 : clT.slots[(0 : Nat)]? = some (.int 116) := (elem_f etT (Term.int_eval 0) hAtT (by decide)).symm.trans (eqv_i (Term.int_eval 116) k23)
  have qT1 : clT.slots[(1 : Nat)]? = some (.int 114) := (elem_f etT (Term.int_eval 1) hAtT (by decide)).symm.trans (eqv_i (Term.int_eval 114) k25)
  have qT2 : clT.slots[(2 : Nat)]? = some (.int 117) := (elem_f etT (Term.int_eval 2) hAtT (by decide)).symm.trans (eqv_i (Term.int_eval 117) k27)
  have qT3 : clT.slots[(3 : Nat)]? = some (.int 101) := (elem_f etT (Term.int_eval 3) hAtT (by decide)).symm.trans (eqv_i (Term.int_eval 101) k29)
  have K_T : Arv s s.heap tT clT.cls .byte (4 : Int32) [(.int (116 : Int32)), (.int (114 : Int32)), (.int (117 : Int32)), (.int (101 : Int32))] (.int 0) := Arv.start hfit ArT (by rw [hszT]; decide) (by rw [hszT]; rfl) (by decide) (by decide) ⟨qT0, qT1, qT2, qT3, trivial⟩
  obtain ⟨wF, ewF⟩ := exa_v k3
  have E_F := Exa.start ewF k3
  have S_F := Sta.start ewF (Or.inr ⟨(hw _ (List.mem_of_getElem? (i := 2) rfl)), (hw _ (List.mem_of_getElem? (i := 5) rfl))⟩)
  obtain ⟨xF, exF⟩ := exa_v k5
  have EX_F := Exa.start exF k5
  have F_F := Fld.start ((fld_at ewF).symm.trans exF)
  have C_F := Fld.start ((fld_at exF).symm.trans (eqv_i (Term.int_eval 0) k7))
  obtain ⟨tF, etF⟩ := arr_v k9
  obtain ⟨clF, ArF⟩ := Arr.start etF k9
  have V_F := Fld.start ((fld_at exF).symm.trans etF)
  have hAtF := Arr.fin (Vm.Alike.refl _) ArF
  have hszF : clF.slots.size = 5 := own_len etF hAtF (eqv_i (Term.int_eval 5) k11) rfl
  have qF0 : clF.slots[(0 : Nat)]? = some (.int 102) := (elem_f etF (Term.int_eval 0) hAtF (by decide)).symm.trans (eqv_i (Term.int_eval 102) k31)
  have qF1 : clF.slots[(1 : Nat)]? = some (.int 97) := (elem_f etF (Term.int_eval 1) hAtF (by decide)).symm.trans (eqv_i (Term.int_eval 97) k33)
  have qF2 : clF.slots[(2 : Nat)]? = some (.int 108) := (elem_f etF (Term.int_eval 2) hAtF (by decide)).symm.trans (eqv_i (Term.int_eval 108) k35)
  have qF3 : clF.slots[(3 : Nat)]? = some (.int 115) := (elem_f etF (Term.int_eval 3) hAtF (by decide)).symm.trans (eqv_i (Term.int_eval 115) k37)
  have qF4 : clF.slots[(4 : Nat)]? = some (.int 101) := (elem_f etF (Term.int_eval 4) hAtF (by decide)).symm.trans (eqv_i (Term.int_eval 101) k38)
  have K_F : Arv s s.heap tF clF.cls .byte (5 : Int32) [(.int (102 : Int32)), (.int (97 : Int32)), (.int (108 : Int32)), (.int (115 : Int32)), (.int (101 : Int32))] (.int 0) := Arv.start hfit ArF (by rw [hszF]; decide) (by rw [hszF]; rfl) (by decide) (by decide) ⟨qF0, qF1, qF2, qF3, qF4, trivial⟩
  obtain ⟨n, o, h1, h2, h3, _, L, rfl, ⟨rfl, N⟩, hq⟩ := rm0 l s _ hw tables_1 i0 wT wF xT tT clT.cls xF tF clF.cls zc s.heap s.heap.size (Nat.le_refl _) (Old.start s) (Nat.le_refl _) hcw S_c hzc S_T E_T F_T EX_T V_T C_T K_T S_F E_F F_F EX_F V_F C_F K_F (hcalls.1 ("com/example/attestrail/attestrail/json/JsonLiteralOfPinLaw", 21) (by simp [consts_1])) (hcalls.1 ("com/example/attestrail/attestrail/json/JsonLiteralOfPinLaw", 32) (by simp [consts_1])) p e ha hc hk s m _ below hf ((Spec.applies_iff_loose hf).mp happ).1 ⟨rfl, State.Warmed39.refl s, rfl, IB.start⟩ trivial
  refine ⟨n, _, h1, h2, h3, hpost _ _ _ _ _ _ ⟨Cond.after_iff.mpr rfl, Cond.after_iff.mpr (eq_i res_at (Term.int_eval (1)) rfl), trivial⟩ ⟨hq.1, hq.2.1, hq.2.2.1, (hq.2.2.2.sift fun y hy => Or.inr (N y hy)).mono (by decide) (by decide)⟩⟩
theorem main_1_1 : Claimed_1_1 := comes_1 fun _ _ _ _ _ _ h hF => ⟨h.1, hF⟩
theorem main_1_2 : Claimed_1_2 := comes_1 fun _ _ _ _ _ _ h hF => ⟨h.2.1, hF⟩
end Jvm.Pilot.@@N@@
namespace Jvm.Pilot.@@N@@
open Jvm Jvm.ClassFile Sem Op Lib Jvm.Free Jvm.Stand Jvm.Pilot.@@N@@.Jvm.D
/-! MADE BY PROGRAM (witnessworld.py) out of the Statement's table words and the real class files: 19 classes; the members and pool entries that the words name. The judged class is class 1, her method 1. -/
namespace start1
open Jvm.ClassFile
def u (s : String) : CpInfo := .utf8 (stringToUtf16 s)
/-- a pool by its gaps: so many unusable entries, then the entry; so many at the end -/
def gap : Nat → List CpInfo → List CpInfo
  | 0, r => r
  | n + 1, r => .unusable :: gap n r
def poolList (es : List (Nat × CpInfo)) (last : Nat) : List CpInfo := es.foldr (fun e r => gap e.1 (e.2 :: r)) (gap last [])
def pool (es : List (Nat × CpInfo)) (last : Nat) : Array CpInfo := ⟨poolList es last⟩
def fileOf (pool : Array CpInfo) (this : Nat) (attrs : Array Attribute := #[]) (ms : Array MethodInfo := #[]) (fl : Nat := 33) (sup : Nat := 0) (ifs : Array Nat := #[]) (fds : Array FieldInfo := #[]) : ClassFile where
  minorVersion := 0
  majorVersion := 65
  constantPool := pool
  accessFlags := fl
  thisClass := this
  superClass := sup
  interfaces := ifs
  fields := fds
  methods := ms
  attributes := attrs
def plain (name : String) (sup : Option ClassId) : Class where
  name := name
  kind := .ordinary
  loader := none
  accessFlags := 33
  super := sup
  interfaces := #[]
  cf := none
  fields := #[]
  methods := #[]
  instanceTypes := #[]
  staticTypes := #[]
  resolved := #[]
  callSites := []
  init := .initialized
  statics := none
  mirror := none

def pool0 : Array CpInfo := pool [(5, u "<init>"), (0, u "()V"), (1, .class_ 10), (1, u "java/lang/Object")] 113

def k0m0 : Method := { name := "<init>", desc := "()V", sig := { parameters := [], returnType := none }, accessFlags := 1, code := none }
/-- java/lang/Object -/
def k0 : Class := { plain "java/lang/Object" none with
  accessFlags := 33
  interfaces := #[]
  cf := some (fileOf pool0 8 #[] #[{ accessFlags := 1, nameIndex := 5, descriptorIndex := 6, attributes := #[] }] 33 0 #[] #[])
  fields := #[]
  methods := #[k0m0]
  instanceTypes := #[]
  staticTypes := #[]
  resolved := Array.replicate 124 none
  statics := none }

def pool1 : Array CpInfo := pool [(2, .class_ 4), (1, u "java/lang/Object"), (0, u "<init>"), (0, u "()V"), (0, .methodref 8 9), (0, .class_ 10), (0, .nameAndType 11 12), (0, u "com/example/attestrail/attestrail/json/JsonLiteral"), (0, u "of"), (0, u "(Z)Lcom/example/attestrail/attestrail/json/JsonLiteral;"), (0, .methodref 8 14), (0, .nameAndType 15 16), (0, u "toString"), (0, u "()Ljava/lang/String;"), (0, .fieldref 8 18), (0, .nameAndType 19 20), (0, u "TRUE"), (0, u "Lcom/example/attestrail/attestrail/json/JsonLiteral;"), (0, .string 22), (0, u "true"), (0, .methodref 24 25), (0, .class_ 26), (0, .nameAndType 27 28), (0, u "java/lang/String"), (0, u "equals"), (0, u "(Ljava/lang/Object;)Z"), (0, .fieldref 8 30), (0, .nameAndType 31 20), (0, u "FALSE"), (0, .string 33), (0, u "false"), (0, .class_ 35), (0, u "com/example/attestrail/attestrail/json/JsonLiteralOfPinLaw"), (2, u "law"), (0, u "(I)Z")] 3

def k1m0 : Method := { name := "<init>", desc := "()V", sig := { parameters := [], returnType := none }, accessFlags := 2, code := none }
def k1c1 : Code := { maxStack := 2, maxLocals := 4, code := code, exceptionTable := #[], attributes := #[] }
def k1m1 : Method := { name := "law", desc := "(I)Z", sig := { parameters := [.int], returnType := some .boolean }, accessFlags := 9, code := some k1c1 }
/-- com/example/attestrail/attestrail/json/JsonLiteralOfPinLaw -/
def k1 : Class := { plain "com/example/attestrail/attestrail/json/JsonLiteralOfPinLaw" (some 0) with
  accessFlags := 49
  interfaces := #[]
  cf := some (fileOf pool1 34 #[] #[{ accessFlags := 2, nameIndex := 5, descriptorIndex := 6, attributes := #[] }, { accessFlags := 9, nameIndex := 38, descriptorIndex := 39, attributes := #[] }] 49 2 #[] #[])
  fields := #[]
  methods := #[k1m0, k1m1]
  instanceTypes := #[]
  staticTypes := #[]
  resolved := Array.replicate 43 none
  statics := none }

def pool2 : Array CpInfo := pool [(1, .class_ 2), (0, u "java/lang/constant/Constable"), (0, .class_ 4), (0, u "java/lang/Object")] 6

/-- java/lang/constant/Constable -/
def k2 : Class := { plain "java/lang/constant/Constable" (some 0) with
  accessFlags := 1537
  interfaces := #[]
  cf := some (fileOf pool2 1 #[] #[] 1537 3 #[] #[])
  fields := #[]
  methods := #[]
  instanceTypes := #[]
  staticTypes := #[]
  resolved := Array.replicate 11 none
  statics := none }

def pool3 : Array CpInfo := pool [(1, .class_ 2), (0, u "java/lang/Comparable"), (0, .class_ 4), (0, u "java/lang/Object")] 7

/-- java/lang/Comparable -/
def k3 : Class := { plain "java/lang/Comparable" (some 0) with
  accessFlags := 1537
  interfaces := #[]
  cf := some (fileOf pool3 1 #[] #[] 1537 3 #[] #[])
  fields := #[]
  methods := #[]
  instanceTypes := #[]
  staticTypes := #[]
  resolved := Array.replicate 12 none
  statics := none }

def pool4 : Array CpInfo := pool [(1, .class_ 2), (0, u "java/io/Serializable"), (0, .class_ 4), (0, u "java/lang/Object")] 2

/-- java/io/Serializable -/
def k4 : Class := { plain "java/io/Serializable" (some 0) with
  accessFlags := 1537
  interfaces := #[]
  cf := some (fileOf pool4 1 #[] #[] 1537 3 #[] #[])
  fields := #[]
  methods := #[]
  instanceTypes := #[]
  staticTypes := #[]
  resolved := Array.replicate 7 none
  statics := none }

def pool5 : Array CpInfo := pool [(2, .class_ 4), (1, u "java/lang/Enum"), (0, u "name"), (0, u "Ljava/lang/String;"), (2, u "ordinal"), (0, u "I"), (1, .class_ 14), (1, u "java/lang/Object"), (4, u "hash"), (86, .class_ 108), (1, u "java/lang/Enum$EnumDesc"), (2, .class_ 112), (0, u "java/lang/constant/Constable"), (0, .class_ 114), (0, u "java/lang/Comparable"), (0, .class_ 116), (0, u "java/io/Serializable")] 87

/-- java/lang/Enum -/
def k5 : Class := { plain "java/lang/Enum" (some 0) with
  accessFlags := 1057
  interfaces := #[2, 3, 4]
  cf := some (fileOf pool5 2 #[.nestMembers #[106]] #[] 1057 12 #[111, 113, 115] #[{ accessFlags := 18, nameIndex := 5, descriptorIndex := 6, attributes := #[] }, { accessFlags := 18, nameIndex := 9, descriptorIndex := 10, attributes := #[] }, { accessFlags := 2, nameIndex := 19, descriptorIndex := 10, attributes := #[] }])
  fields := #[{ name := "name", type := (.object "java/lang/String"), accessFlags := 18, slot := 0, constantValue := 0 }, { name := "ordinal", type := .int, accessFlags := 18, slot := 1, constantValue := 0 }, { name := "hash", type := .int, accessFlags := 2, slot := 2, constantValue := 0 }]
  methods := #[]
  instanceTypes := #[(.object "java/lang/String"), .int, .int]
  staticTypes := #[]
  resolved := Array.replicate 204 none
  statics := none }

def pool6 : Array CpInfo := pool [(1, .class_ 2), (0, u "com/example/attestrail/attestrail/json/JsonValue"), (0, .class_ 4), (0, u "java/lang/Object")] 13

/-- com/example/attestrail/attestrail/json/JsonValue -/
def k6 : Class := { plain "com/example/attestrail/attestrail/json/JsonValue" (some 0) with
  accessFlags := 1537
  interfaces := #[]
  cf := some (fileOf pool6 1 #[] #[] 1537 3 #[] #[])
  fields := #[]
  methods := #[]
  instanceTypes := #[]
  staticTypes := #[]
  resolved := Array.replicate 18 none
  statics := none }

def pool7 : Array CpInfo := pool [(1, .class_ 2), (0, u "com/example/attestrail/attestrail/json/JsonLiteral"), (0, .fieldref 1 4), (0, .nameAndType 5 6), (0, u "TRUE"), (0, u "Lcom/example/attestrail/attestrail/json/JsonLiteral;"), (0, .fieldref 1 8), (0, .nameAndType 9 6), (0, u "FALSE"), (2, u "NULL"), (2, u "$VALUES"), (0, u "[Lcom/example/attestrail/attestrail/json/JsonLiteral;"), (6, .class_ 25), (1, u "java/lang/Enum"), (6, .fieldref 1 33), (0, .nameAndType 34 35), (0, u "text"), (0, u "Ljava/lang/String;"), (16, .class_ 53), (0, u "com/example/attestrail/attestrail/json/JsonValue"), (7, u "of"), (0, u "(Z)Lcom/example/attestrail/attestrail/json/JsonLiteral;"), (1, u "toString"), (0, u "()Ljava/lang/String;")] 5

def k7c0 : Code := { maxStack := 1, maxLocals := 1, code := prog_129_method_4_code, exceptionTable := #[], attributes := #[] }
def k7m0 : Method := { name := "of", desc := "(Z)Lcom/example/attestrail/attestrail/json/JsonLiteral;", sig := { parameters := [.boolean], returnType := some (.object "com/example/attestrail/attestrail/json/JsonLiteral") }, accessFlags := 9, code := some k7c0 }
def k7c1 : Code := { maxStack := 1, maxLocals := 1, code := prog_129_method_5_code, exceptionTable := #[], attributes := #[] }
def k7m1 : Method := { name := "toString", desc := "()Ljava/lang/String;", sig := { parameters := [], returnType := some (.object "java/lang/String") }, accessFlags := 1, code := some k7c1 }
/-- com/example/attestrail/attestrail/json/JsonLiteral -/
def k7 : Class := { plain "com/example/attestrail/attestrail/json/JsonLiteral" (some 5) with
  accessFlags := 16433
  interfaces := #[6]
  cf := some (fileOf pool7 1 #[] #[{ accessFlags := 9, nameIndex := 61, descriptorIndex := 62, attributes := #[] }, { accessFlags := 1, nameIndex := 64, descriptorIndex := 65, attributes := #[] }] 16433 23 #[52] #[{ accessFlags := 16409, nameIndex := 5, descriptorIndex := 6, attributes := #[] }, { accessFlags := 16409, nameIndex := 9, descriptorIndex := 6, attributes := #[] }, { accessFlags := 16409, nameIndex := 12, descriptorIndex := 6, attributes := #[] }, { accessFlags := 18, nameIndex := 34, descriptorIndex := 35, attributes := #[] }, { accessFlags := 4122, nameIndex := 15, descriptorIndex := 16, attributes := #[] }])
  fields := #[{ name := "TRUE", type := (.object "com/example/attestrail/attestrail/json/JsonLiteral"), accessFlags := 16409, slot := 0, constantValue := 0 }, { name := "FALSE", type := (.object "com/example/attestrail/attestrail/json/JsonLiteral"), accessFlags := 16409, slot := 1, constantValue := 0 }, { name := "NULL", type := (.object "com/example/attestrail/attestrail/json/JsonLiteral"), accessFlags := 16409, slot := 2, constantValue := 0 }, { name := "text", type := (.object "java/lang/String"), accessFlags := 18, slot := 3, constantValue := 0 }, { name := "$VALUES", type := (.array (.object "com/example/attestrail/attestrail/json/JsonLiteral")), accessFlags := 4122, slot := 3, constantValue := 0 }]
  methods := #[k7m0, k7m1]
  instanceTypes := #[(.object "java/lang/String"), .int, .int, (.object "java/lang/String")]
  staticTypes := #[(.object "com/example/attestrail/attestrail/json/JsonLiteral"), (.object "com/example/attestrail/attestrail/json/JsonLiteral"), (.object "com/example/attestrail/attestrail/json/JsonLiteral"), (.array (.object "com/example/attestrail/attestrail/json/JsonLiteral"))]
  resolved := Array.replicate 71 none
  statics := some 0 }

def pool8 : Array CpInfo := pool [(2, .class_ 4), (1, u "java/lang/CharSequence"), (42, .class_ 48), (0, u "java/lang/CharSequence$1CodePointIterator"), (10, .class_ 60), (0, u "java/lang/CharSequence$1CharIterator"), (5, .class_ 67), (0, u "java/lang/Object")] 63

/-- java/lang/CharSequence -/
def k8 : Class := { plain "java/lang/CharSequence" (some 0) with
  accessFlags := 1537
  interfaces := #[]
  cf := some (fileOf pool8 2 #[.nestMembers #[47, 59]] #[] 1537 66 #[] #[])
  fields := #[]
  methods := #[]
  instanceTypes := #[]
  staticTypes := #[]
  resolved := Array.replicate 131 none
  statics := none }

def pool9 : Array CpInfo := pool [(1, .class_ 2), (0, u "java/lang/constant/ConstantDesc"), (0, .class_ 4), (0, u "java/lang/Object")] 32

/-- java/lang/constant/ConstantDesc -/
def k9 : Class := { plain "java/lang/constant/ConstantDesc" (some 0) with
  accessFlags := 1537
  interfaces := #[]
  cf := some (fileOf pool9 1 #[] #[] 1537 3 #[] #[])
  fields := #[]
  methods := #[]
  instanceTypes := #[]
  staticTypes := #[]
  resolved := Array.replicate 37 none
  statics := none }

def pool10 : Array CpInfo := pool [(2, .class_ 4), (1, u "java/lang/Object"), (0, u "<init>"), (0, u "()V"), (2, .fieldref 10 11), (0, .class_ 12), (0, .nameAndType 13 14), (0, u "java/lang/String"), (0, u "value"), (0, u "[B"), (0, .fieldref 10 16), (0, .nameAndType 17 18), (0, u "coder"), (0, u "B"), (2, u "hash"), (0, u "I"), (2, u "hashIsZero"), (0, u "Z"), (11, .fieldref 10 39), (0, .nameAndType 40 26), (0, u "COMPACT_STRINGS"), (66, .class_ 109), (1, u "java/lang/StringLatin1"), (431, .methodref 107 542), (0, .nameAndType 543 544), (0, u "equals"), (0, u "([B[B)Z"), (28, u "(Ljava/lang/Object;)Z"), (1, .class_ 576), (0, u "java/lang/CharSequence"), (22, u "CASE_INSENSITIVE_ORDER"), (0, u "Ljava/util/Comparator;"), (500, u "serialPersistentFields"), (0, u "[Ljava/io/ObjectStreamField;"), (0, .class_ 1104), (0, u "java/lang/String$CaseInsensitiveComparator"), (1, .class_ 1107), (0, u "java/io/Serializable"), (0, .class_ 1109), (0, u "java/lang/Comparable"), (0, .class_ 1111), (0, u "java/lang/constant/Constable"), (0, .class_ 1113), (0, u "java/lang/constant/ConstantDesc"), (2, u "serialVersionUID"), (0, u "J"), (3, u "REPL"), (0, u "C"), (2, u "LATIN1"), (1, u "UTF16")] 323

def k10m0 : Method := { name := "<init>", desc := "()V", sig := { parameters := [], returnType := none }, accessFlags := 1, code := none }
def k10c1 : Code := { maxStack := 2, maxLocals := 3, code := jdk_42_method_66_code, exceptionTable := #[], attributes := #[] }
def k10m1 : Method := { name := "equals", desc := "(Ljava/lang/Object;)Z", sig := { parameters := [(.object "java/lang/Object")], returnType := some .boolean }, accessFlags := 1, code := some k10c1 }
/-- java/lang/String -/
def k10 : Class := { plain "java/lang/String" (some 0) with
  accessFlags := 49
  interfaces := #[4, 3, 8, 2, 9]
  cf := some (fileOf pool10 10 #[.nestMembers #[1103]] #[{ accessFlags := 1, nameIndex := 5, descriptorIndex := 6, attributes := #[] }, { accessFlags := 1, nameIndex := 543, descriptorIndex := 573, attributes := #[] }] 49 2 #[1106, 1108, 575, 1110, 1112] #[{ accessFlags := 18, nameIndex := 13, descriptorIndex := 14, attributes := #[] }, { accessFlags := 18, nameIndex := 17, descriptorIndex := 18, attributes := #[] }, { accessFlags := 2, nameIndex := 21, descriptorIndex := 22, attributes := #[] }, { accessFlags := 2, nameIndex := 25, descriptorIndex := 26, attributes := #[] }, { accessFlags := 26, nameIndex := 1116, descriptorIndex := 1117, attributes := #[] }, { accessFlags := 24, nameIndex := 40, descriptorIndex := 26, attributes := #[] }, { accessFlags := 26, nameIndex := 1101, descriptorIndex := 1102, attributes := #[] }, { accessFlags := 26, nameIndex := 1121, descriptorIndex := 1122, attributes := #[] }, { accessFlags := 25, nameIndex := 599, descriptorIndex := 600, attributes := #[] }, { accessFlags := 24, nameIndex := 1125, descriptorIndex := 18, attributes := #[] }, { accessFlags := 24, nameIndex := 1127, descriptorIndex := 18, attributes := #[] }])
  fields := #[{ name := "value", type := (.array .byte), accessFlags := 18, slot := 0, constantValue := 0 }, { name := "coder", type := .byte, accessFlags := 18, slot := 1, constantValue := 0 }, { name := "hash", type := .int, accessFlags := 2, slot := 2, constantValue := 0 }, { name := "hashIsZero", type := .boolean, accessFlags := 2, slot := 3, constantValue := 0 }, { name := "serialVersionUID", type := .long, accessFlags := 26, slot := 0, constantValue := 0 }, { name := "COMPACT_STRINGS", type := .boolean, accessFlags := 24, slot := 1, constantValue := 0 }, { name := "serialPersistentFields", type := (.array (.object "java/io/ObjectStreamField")), accessFlags := 26, slot := 2, constantValue := 0 }, { name := "REPL", type := .char, accessFlags := 26, slot := 3, constantValue := 0 }, { name := "CASE_INSENSITIVE_ORDER", type := (.object "java/util/Comparator"), accessFlags := 25, slot := 4, constantValue := 0 }, { name := "LATIN1", type := .byte, accessFlags := 24, slot := 5, constantValue := 0 }, { name := "UTF16", type := .byte, accessFlags := 24, slot := 6, constantValue := 0 }]
  methods := #[k10m0, k10m1]
  instanceTypes := #[(.array .byte), .byte, .int, .boolean]
  staticTypes := #[.long, .boolean, (.array (.object "java/io/ObjectStreamField")), .char, (.object "java/util/Comparator"), .byte, .byte]
  resolved := Array.replicate 1451 none
  statics := some 1 }

def pool11 : Array CpInfo := pool [(4, .class_ 6), (1, u "java/lang/Object"), (0, u "<init>"), (0, u "()V"), (5, .class_ 16), (1, u "java/lang/StringLatin1"), (104, u "$assertionsDisabled"), (0, u "Z"), (98, .class_ 223), (1, u "java/lang/StringLatin1$LinesSpliterator"), (57, u "equals"), (0, u "([B[B)Z"), (107, .class_ 391), (0, u "java/lang/StringLatin1$CharsSpliterator")] 3

def k11m0 : Method := { name := "<init>", desc := "()V", sig := { parameters := [], returnType := none }, accessFlags := 0, code := none }
def k11c1 : Code := { maxStack := 3, maxLocals := 3, code := jdk_43_method_13_code, exceptionTable := #[], attributes := #[] }
def k11m1 : Method := { name := "equals", desc := "([B[B)Z", sig := { parameters := [(.array .byte), (.array .byte)], returnType := some .boolean }, accessFlags := 9, code := some k11c1 }
/-- java/lang/StringLatin1 -/
def k11 : Class := { plain "java/lang/StringLatin1" (some 0) with
  accessFlags := 48
  interfaces := #[]
  cf := some (fileOf pool11 14 #[.nestMembers #[390, 221]] #[{ accessFlags := 0, nameIndex := 7, descriptorIndex := 8, attributes := #[] }, { accessFlags := 9, nameIndex := 281, descriptorIndex := 282, attributes := #[] }] 48 4 #[] #[{ accessFlags := 4120, nameIndex := 121, descriptorIndex := 122, attributes := #[] }])
  fields := #[{ name := "$assertionsDisabled", type := .boolean, accessFlags := 4120, slot := 0, constantValue := 0 }]
  methods := #[k11m0, k11m1]
  instanceTypes := #[]
  staticTypes := #[.boolean]
  resolved := Array.replicate 395 none
  statics := none }

def pool12 : Array CpInfo := pool [(2, .class_ 4), (1, u "java/lang/Object"), (0, u "<init>"), (0, u "()V"), (17, .class_ 26), (1, u "jdk/internal/util/Preconditions"), (28, .class_ 56), (0, u "jdk/internal/util/Preconditions$4"), (57, .class_ 115), (0, u "jdk/internal/util/Preconditions$1"), (7, u "SIOOBE_FORMATTER"), (0, u "Ljava/util/function/BiFunction;"), (0, .class_ 126), (0, u "jdk/internal/util/Preconditions$2"), (3, u "AIOOBE_FORMATTER"), (0, .class_ 132), (0, u "jdk/internal/util/Preconditions$3"), (3, u "IOOBE_FORMATTER")] 57

def k12m0 : Method := { name := "<init>", desc := "()V", sig := { parameters := [], returnType := none }, accessFlags := 1, code := none }
/-- jdk/internal/util/Preconditions -/
def k12 : Class := { plain "jdk/internal/util/Preconditions" (some 0) with
  accessFlags := 33
  interfaces := #[]
  cf := some (fileOf pool12 24 #[.nestMembers #[55, 131, 125, 114]] #[{ accessFlags := 1, nameIndex := 5, descriptorIndex := 6, attributes := #[] }] 33 2 #[] #[{ accessFlags := 25, nameIndex := 123, descriptorIndex := 124, attributes := #[] }, { accessFlags := 25, nameIndex := 130, descriptorIndex := 124, attributes := #[] }, { accessFlags := 25, nameIndex := 136, descriptorIndex := 124, attributes := #[] }])
  fields := #[{ name := "SIOOBE_FORMATTER", type := (.object "java/util/function/BiFunction"), accessFlags := 25, slot := 0, constantValue := 0 }, { name := "AIOOBE_FORMATTER", type := (.object "java/util/function/BiFunction"), accessFlags := 25, slot := 1, constantValue := 0 }, { name := "IOOBE_FORMATTER", type := (.object "java/util/function/BiFunction"), accessFlags := 25, slot := 2, constantValue := 0 }]
  methods := #[k12m0]
  instanceTypes := #[]
  staticTypes := #[(.object "java/util/function/BiFunction"), (.object "java/util/function/BiFunction"), (.object "java/util/function/BiFunction")]
  resolved := Array.replicate 194 none
  statics := some 2 }

def pool13 : Array CpInfo := pool [(9, u "<init>"), (6, .class_ 18), (1, u "java/lang/Object"), (0, u "()V"), (1, .class_ 23), (1, u "jdk/internal/util/ArraysSupport"), (0, u "LOG2_ARRAY_LONG_INDEX_SCALE"), (0, u "I"), (2, u "U"), (0, u "Ljdk/internal/misc/Unsafe;"), (8, u "BIG_ENDIAN"), (0, u "Z"), (8, u "LOG2_BYTE_BIT_SIZE"), (4, u "LOG2_ARRAY_INT_INDEX_SCALE"), (54, u "JLA"), (0, u "Ljdk/internal/access/JavaLangAccess;"), (11, u "LOG2_ARRAY_BOOLEAN_INDEX_SCALE"), (9, u "LOG2_ARRAY_BYTE_INDEX_SCALE"), (5, u "LOG2_ARRAY_CHAR_INDEX_SCALE"), (5, u "LOG2_ARRAY_SHORT_INDEX_SCALE"), (18, u "LOG2_ARRAY_FLOAT_INDEX_SCALE"), (24, u "LOG2_ARRAY_DOUBLE_INDEX_SCALE"), (89, u "T_BOOLEAN"), (2, u "T_CHAR"), (1, u "T_FLOAT"), (1, u "T_DOUBLE"), (1, u "T_BYTE"), (1, u "T_SHORT"), (1, u "T_INT"), (1, u "T_LONG"), (1, u "SOFT_MAX_ARRAY_LENGTH")] 83

def k13m0 : Method := { name := "<init>", desc := "()V", sig := { parameters := [], returnType := none }, accessFlags := 2, code := none }
/-- jdk/internal/util/ArraysSupport -/
def k13 : Class := { plain "jdk/internal/util/ArraysSupport" (some 0) with
  accessFlags := 33
  interfaces := #[]
  cf := some (fileOf pool13 21 #[] #[{ accessFlags := 2, nameIndex := 9, descriptorIndex := 19, attributes := #[] }] 33 16 #[] #[{ accessFlags := 24, nameIndex := 28, descriptorIndex := 29, attributes := #[] }, { accessFlags := 26, nameIndex := 38, descriptorIndex := 39, attributes := #[] }, { accessFlags := 25, nameIndex := 121, descriptorIndex := 25, attributes := #[] }, { accessFlags := 25, nameIndex := 131, descriptorIndex := 25, attributes := #[] }, { accessFlags := 25, nameIndex := 137, descriptorIndex := 25, attributes := #[] }, { accessFlags := 25, nameIndex := 143, descriptorIndex := 25, attributes := #[] }, { accessFlags := 25, nameIndex := 53, descriptorIndex := 25, attributes := #[] }, { accessFlags := 25, nameIndex := 24, descriptorIndex := 25, attributes := #[] }, { accessFlags := 25, nameIndex := 162, descriptorIndex := 25, attributes := #[] }, { accessFlags := 25, nameIndex := 187, descriptorIndex := 25, attributes := #[] }, { accessFlags := 26, nameIndex := 48, descriptorIndex := 25, attributes := #[] }, { accessFlags := 25, nameIndex := 277, descriptorIndex := 25, attributes := #[] }, { accessFlags := 25, nameIndex := 280, descriptorIndex := 25, attributes := #[] }, { accessFlags := 25, nameIndex := 282, descriptorIndex := 25, attributes := #[] }, { accessFlags := 25, nameIndex := 284, descriptorIndex := 25, attributes := #[] }, { accessFlags := 25, nameIndex := 286, descriptorIndex := 25, attributes := #[] }, { accessFlags := 25, nameIndex := 288, descriptorIndex := 25, attributes := #[] }, { accessFlags := 25, nameIndex := 290, descriptorIndex := 25, attributes := #[] }, { accessFlags := 25, nameIndex := 292, descriptorIndex := 25, attributes := #[] }, { accessFlags := 26, nameIndex := 108, descriptorIndex := 109, attributes := #[] }, { accessFlags := 25, nameIndex := 294, descriptorIndex := 25, attributes := #[] }])
  fields := #[{ name := "U", type := (.object "jdk/internal/misc/Unsafe"), accessFlags := 24, slot := 0, constantValue := 0 }, { name := "BIG_ENDIAN", type := .boolean, accessFlags := 26, slot := 1, constantValue := 0 }, { name := "LOG2_ARRAY_BOOLEAN_INDEX_SCALE", type := .int, accessFlags := 25, slot := 2, constantValue := 0 }, { name := "LOG2_ARRAY_BYTE_INDEX_SCALE", type := .int, accessFlags := 25, slot := 3, constantValue := 0 }, { name := "LOG2_ARRAY_CHAR_INDEX_SCALE", type := .int, accessFlags := 25, slot := 4, constantValue := 0 }, { name := "LOG2_ARRAY_SHORT_INDEX_SCALE", type := .int, accessFlags := 25, slot := 5, constantValue := 0 }, { name := "LOG2_ARRAY_INT_INDEX_SCALE", type := .int, accessFlags := 25, slot := 6, constantValue := 0 }, { name := "LOG2_ARRAY_LONG_INDEX_SCALE", type := .int, accessFlags := 25, slot := 7, constantValue := 0 }, { name := "LOG2_ARRAY_FLOAT_INDEX_SCALE", type := .int, accessFlags := 25, slot := 8, constantValue := 0 }, { name := "LOG2_ARRAY_DOUBLE_INDEX_SCALE", type := .int, accessFlags := 25, slot := 9, constantValue := 0 }, { name := "LOG2_BYTE_BIT_SIZE", type := .int, accessFlags := 26, slot := 10, constantValue := 0 }, { name := "T_BOOLEAN", type := .int, accessFlags := 25, slot := 11, constantValue := 0 }, { name := "T_CHAR", type := .int, accessFlags := 25, slot := 12, constantValue := 0 }, { name := "T_FLOAT", type := .int, accessFlags := 25, slot := 13, constantValue := 0 }, { name := "T_DOUBLE", type := .int, accessFlags := 25, slot := 14, constantValue := 0 }, { name := "T_BYTE", type := .int, accessFlags := 25, slot := 15, constantValue := 0 }, { name := "T_SHORT", type := .int, accessFlags := 25, slot := 16, constantValue := 0 }, { name := "T_INT", type := .int, accessFlags := 25, slot := 17, constantValue := 0 }, { name := "T_LONG", type := .int, accessFlags := 25, slot := 18, constantValue := 0 }, { name := "JLA", type := (.object "jdk/internal/access/JavaLangAccess"), accessFlags := 26, slot := 19, constantValue := 0 }, { name := "SOFT_MAX_ARRAY_LENGTH", type := .int, accessFlags := 25, slot := 20, constantValue := 0 }]
  methods := #[k13m0]
  instanceTypes := #[]
  staticTypes := #[(.object "jdk/internal/misc/Unsafe"), .boolean, .int, .int, .int, .int, .int, .int, .int, .int, .int, .int, .int, .int, .int, .int, .int, .int, .int, (.object "jdk/internal/access/JavaLangAccess"), .int]
  resolved := Array.replicate 378 none
  statics := none }

def pool14 : Array CpInfo := pool [(1, u "java/lang/Cloneable"), (0, .class_ 1), (0, u "java/lang/Object"), (0, .class_ 3)] 3

/-- java/lang/Cloneable -/
def k14 : Class := { plain "java/lang/Cloneable" (some 0) with
  accessFlags := 1537
  interfaces := #[]
  cf := some (fileOf pool14 2 #[] #[] 1537 4 #[] #[])
  fields := #[]
  methods := #[]
  instanceTypes := #[]
  staticTypes := #[]
  resolved := Array.replicate 8 none
  statics := none }

/-- the primitive byte -/
def k15 : Class := { plain "byte" none with kind := .primitive 'B', accessFlags := 0x411 }
/-- [B -/
def k16 : Class := { plain "[B" (some 0) with kind := .array 15 .byte, interfaces := #[14, 4], accessFlags := 1041 }

/-- the primitive int -/
def k17 : Class := { plain "int" none with kind := .primitive 'I', accessFlags := 0x411 }
/-- [I -/
def k18 : Class := { plain "[I" (some 0) with kind := .array 17 .int, interfaces := #[14, 4], accessFlags := 1041 }

def heap : Heap := #[{ cls := 7, slots := #[.ref 5, .ref 8, .null, .null], vm := .statics 7 },
  { cls := 10, slots := #[.long 0, .int 1, .null, .int 0, .null, .int 0, .int 0], vm := .statics 10 },
  { cls := 12, slots := #[.null, .null, .null], vm := .statics 12 },
  { cls := 16, slots := #[.int 116, .int 114, .int 117, .int 101], vm := .none },
  { cls := 10, slots := #[.ref 3, .int 0, .int 0, .int 0], vm := .none },
  { cls := 7, slots := #[.null, .int 0, .int 0, .ref 4], vm := .none },
  { cls := 16, slots := #[.int 102, .int 97, .int 108, .int 115, .int 101], vm := .none },
  { cls := 10, slots := #[.ref 6, .int 0, .int 0, .int 0], vm := .none },
  { cls := 7, slots := #[.null, .int 1, .int 0, .ref 7], vm := .none }]
def classes : Array Class := #[k0, k1, k2, k3, k4, k5, k6, k7, k8, k9, k10, k11, k12, k13, k14, k15, k16, k17, k18]
def interned : List (Array UInt16 × Addr) := []
def slotsUsed : Nat := 39
def theMethod : MethodId := ⟨1, 1⟩
def args0 : Array Value := #[.int 0]
def aboutOver (below : List Frame) : State where
  vm := { classes := classes, interned := interned.toArray }
  heap := heap
  slotsUsed := slotsUsed
  threads := #[{ frames := .invoking theMethod args0 :: below }]
def below0 : List Frame := [.native { method := ⟨0, 0⟩, args := #[] }]
def about1 : State := aboutOver below0
def p0 : Program := .bare "" "" ""
def e0 : Env := launch0.env 0 0 0
theorem w_frames : about1.frames = Frame.invoking theMethod args0 :: below0 := rfl
set_option maxRecDepth 65536 in
theorem w_args : argsFit about1.vm theMethod args0 = true := by decide +kernel
set_option maxRecDepth 65536 in
theorem w_heap : heapFits about1 = true := by decide +kernel
set_option maxRecDepth 65536 in
theorem w_runnable : about1.curStatus? = some .runnable := by decide +kernel
set_option maxRecDepth 65536 in
theorem w_alone : about1.alone = true := by decide +kernel
set_option maxRecDepth 65536 in
theorem w_named : about1.methodNamed? x = some theMethod := by decide +kernel
set_option maxRecDepth 65536 in
theorem w_hears : about1.hears theMethod below0 = true := by decide +kernel
set_option maxRecDepth 65536 in
theorem w_ripe : about1.ripe theMethod args0 below0 = true := by decide +kernel
theorem w_running : about1.status = .running := rfl
set_option maxRecDepth 65536 in
theorem w_room : about1.hasRoom e0.platform room_1 = true :=
  launch0.hasRoom_least _ room_1 (by decide +kernel) (by decide +kernel) (by decide +kernel) (by decide +kernel) (by decide +kernel) (by decide +kernel)
theorem allAtoms_all (ts : List Jvm.Cond) (a : Array Jvm.Value) (st : Jvm.State) : (allAtoms ts).before a st = ts.all (fun c => c.before a st) := by
  induction ts with
  | nil => rfl
  | cons c t ih =>
    show (Jvm.Cond.and c (allAtoms t)).before a st = _
    rw [Jvm.Cond.before_and, ih, List.all_cons]
def words1 : List Jvm.Cond := Jvm.Cond.code x code maxLocals ret :: tables_1
/-- a 'code' word, met by the world's own term for the bytes: nothing is compared byte by byte -/
theorem code_word {y : MethodName} {bytes : ByteArray} {mx : Nat} {rt : Option FieldType} {a : Array Value} {s : State} {m : MethodId} {meth : Method} {c : Code} (h1 : s.methodNamed? y = some m) (h2 : s.vm.method? m = some meth) (h3 : meth.code = some c) (h4 : c.code = bytes)
    (h5 : (c.maxLocals == mx && c.exceptionTable.isEmpty && decide (c.maxStack ≤ mostOperands) && decide (meth.sig.returnType = rt) && !meth.locks && decide (parseMethodDescriptor y.desc = some meth.sig)) = true) : (Jvm.Cond.code y bytes mx rt).before a s = true := by
  simp only [Bool.and_eq_true, beq_iff_eq, Bool.not_eq_true', decide_eq_true_eq] at h5
  obtain ⟨⟨⟨⟨⟨g1, g2⟩, g3⟩, g4⟩, g5⟩, g6⟩ := h5
  simp [Cond.before, Cond.holds, Cond.value, h1, h2, h3, h4, g1, g2, g3, g4, g5, g6]
def isCode : Jvm.Cond → Bool
  | .code _ _ _ _ => true
  | _ => false
theorem all_split {L : List Jvm.Cond} {P : Jvm.Cond → Bool} (h1 : L.all (fun c => isCode c || P c) = true) (h2 : ∀ c ∈ L.filter isCode, P c = true) : L.all P = true := by
  refine List.all_eq_true.mpr fun c hc => ?_
  have h := List.all_eq_true.mp h1 c hc
  rcases Bool.eq_false_or_eq_true (isCode c) with hi | hi
  · exact h2 c (List.mem_filter.mpr ⟨hc, hi⟩)
  · simpa [hi] using h
set_option maxRecDepth 65536 in
theorem w_c0 : (Jvm.Cond.code x code maxLocals ret).before args0 about1 = true := code_word (m := ⟨1, 1⟩) (meth := k1m1) (c := k1c1) (by decide +kernel) rfl rfl rfl (by decide +kernel)
set_option maxRecDepth 65536 in
theorem w_c1 : (Jvm.Cond.code ({ cls := "com/example/attestrail/attestrail/json/JsonLiteral", name := "of", desc := "(Z)Lcom/example/attestrail/attestrail/json/JsonLiteral;" } : Jvm.MethodName) prog_129_method_4_code (1 : Nat) (Option.some (Jvm.ClassFile.FieldType.object "com/example/attestrail/attestrail/json/JsonLiteral"))).before args0 about1 = true := code_word (m := ⟨7, 0⟩) (meth := k7m0) (c := k7c0) (by decide +kernel) rfl rfl rfl (by decide +kernel)
set_option maxRecDepth 65536 in
theorem w_c2 : (Jvm.Cond.code ({ cls := "com/example/attestrail/attestrail/json/JsonLiteral", name := "toString", desc := "()Ljava/lang/String;" } : Jvm.MethodName) prog_129_method_5_code (1 : Nat) (Option.some (Jvm.ClassFile.FieldType.object "java/lang/String"))).before args0 about1 = true := code_word (m := ⟨7, 1⟩) (meth := k7m1) (c := k7c1) (by decide +kernel) rfl rfl rfl (by decide +kernel)
set_option maxRecDepth 65536 in
theorem w_c3 : (Jvm.Cond.code ({ cls := "java/lang/String", name := "equals", desc := "(Ljava/lang/Object;)Z" } : Jvm.MethodName) jdk_42_method_66_code (3 : Nat) (Option.some Jvm.ClassFile.FieldType.boolean)).before args0 about1 = true := code_word (m := ⟨10, 1⟩) (meth := k10m1) (c := k10c1) (by decide +kernel) rfl rfl rfl (by decide +kernel)
set_option maxRecDepth 65536 in
theorem w_c4 : (Jvm.Cond.code ({ cls := "java/lang/StringLatin1", name := "equals", desc := "([B[B)Z" } : Jvm.MethodName) jdk_43_method_13_code (3 : Nat) (Option.some Jvm.ClassFile.FieldType.boolean)).before args0 about1 = true := code_word (m := ⟨11, 1⟩) (meth := k11m1) (c := k11c1) (by decide +kernel) rfl rfl rfl (by decide +kernel)
def codes1 : List Jvm.Cond := [Jvm.Cond.code x code maxLocals ret, Jvm.Cond.code ({ cls := "com/example/attestrail/attestrail/json/JsonLiteral", name := "of", desc := "(Z)Lcom/example/attestrail/attestrail/json/JsonLiteral;" } : Jvm.MethodName) prog_129_method_4_code (1 : Nat) (Option.some (Jvm.ClassFile.FieldType.object "com/example/attestrail/attestrail/json/JsonLiteral")), Jvm.Cond.code ({ cls := "com/example/attestrail/attestrail/json/JsonLiteral", name := "toString", desc := "()Ljava/lang/String;" } : Jvm.MethodName) prog_129_method_5_code (1 : Nat) (Option.some (Jvm.ClassFile.FieldType.object "java/lang/String")), Jvm.Cond.code ({ cls := "java/lang/String", name := "equals", desc := "(Ljava/lang/Object;)Z" } : Jvm.MethodName) jdk_42_method_66_code (3 : Nat) (Option.some Jvm.ClassFile.FieldType.boolean), Jvm.Cond.code ({ cls := "java/lang/StringLatin1", name := "equals", desc := "([B[B)Z" } : Jvm.MethodName) jdk_43_method_13_code (3 : Nat) (Option.some Jvm.ClassFile.FieldType.boolean)]
set_option maxRecDepth 65536 in
theorem codes_eq : words1.filter isCode = codes1 := rfl
theorem w_codes : ∀ c ∈ words1.filter isCode, c.before args0 about1 = true := by
  rw [codes_eq]
  intro c hc
  simp only [codes1, List.mem_cons, List.not_mem_nil, or_false] at hc
  rcases hc with rfl | rfl | rfl | rfl | rfl
  · exact w_c0
  · exact w_c1
  · exact w_c2
  · exact w_c3
  · exact w_c4
set_option maxRecDepth 65536 in
theorem w_t1 : (words1.take 24).all (fun c => isCode c || c.before args0 about1) = true := by decide +kernel
set_option maxRecDepth 65536 in
theorem w_t2 : (words1.drop 24).all (fun c => isCode c || c.before args0 about1) = true := by decide +kernel
theorem w_tables : (allAtoms (Jvm.Cond.code x code maxLocals ret :: tables_1)).before args0 about1 = true := by
  rw [allAtoms_all]
  show words1.all (fun c => c.before args0 about1) = true
  refine all_split ?_ w_codes
  rw [← List.take_append_drop 24 words1, List.all_append, w_t1, w_t2]
  rfl
set_option maxRecDepth 65536 in
theorem w_rest : rest_1_c.before args0 about1 = true := by decide +kernel
set_option maxRecDepth 65536 in
theorem w_case : (Jvm.Cond.and given_1 narrow_1).before args0 about1 = true := by decide +kernel
set_option maxRecDepth 65536 in
theorem w_consts : constsHeld consts_1 about1 := Jvm.Lit.constsHeldB_iff.mp (by decide +kernel)
theorem w_applies : (headSpec (Jvm.Cond.code x code maxLocals ret :: tables_1) room_1).applies x e0.platform about1 = true :=
  (Spec.applies_iff w_frames).mpr ⟨w_running, w_runnable, w_alone, w_named, w_hears, w_ripe, w_room, w_tables⟩
theorem atStart : AtStart classFile x code maxLocals ret World_1 tables_1 room_1 Calls_1 rest_1 Pre_1 launch0 p0 e0 about1 theMethod args0 below0 :=
  ⟨lists_1, trivial, launch0.admits_env _ _ _, launch0.least_env, fairChoices_fair.cas, fairChoices_fair.clock, w_frames, w_args, w_heap, w_applies, ⟨w_consts, trivial⟩, w_rest, w_case⟩
end start1
theorem witness_1 : WitnessClaimed_1 := ⟨start1.p0, start1.e0, start1.about1, start1.theMethod, start1.args0, start1.below0, start1.atStart⟩
end Jvm.Pilot.@@N@@
